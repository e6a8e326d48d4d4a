import JvmDerived
import JvmDerived.Pilot.@@N@@Statement
import JvmDerived.Pilot.@@N@@Code
set_option linter.unusedVariables false
set_option linter.unusedSimpArgs false
@@BLOCK:NumsL.lean.txt@@
namespace Jvm.RoadKit
open Sem ClassFile Op Lib Jvm.Stand Jvm.Free Jvm.LawKit
section New
variable {p : Program} {l : Launch} {e : Env} {R : Room} {s : State} {m : MethodId} {args : Array Value} {below : List Frame} {meth : Method} {c : Code} {T : State} {locs : List Loc} {cells slots : Nat}
theorem retI (X : Stand p l e R s m args below meth c T locs cells slots) (hx : p.tables.exec = Jvm.exec) {pc : Nat} {Ls : Array Slot} {z : Int32} {rest : List Value} (hret : meth.sig.returnType = some .int) (hd : decode c.code pc = .ok (.ireturn, 1)) {fs : List Frame}
    (hl : ∀ (f : JFrame) (acts : List Action), f.method = m → f.locked = none → f.entered = [] → (doReturn e (T.setTop f) acts (some (.int z))).1 = T.setFrames fs) : Steps p.tables e below (T.setTop (mkF m pc Ls (.int z :: rest))) (T.setFrames fs) := by
  have hm' : T.vm.method? m = some meth := X.method'
  have hn : narrow .int (.int z) = .int z := rfl
  show Steps p.tables e below (T.setTop { method := m, pc := pc, locals := Ls, stack := _ :: rest, locked := none }) _
  jvm_step X.here [X.here.top, hx, hd, hm', hret, hn]
  first | (intro acts; rw [hl _ acts rfl rfl rfl]) | rw [hl _ _ rfl rfl rfl]
  exact Steps.refl _
end New
end Jvm.RoadKit
namespace Jvm.Pilot.@@N@@
open Jvm Jvm.ClassFile Sem Op Lib Jvm.Free Jvm.Stand Jvm.LawKit Jvm.RoadKit Bundle Jvm.Pilot.@@N@@.Jvm.D
/-- what a walk comes to, said forward -/
def Go (p : Program) (e : Env) (below : List Frame) (R : State → Outcome → Prop) (A : State) : Prop := ∃ t o, Steps p.tables e below A t ∧ R t o
def Fin1 (s : State) (below : List Frame) (Q : Option Value → Heap → List Loc → Prop) (K N : Nat) (t : State) (o : Outcome) : Prop := t.status = .running ∧ Ended t below o ∧ ∃ v L, o = .returned v ∧ Q v t.heap L ∧ FrameEnd s o t L K N
theorem Go.step {p : Program} {e : Env} {below : List Frame} {R : State → Outcome → Prop} {A B : State} (k : ∀ t, Steps p.tables e below A t → Steps p.tables e below B t) (h : Go p e below R A) : Go p e below R B := by
  obtain ⟨t, o, h1, h2⟩ := h
  exact ⟨t, o, k t h1, h2⟩
section GoRet
variable {p : Program} {l : Launch} {e : Env} {R : Room} {s : State} {m : MethodId} {args : Array Value} {below : List Frame} {meth : Method} {c : Code} {T : State} {locs : List Loc} {cells slots : Nat} {Q : Option Value → Heap → List Loc → Prop} {K N pc : Nat} {Ls : Array Slot} {rest : List Value}
theorem Go.retZ (X : Stand p l e R s m args below meth c T locs cells slots) (hx : p.tables.exec = Jvm.exec) {z : Int32} {t : FieldType} (hret : meth.sig.returnType = some t) (ht : t = .boolean ∨ t = .byte ∨ t = .char ∨ t = .short) (hlk : meth.locks = false) (hd : decode c.code pc = .ok (.ireturn, 1)) (hq : Q (some (.int (nar t z))) T.heap locs) (hc : cells ≤ K) (hn : slots ≤ N) : Go p e below (Fin1 s below Q K N) (T.setTop (mkF m pc Ls (.int z :: rest))) := by
  obtain ⟨fs, hr, hrun, hended, hW, hsame⟩ := X.leave (v := some (.int (nar t z))) (fun h => by rw [hret] at h; cases h) hlk
  exact ⟨_, _, retN X hx hret ht hd hr, hrun, hended, _, _, rfl, hq, ⟨_, rfl⟩, hW, hsame.mono hc hn⟩
theorem Go.retI (X : Stand p l e R s m args below meth c T locs cells slots) (hx : p.tables.exec = Jvm.exec) {z : Int32} (hret : meth.sig.returnType = some .int) (hlk : meth.locks = false) (hd : decode c.code pc = .ok (.ireturn, 1)) (hq : Q (some (.int z)) T.heap locs) (hc : cells ≤ K) (hn : slots ≤ N) : Go p e below (Fin1 s below Q K N) (T.setTop (mkF m pc Ls (.int z :: rest))) := by
  obtain ⟨fs, hr, hrun, hended, hW, hsame⟩ := X.leave (v := some (.int z)) (fun h => by rw [hret] at h; cases h) hlk
  exact ⟨_, _, Jvm.RoadKit.retI X hx hret hd hr, hrun, hended, _, _, rfl, hq, ⟨_, rfl⟩, hW, hsame.mono hc hn⟩
theorem Go.retJ (X : Stand p l e R s m args below meth c T locs cells slots) (hx : p.tables.exec = Jvm.exec) {z : Int64} (hret : meth.sig.returnType = some .long) (hlk : meth.locks = false) (hd : decode c.code pc = .ok (.lreturn, 1)) (hq : Q (some (.long z)) T.heap locs) (hc : cells ≤ K) (hn : slots ≤ N) : Go p e below (Fin1 s below Q K N) (T.setTop (mkF m pc Ls (.long z :: rest))) := by
  obtain ⟨fs, hr, hrun, hended, hW, hsame⟩ := X.leave (v := some (.long z)) (fun h => by rw [hret] at h; cases h) hlk
  exact ⟨_, _, retOut X hx hret rfl (Or.inr (Or.inl ⟨rfl, rfl, _, rfl⟩)) hd hr, hrun, hended, _, _, rfl, hq, ⟨_, rfl⟩, hW, hsame.mono hc hn⟩
theorem Go.retR (X : Stand p l e R s m args below meth c T locs cells slots) (hx : p.tables.exec = Jvm.exec) {w : Value} {t : FieldType} (hret : meth.sig.returnType = some t) (ht : t.isReference = true) (hw : w.isRef = true) (hlk : meth.locks = false) (hd : decode c.code pc = .ok (.areturn, 1)) (hq : Q (some w) T.heap locs) (hc : cells ≤ K) (hn : slots ≤ N) : Go p e below (Fin1 s below Q K N) (T.setTop (mkF m pc Ls (w :: rest))) := by
  obtain ⟨fs, hr, hrun, hended, hW, hsame⟩ := X.leave (v := some w) (fun h => by rw [hret] at h; cases h) hlk
  have hnw : narrow t w = w := by rcases ref_cases hw with rfl | ⟨a, rfl⟩ <;> cases t <;> first | rfl | (cases ht)
  exact ⟨_, _, retOut X hx hret hnw (Or.inr (Or.inr (Or.inr (Or.inr ⟨rfl, ht, hw⟩)))) hd hr, hrun, hended, _, _, rfl, hq, ⟨_, rfl⟩, hW, hsame.mono hc hn⟩
theorem Go.retV (X : Stand p l e R s m args below meth c T locs cells slots) (hx : p.tables.exec = Jvm.exec) (hret : meth.sig.returnType = none) (hlk : meth.locks = false) (hd : decode c.code pc = .ok (.return_, 1)) (hq : Q none T.heap locs) (hc : cells ≤ K) (hn : slots ≤ N) : Go p e below (Fin1 s below Q K N) (T.setTop (mkF m pc Ls [])) := by
  obtain ⟨fs, hr, hrun, hended, hW, hsame⟩ := X.leave (v := none) (fun _ => rfl) hlk
  exact ⟨_, _, X.returnOut hx hret hd hr, hrun, hended, _, _, rfl, hq, ⟨_, rfl⟩, hW, hsame.mono hc hn⟩
end GoRet
def Fin2 (s : State) (below : List Frame) (Q : Option Value → Heap → List Loc → Prop) (K N : Nat) (t : State) (o : Outcome) : Prop := t.status = .running ∧ Ended t below o ∧ ∃ v L, o = .returned v ∧ Q v t.heap L ∧ ReturnedEndW s o t L K N
theorem wmono {s t : State} {o : Outcome} {L : List Loc} {k n k' n' : Nat} (h : ReturnedEndW s o t L k n) (h1 : k ≤ k') (h2 : n ≤ n') : ReturnedEndW s o t L k' n' := ⟨h.1, h.2.1, h.2.2.1, h.2.2.2.mono h1 h2⟩
section GoRetW
variable {p : Program} {l : Launch} {e : Env} {R : Room} {s : State} {vm0 : Vm} {m : MethodId} {args : Array Value} {below : List Frame} {meth : Method} {c : Code} {T : State} {locs : List Loc} {cells slots : Nat} {Q : Option Value → Heap → List Loc → Prop} {K N pc k0 : Nat} {Ls : Array Slot} {rest : List Value}
theorem GoW.retZ (X : Stand p l e R (s.setVm vm0) m args below meth c T locs cells slots) (hS : s.Since vm0 k0) (hk : k0 ≤ T.heap.size) (hx : p.tables.exec = Jvm.exec) {z : Int32} {t : FieldType} (hret : meth.sig.returnType = some t) (ht : t = .boolean ∨ t = .byte ∨ t = .char ∨ t = .short) (hlk : meth.locks = false) (hd : decode c.code pc = .ok (.ireturn, 1)) (hq : Q (some (.int (nar t z))) T.heap locs) (hc : cells ≤ K) (hn : slots ≤ N) : Go p e below (Fin2 s below Q K N) (T.setTop (mkF m pc Ls (.int z :: rest))) := by
  obtain ⟨fs, hr, hrun, hended, hW⟩ := X.leaveW hS hk (v := some (.int (nar t z))) (fun h => by rw [hret] at h; cases h) hlk
  exact ⟨_, _, retN X hx hret ht hd hr, hrun, hended, _, _, rfl, hq, wmono hW hc hn⟩
theorem GoW.retI (X : Stand p l e R (s.setVm vm0) m args below meth c T locs cells slots) (hS : s.Since vm0 k0) (hk : k0 ≤ T.heap.size) (hx : p.tables.exec = Jvm.exec) {z : Int32} (hret : meth.sig.returnType = some .int) (hlk : meth.locks = false) (hd : decode c.code pc = .ok (.ireturn, 1)) (hq : Q (some (.int z)) T.heap locs) (hc : cells ≤ K) (hn : slots ≤ N) : Go p e below (Fin2 s below Q K N) (T.setTop (mkF m pc Ls (.int z :: rest))) := by
  obtain ⟨fs, hr, hrun, hended, hW⟩ := X.leaveW hS hk (v := some (.int z)) (fun h => by rw [hret] at h; cases h) hlk
  exact ⟨_, _, Jvm.RoadKit.retI X hx hret hd hr, hrun, hended, _, _, rfl, hq, wmono hW hc hn⟩
theorem GoW.retR (X : Stand p l e R (s.setVm vm0) m args below meth c T locs cells slots) (hS : s.Since vm0 k0) (hk : k0 ≤ T.heap.size) (hx : p.tables.exec = Jvm.exec) {w : Value} {t : FieldType} (hret : meth.sig.returnType = some t) (ht : t.isReference = true) (hw : w.isRef = true) (hlk : meth.locks = false) (hd : decode c.code pc = .ok (.areturn, 1)) (hq : Q (some w) T.heap locs) (hc : cells ≤ K) (hn : slots ≤ N) : Go p e below (Fin2 s below Q K N) (T.setTop (mkF m pc Ls (w :: rest))) := by
  obtain ⟨fs, hr, hrun, hended, hW⟩ := X.leaveW hS hk (v := some w) (fun h => by rw [hret] at h; cases h) hlk
  have hnw : narrow t w = w := by rcases ref_cases hw with rfl | ⟨a, rfl⟩ <;> cases t <;> first | rfl | (cases ht)
  exact ⟨_, _, retOut X hx hret hnw (Or.inr (Or.inr (Or.inr (Or.inr ⟨rfl, ht, hw⟩)))) hd hr, hrun, hended, _, _, rfl, hq, wmono hW hc hn⟩
theorem GoW.retV (X : Stand p l e R (s.setVm vm0) m args below meth c T locs cells slots) (hS : s.Since vm0 k0) (hk : k0 ≤ T.heap.size) (hx : p.tables.exec = Jvm.exec) (hret : meth.sig.returnType = none) (hlk : meth.locks = false) (hd : decode c.code pc = .ok (.return_, 1)) (hq : Q none T.heap locs) (hc : cells ≤ K) (hn : slots ≤ N) : Go p e below (Fin2 s below Q K N) (T.setTop (mkF m pc Ls [])) := by
  obtain ⟨fs, hr, hrun, hended, hW⟩ := X.leaveW hS hk (v := none) (fun _ => rfl) hlk
  exact ⟨_, _, X.returnOut hx hret hd hr, hrun, hended, _, _, rfl, hq, wmono hW hc hn⟩
end GoRetW
theorem old_z0 {Z : State} {n0 : Nat} {h : Heap} (O : Old Z n0 h) : n0 ≤ h.size := O.1 ▸ O.2.1
theorem eq_long {args : Array Value} {s : State} {t : Term} {z : Int64} (h : (Jvm.Cond.eq t (.long z)).value args s none s [] = some true) : t.eval args s none [] s = some (.long z) := by
  simp only [Cond.value, Term.eval] at h
  cases e : t.eval args s none [] s with
  | none => simp [e] at h
  | some v => cases v <;> simp_all
theorem eq_int {args : Array Value} {s : State} {t : Term} {z : Int32} (h : (Jvm.Cond.eq t (.int z)).value args s none s [] = some true) : t.eval args s none [] s = some (.int z) := by
  simp only [Cond.value, Term.eval] at h
  cases e : t.eval args s none [] s with
  | none => simp [e] at h
  | some v => cases v <;> simp_all
def Wd (Z : State) (a_SELL : Addr) (a_BUY : Addr) : Prop := (Sta Z Z.heap "com/example/bracketline/bracketline/Side" "SELL" "Lcom/example/bracketline/bracketline/Side;" (.ref a_SELL)) ∧ (Exa Z Z.heap a_SELL "com/example/bracketline/bracketline/Side") ∧ (Sta Z Z.heap "com/example/bracketline/bracketline/Side" "BUY" "Lcom/example/bracketline/bracketline/Side;" (.ref a_BUY)) ∧ (Exa Z Z.heap a_BUY "com/example/bracketline/bracketline/Side") ∧ (Fld Z Z.heap a_SELL "java/lang/Enum" "ordinal" "I" (.int (1 : Int32))) ∧ (Fld Z Z.heap a_BUY "java/lang/Enum" "ordinal" "I" (.int (0 : Int32))) ∧ (Fld Z Z.heap a_SELL "com/example/bracketline/bracketline/Side" "marketLimit" "J" (.long (0 : Int64))) ∧ (Fld Z Z.heap a_BUY "com/example/bracketline/bracketline/Side" "marketLimit" "J" (.long (9223372036854775807 : Int64)))
theorem i32_is {k : Int32} (z : Int32) (h : k.toInt = z.toInt) : k = z := Int32.toInt_inj.mp h
theorem rem_bd (x m : Int32) (hm : 0 < m.toInt) : 0 ≤ ((x &&& (2147483647 : Int32)) % m).toInt ∧ ((x &&& (2147483647 : Int32)) % m).toInt < m.toInt := by
  have e1 : (x &&& (2147483647 : Int32)).toInt = x.toInt % 2 ^ 31 := Jvm.Kit.i32_mask x 2147483647 (k := 31) (by decide) (by decide)
  have h0 : 0 ≤ (x &&& (2147483647 : Int32)).toInt := by rw [e1]; exact Int.emod_nonneg _ (by decide)
  rw [Jvm.Kit.i32_rem_nonneg h0]
  exact ⟨Int.emod_nonneg _ (by omega), Int.emod_lt_of_pos _ hm⟩

theorem lw_of_lt {x y : Int64} (h : x < y) : lcmpW x y = -1 := by
  have h1 : ¬ x > y := by show ¬ y < x; rw [Int64.lt_iff_toInt_lt] at h ⊢; omega
  have h2 : ¬ x = y := by intro q; subst q; rw [Int64.lt_iff_toInt_lt] at h; omega
  show (if x > y then (1 : Int32) else if x = y then 0 else -1) = -1
  rw [if_neg h1, if_neg h2]
theorem lw_of_gt {x y : Int64} (h : y < x) : lcmpW x y = 1 := by
  show (if x > y then (1 : Int32) else if x = y then 0 else -1) = 1
  rw [if_pos h]
theorem lw_of_eq {x y : Int64} (h : x = y) : lcmpW x y = 0 := by
  subst h
  have h1 : ¬ x > x := by show ¬ x < x; rw [Int64.lt_iff_toInt_lt]; omega
  show (if x > x then (1 : Int32) else if x = x then 0 else -1) = 0
  rw [if_neg h1, if_pos rfl]
theorem tri (x y : Int64) : x < y ∨ x = y ∨ y < x := by
  rcases Int.lt_trichotomy x.toInt y.toInt with h | h | h
  · exact Or.inl (Int64.lt_iff_toInt_lt.mpr h)
  · exact Or.inr (Or.inl (Int64.toInt_inj.mp h))
  · exact Or.inr (Or.inr (Int64.lt_iff_toInt_lt.mpr h))
theorem mk_nn (x : Int64) : ¬ lcmpW (x &&& (9223372036854775807 : Int64)) (0 : Int64) < (0 : Int32) := by
  rw [lw_lt, Int64.lt_iff_toInt_lt]
  have e1 : (x &&& (9223372036854775807 : Int64)).toInt = x.toInt % 2 ^ 63 := Jvm.Kit.i64_mask x 9223372036854775807 (k := 63) (by decide) (by decide)
  have e2 : (0 : Int64).toInt = 0 := rfl
  omega
theorem mk_le (y : Int64) : ¬ (0 : Int32) < lcmpW y (9223372036854775807 : Int64) := by
  rw [lw_gt, Int64.lt_iff_toInt_lt]
  have e1 := y.toInt_lt
  have e2 : (9223372036854775807 : Int64).toInt = 9223372036854775807 := rfl
  omega
theorem d1_0 : decode prog_26_method_8_code 0 = .ok (.aload_n 0, 1) := by decide +kernel
theorem d1_1 : decode prog_26_method_8_code 1 = .ok (.getstatic 3, 3) := by decide +kernel
theorem d1_4 : decode prog_26_method_8_code 4 = .ok (.if_acmp .ne 17, 3) := by decide +kernel
theorem d1_7 : decode prog_26_method_8_code 7 = .ok (.lload_n 3, 1) := by decide +kernel
theorem d1_8 : decode prog_26_method_8_code 8 = .ok (.lload_n 1, 1) := by decide +kernel
theorem d1_9 : decode prog_26_method_8_code 9 = .ok (.lcmp, 1) := by decide +kernel
theorem d1_10 : decode prog_26_method_8_code 10 = .ok (.ifCond .gt 7, 3) := by decide +kernel
theorem d1_17 : decode prog_26_method_8_code 17 = .ok (.iconst 0, 1) := by decide +kernel
theorem d1_18 : decode prog_26_method_8_code 18 = .ok (.goto 14, 3) := by decide +kernel
theorem d1_32 : decode prog_26_method_8_code 32 = .ok (.ireturn, 1) := by decide +kernel
theorem d1_13 : decode prog_26_method_8_code 13 = .ok (.iconst 1, 1) := by decide +kernel
theorem d1_14 : decode prog_26_method_8_code 14 = .ok (.goto 18, 3) := by decide +kernel
theorem d1_21 : decode prog_26_method_8_code 21 = .ok (.lload_n 3, 1) := by decide +kernel
theorem d1_22 : decode prog_26_method_8_code 22 = .ok (.lload_n 1, 1) := by decide +kernel
theorem d1_23 : decode prog_26_method_8_code 23 = .ok (.lcmp, 1) := by decide +kernel
theorem d1_24 : decode prog_26_method_8_code 24 = .ok (.ifCond .lt 7, 3) := by decide +kernel
theorem d1_31 : decode prog_26_method_8_code 31 = .ok (.iconst 0, 1) := by decide +kernel
theorem d1_27 : decode prog_26_method_8_code 27 = .ok (.iconst 1, 1) := by decide +kernel
theorem d1_28 : decode prog_26_method_8_code 28 = .ok (.goto 4, 3) := by decide +kernel
theorem pn_0 : plainName "com/example/bracketline/bracketline/Side" = true := by first | (simp [plainName, overriddenIn]; done) | decide +kernel
theorem ef_rm1 (m : MethodId) (x0 : Addr) (x1 : Int64) (x2 : Int64)  : entryFrame m #[(.ref x0), (.long x1), (.long x2)] 5 = mkF m 0 #[.val (.ref x0), .val (.long x1), .second, .val (.long x2), .second] [] := by first | (simp [entryFrame, mkF, argsToLocals, Value.category]; done) | rfl
def Q_rm1 (Z : State) (a_SELL : Addr) (a_BUY : Addr) (r : Addr) (u1 : Int64) (u2 : Int64) (res : Int32) (h0 : Heap) (n0 : Nat) (v : Option Value) (h : Heap) (L : List Loc) : Prop := v = some (.int res) ∧ Fr n0 L ∧ h = h0
set_option maxRecDepth 65536 in
set_option maxHeartbeats 40000000 in
theorem rm1 (l : Launch) (Z : State) (a0 : Array Value) (hw : ∀ d ∈ tables_1, d.before a0 Z = true) (ws : List Jvm.Cond) (a_SELL : Addr) (a_BUY : Addr) (HW : Wd Z a_SELL a_BUY) (r : Addr) (u1 : Int64) (u2 : Int64) (res : Int32) (h0 : Heap) (n0 : Nat) (Ol : Old Z n0 h0)  (hres : ((if r = a_BUY then (if (0 : Int32) < lcmpW u2 u1 then 0 else 1) else (if lcmpW u2 u1 < (0 : Int32) then 0 else 1) : Int32)) = res) :
    MetFree l (⟨"com/example/bracketline/bracketline/Side", "accepts", "(JJ)Z"⟩ : MethodName) (head1 (Jvm.Cond.code (⟨"com/example/bracketline/bracketline/Side", "accepts", "(JJ)Z"⟩ : MethodName) prog_26_method_8_code 5 (some .boolean) :: ws) ({ frames := 0, cells := 0, slots := 0, locals := 0 } : Room)) (fun a_ U_ => a_ = #[(.ref r), (.long u1), (.long u2)] ∧ Z.Warmed39 U_.vm ∧ U_.heap = h0) (fun _ _ _ _ _ => True) (fun _ U_ o_ V_ => ∃ v_ L_, o_ = .returned v_ ∧ Q_rm1 Z a_SELL a_BUY r u1 u2 res h0 n0 v_ V_.heap L_ ∧ FrameEnd U_ o_ V_ L_ ({ frames := 0, cells := 0, slots := 0, locals := 0 } : Room).cells ({ frames := 0, cells := 0, slots := 0, locals := 0 } : Room).slots) := by
  refine MetFree.of_bodySF (plainFor_of_name pn_0) hisR ?_
  intro p e s m args below meth c s₁ Bd hml0 hP hK
  obtain ⟨rfl, hZ, hh⟩ := hP
  have hx := Bd.exec
  have hby := Bd.bytes
  have hml : c.maxLocals = 5 := hml0
  have hown : s.vm.findClass "com/example/bracketline/bracketline/Side" = some m.cls := findClass_of_methodNamed Bd.named
  have hnm := (name_of_methodNamed Bd.named Bd.method).1
  have X0 : Stand p l e ({ frames := 0, cells := 0, slots := 0, locals := 0 } : Room) s m #[(.ref r), (.long u1), (.long u2)] below meth c s₁ [] 0 0 := Stand.of_body Bd
  have e0 : s₁.heap = h0 := by rw [← hh, Bd.state]; rfl
  have N0 := Fr.nil n0
  have kp0 := Keep.refl h0 []
  show Go p e below (Fin1 s below (Q_rm1 Z a_SELL a_BUY r u1 u2 res h0 n0) ({ frames := 0, cells := 0, slots := 0, locals := 0 } : Room).cells ({ frames := 0, cells := 0, slots := 0, locals := 0 } : Room).slots) _
  refine Go.step (fun t_ k_ => castTop (ef_rm1 m r u1 u2) k_) ?_
  obtain ⟨S_SELL, E_SELL, S_BUY, E_BUY, F_SELL_ordinal, F_BUY_ordinal, F_SELL_marketLimit, F_BUY_marketLimit⟩ := id HW
  show Go p e below _ (s₁.setTop (mkF m 0 #[.val (.ref r), .val (.long u1), .second, .val (.long u2), .second] []))
  refine Go.step (fun t_ k_ => XS.aloadN X0.here hx rfl (hb hby d1_0) rfl rfl k_) ?_
  show Go p e below _ (s₁.setTop (mkF m 1 #[.val (.ref r), .val (.long u1), .second, .val (.long u2), .second] [(.ref r)]))
  obtain ⟨T1, X1, e1, st1⟩ := getS2 X0 hx hZ hown (host := "") (Or.inl (hw _ (List.mem_of_getElem? (i := 8) rfl))) Via.refl e0 (S_BUY.ext Ol.2) (g := (mkF m 1 #[.val (.ref r), .val (.long u1), .second, .val (.long u2), .second] [(.ref r)])) rfl (hb hby d1_1)
  refine Go.step st1 ?_
  show Go p e below _ (T1.setTop (mkF m 4 #[.val (.ref r), .val (.long u1), .second, .val (.long u2), .second] [(.ref a_BUY), (.ref r)]))
  by_cases ha4 : r = a_BUY
  case pos =>
    refine Go.step (fun t_ k_ => Jvm.RoadKit.acmp (g := (mkF m 4 #[.val (.ref r), .val (.long u1), .second, .val (.long u2), .second] [(.ref a_BUY), (.ref r)])) X1 hx rfl rfl rfl (pc0 := 4) (pc' := 7) (same := true) rfl (hb hby d1_4) rfl (decide_eq_true (congrArg Value.ref ha4)) (by decide) (by decide) k_) ?_
    show Go p e below _ (T1.setTop (mkF m 7 #[.val (.ref r), .val (.long u1), .second, .val (.long u2), .second] []))
    refine Go.step (fun t_ k_ => XS.lloadN X1.here hx rfl (hb hby d1_7) rfl k_) ?_
    show Go p e below _ (T1.setTop (mkF m 8 #[.val (.ref r), .val (.long u1), .second, .val (.long u2), .second] [(.long u2)]))
    refine Go.step (fun t_ k_ => XS.lloadN X1.here hx rfl (hb hby d1_8) rfl k_) ?_
    show Go p e below _ (T1.setTop (mkF m 9 #[.val (.ref r), .val (.long u1), .second, .val (.long u2), .second] [(.long u1), (.long u2)]))
    refine Go.step (fun t_ k_ => XS.lcmp X1.here hx rfl (hb hby d1_9) rfl k_) ?_
    show Go p e below _ (T1.setTop (mkF m 10 #[.val (.ref r), .val (.long u1), .second, .val (.long u2), .second] [(.int (lcmpW u2 u1))]))
    by_cases hc10 : (0 : Int32) < (lcmpW u2 u1)
    case pos =>
      refine Go.step (fun t_ k_ => XS.ifYes X1.here hx rfl (pc0 := 10) (pc' := 17) rfl (hb hby d1_10) rfl ((if0 _ _).trans (tlt hc10).2.2.1) (by decide) (by decide) k_) ?_
      show Go p e below _ (T1.setTop (mkF m 17 #[.val (.ref r), .val (.long u1), .second, .val (.long u2), .second] []))
      refine Go.step (fun t_ k_ => XS.iconst X1.here hx rfl (hb hby d1_17) k_) ?_
      show Go p e below _ (T1.setTop (mkF m 18 #[.val (.ref r), .val (.long u1), .second, .val (.long u2), .second] [(.int (0 : Int32))]))
      refine Go.step (fun t_ k_ => XS.goto X1.here hx rfl (pc0 := 18) (pc' := 32) rfl (hb hby d1_18) (by decide) (by decide) k_) ?_
      show Go p e below _ (T1.setTop (mkF m 32 #[.val (.ref r), .val (.long u1), .second, .val (.long u2), .second] [(.int (0 : Int32))]))
      refine Go.retZ X1 hx (t := .boolean) Bd.returns (by simp) Bd.notSynchronized (hb hby d1_32) (by rw [e1]; exact ⟨by first | (rw [← hres]; done) | (rw [← hres]; simp [if_pos ha4, if_pos hc10, nar]; done) | (rw [← hres]; simp [ha4, hc10, nar]; done) | (rw [← hres]; simp_all; done), N0, rfl⟩) (by decide) (by decide)
    case neg =>
      refine Go.step (fun t_ k_ => XS.ifNo X1.here hx rfl (hb hby d1_10) rfl ((if0 _ _).trans (flt hc10).2.2.1) k_) ?_
      show Go p e below _ (T1.setTop (mkF m 13 #[.val (.ref r), .val (.long u1), .second, .val (.long u2), .second] []))
      refine Go.step (fun t_ k_ => XS.iconst X1.here hx rfl (hb hby d1_13) k_) ?_
      show Go p e below _ (T1.setTop (mkF m 14 #[.val (.ref r), .val (.long u1), .second, .val (.long u2), .second] [(.int (1 : Int32))]))
      refine Go.step (fun t_ k_ => XS.goto X1.here hx rfl (pc0 := 14) (pc' := 32) rfl (hb hby d1_14) (by decide) (by decide) k_) ?_
      show Go p e below _ (T1.setTop (mkF m 32 #[.val (.ref r), .val (.long u1), .second, .val (.long u2), .second] [(.int (1 : Int32))]))
      refine Go.retZ X1 hx (t := .boolean) Bd.returns (by simp) Bd.notSynchronized (hb hby d1_32) (by rw [e1]; exact ⟨by first | (rw [← hres]; done) | (rw [← hres]; simp [if_pos ha4, if_neg hc10, nar]; done) | (rw [← hres]; simp [ha4, hc10, nar]; done) | (rw [← hres]; simp_all; done), N0, rfl⟩) (by decide) (by decide)
  case neg =>
    refine Go.step (fun t_ k_ => Jvm.RoadKit.acmp (g := (mkF m 4 #[.val (.ref r), .val (.long u1), .second, .val (.long u2), .second] [(.ref a_BUY), (.ref r)])) X1 hx rfl rfl rfl (pc0 := 4) (pc' := 21) (same := false) rfl (hb hby d1_4) rfl (decide_eq_false fun q => ha4 (Value.ref.inj q)) (by decide) (by decide) k_) ?_
    show Go p e below _ (T1.setTop (mkF m 21 #[.val (.ref r), .val (.long u1), .second, .val (.long u2), .second] []))
    refine Go.step (fun t_ k_ => XS.lloadN X1.here hx rfl (hb hby d1_21) rfl k_) ?_
    show Go p e below _ (T1.setTop (mkF m 22 #[.val (.ref r), .val (.long u1), .second, .val (.long u2), .second] [(.long u2)]))
    refine Go.step (fun t_ k_ => XS.lloadN X1.here hx rfl (hb hby d1_22) rfl k_) ?_
    show Go p e below _ (T1.setTop (mkF m 23 #[.val (.ref r), .val (.long u1), .second, .val (.long u2), .second] [(.long u1), (.long u2)]))
    refine Go.step (fun t_ k_ => XS.lcmp X1.here hx rfl (hb hby d1_23) rfl k_) ?_
    show Go p e below _ (T1.setTop (mkF m 24 #[.val (.ref r), .val (.long u1), .second, .val (.long u2), .second] [(.int (lcmpW u2 u1))]))
    by_cases hc24 : (lcmpW u2 u1) < (0 : Int32)
    case pos =>
      refine Go.step (fun t_ k_ => XS.ifYes X1.here hx rfl (pc0 := 24) (pc' := 31) rfl (hb hby d1_24) rfl ((if0 _ _).trans (tlt hc24).1) (by decide) (by decide) k_) ?_
      show Go p e below _ (T1.setTop (mkF m 31 #[.val (.ref r), .val (.long u1), .second, .val (.long u2), .second] []))
      refine Go.step (fun t_ k_ => XS.iconst X1.here hx rfl (hb hby d1_31) k_) ?_
      show Go p e below _ (T1.setTop (mkF m 32 #[.val (.ref r), .val (.long u1), .second, .val (.long u2), .second] [(.int (0 : Int32))]))
      refine Go.retZ X1 hx (t := .boolean) Bd.returns (by simp) Bd.notSynchronized (hb hby d1_32) (by rw [e1]; exact ⟨by first | (rw [← hres]; done) | (rw [← hres]; simp [if_neg ha4, if_pos hc24, nar]; done) | (rw [← hres]; simp [ha4, hc24, nar]; done) | (rw [← hres]; simp_all; done), N0, rfl⟩) (by decide) (by decide)
    case neg =>
      refine Go.step (fun t_ k_ => XS.ifNo X1.here hx rfl (hb hby d1_24) rfl ((if0 _ _).trans (flt hc24).1) k_) ?_
      show Go p e below _ (T1.setTop (mkF m 27 #[.val (.ref r), .val (.long u1), .second, .val (.long u2), .second] []))
      refine Go.step (fun t_ k_ => XS.iconst X1.here hx rfl (hb hby d1_27) k_) ?_
      show Go p e below _ (T1.setTop (mkF m 28 #[.val (.ref r), .val (.long u1), .second, .val (.long u2), .second] [(.int (1 : Int32))]))
      refine Go.step (fun t_ k_ => XS.goto X1.here hx rfl (pc0 := 28) (pc' := 32) rfl (hb hby d1_28) (by decide) (by decide) k_) ?_
      show Go p e below _ (T1.setTop (mkF m 32 #[.val (.ref r), .val (.long u1), .second, .val (.long u2), .second] [(.int (1 : Int32))]))
      refine Go.retZ X1 hx (t := .boolean) Bd.returns (by simp) Bd.notSynchronized (hb hby d1_32) (by rw [e1]; exact ⟨by first | (rw [← hres]; done) | (rw [← hres]; simp [if_neg ha4, if_neg hc24, nar]; done) | (rw [← hres]; simp [ha4, hc24, nar]; done) | (rw [← hres]; simp_all; done), N0, rfl⟩) (by decide) (by decide)
theorem d2_0 : decode prog_26_method_7_code 0 = .ok (.aload_n 0, 1) := by decide +kernel
theorem d2_1 : decode prog_26_method_7_code 1 = .ok (.getstatic 3, 3) := by decide +kernel
theorem d2_4 : decode prog_26_method_7_code 4 = .ok (.if_acmp .ne 9, 3) := by decide +kernel
theorem d2_7 : decode prog_26_method_7_code 7 = .ok (.getstatic 7, 3) := by decide +kernel
theorem d2_10 : decode prog_26_method_7_code 10 = .ok (.goto 6, 3) := by decide +kernel
theorem d2_16 : decode prog_26_method_7_code 16 = .ok (.areturn, 1) := by decide +kernel
theorem d2_13 : decode prog_26_method_7_code 13 = .ok (.getstatic 3, 3) := by decide +kernel
theorem ef_rm2 (m : MethodId) (x0 : Addr)  : entryFrame m #[(.ref x0)] 1 = mkF m 0 #[.val (.ref x0)] [] := by first | (simp [entryFrame, mkF, argsToLocals, Value.category]; done) | rfl
def Q_rm2 (Z : State) (a_SELL : Addr) (a_BUY : Addr) (r : Addr) (res : Addr) (h0 : Heap) (n0 : Nat) (v : Option Value) (h : Heap) (L : List Loc) : Prop := v = some (.ref res) ∧ Fr n0 L ∧ h = h0
set_option maxRecDepth 65536 in
set_option maxHeartbeats 40000000 in
theorem rm2 (l : Launch) (Z : State) (a0 : Array Value) (hw : ∀ d ∈ tables_1, d.before a0 Z = true) (ws : List Jvm.Cond) (a_SELL : Addr) (a_BUY : Addr) (HW : Wd Z a_SELL a_BUY) (r : Addr) (res : Addr) (h0 : Heap) (n0 : Nat) (Ol : Old Z n0 h0)  (hres : (if r = a_BUY then a_SELL else a_BUY) = res) :
    MetFree l (⟨"com/example/bracketline/bracketline/Side", "opposite", "()Lcom/example/bracketline/bracketline/Side;"⟩ : MethodName) (head1 (Jvm.Cond.code (⟨"com/example/bracketline/bracketline/Side", "opposite", "()Lcom/example/bracketline/bracketline/Side;"⟩ : MethodName) prog_26_method_7_code 1 (some (.object "com/example/bracketline/bracketline/Side")) :: ws) ({ frames := 0, cells := 0, slots := 0, locals := 0 } : Room)) (fun a_ U_ => a_ = #[(.ref r)] ∧ Z.Warmed39 U_.vm ∧ U_.heap = h0) (fun _ _ _ _ _ => True) (fun _ U_ o_ V_ => ∃ v_ L_, o_ = .returned v_ ∧ Q_rm2 Z a_SELL a_BUY r res h0 n0 v_ V_.heap L_ ∧ FrameEnd U_ o_ V_ L_ ({ frames := 0, cells := 0, slots := 0, locals := 0 } : Room).cells ({ frames := 0, cells := 0, slots := 0, locals := 0 } : Room).slots) := by
  refine MetFree.of_bodySF (plainFor_of_name pn_0) hisR ?_
  intro p e s m args below meth c s₁ Bd hml0 hP hK
  obtain ⟨rfl, hZ, hh⟩ := hP
  have hx := Bd.exec
  have hby := Bd.bytes
  have hml : c.maxLocals = 1 := hml0
  have hown : s.vm.findClass "com/example/bracketline/bracketline/Side" = some m.cls := findClass_of_methodNamed Bd.named
  have hnm := (name_of_methodNamed Bd.named Bd.method).1
  have X0 : Stand p l e ({ frames := 0, cells := 0, slots := 0, locals := 0 } : Room) s m #[(.ref r)] below meth c s₁ [] 0 0 := Stand.of_body Bd
  have e0 : s₁.heap = h0 := by rw [← hh, Bd.state]; rfl
  have N0 := Fr.nil n0
  have kp0 := Keep.refl h0 []
  show Go p e below (Fin1 s below (Q_rm2 Z a_SELL a_BUY r res h0 n0) ({ frames := 0, cells := 0, slots := 0, locals := 0 } : Room).cells ({ frames := 0, cells := 0, slots := 0, locals := 0 } : Room).slots) _
  refine Go.step (fun t_ k_ => castTop (ef_rm2 m r) k_) ?_
  obtain ⟨S_SELL, E_SELL, S_BUY, E_BUY, F_SELL_ordinal, F_BUY_ordinal, F_SELL_marketLimit, F_BUY_marketLimit⟩ := id HW
  show Go p e below _ (s₁.setTop (mkF m 0 #[.val (.ref r)] []))
  refine Go.step (fun t_ k_ => XS.aloadN X0.here hx rfl (hb hby d2_0) rfl rfl k_) ?_
  show Go p e below _ (s₁.setTop (mkF m 1 #[.val (.ref r)] [(.ref r)]))
  obtain ⟨T1, X1, e1, st1⟩ := getS2 X0 hx hZ hown (host := "") (Or.inl (hw _ (List.mem_of_getElem? (i := 8) rfl))) Via.refl e0 (S_BUY.ext Ol.2) (g := (mkF m 1 #[.val (.ref r)] [(.ref r)])) rfl (hb hby d2_1)
  refine Go.step st1 ?_
  show Go p e below _ (T1.setTop (mkF m 4 #[.val (.ref r)] [(.ref a_BUY), (.ref r)]))
  by_cases ha4 : r = a_BUY
  case pos =>
    refine Go.step (fun t_ k_ => Jvm.RoadKit.acmp (g := (mkF m 4 #[.val (.ref r)] [(.ref a_BUY), (.ref r)])) X1 hx rfl rfl rfl (pc0 := 4) (pc' := 7) (same := true) rfl (hb hby d2_4) rfl (decide_eq_true (congrArg Value.ref ha4)) (by decide) (by decide) k_) ?_
    show Go p e below _ (T1.setTop (mkF m 7 #[.val (.ref r)] []))
    obtain ⟨T2, X2, e2, st2⟩ := getS2 X1 hx hZ hown (host := "") (Or.inl (hw _ (List.mem_of_getElem? (i := 24) rfl))) Via.refl e1 (S_SELL.ext Ol.2) (g := (mkF m 7 #[.val (.ref r)] [])) rfl (hb hby d2_7)
    refine Go.step st2 ?_
    show Go p e below _ (T2.setTop (mkF m 10 #[.val (.ref r)] [(.ref a_SELL)]))
    refine Go.step (fun t_ k_ => XS.goto X2.here hx rfl (pc0 := 10) (pc' := 16) rfl (hb hby d2_10) (by decide) (by decide) k_) ?_
    show Go p e below _ (T2.setTop (mkF m 16 #[.val (.ref r)] [(.ref a_SELL)]))
    refine Go.retR X2 hx Bd.returns rfl rfl Bd.notSynchronized (hb hby d2_16) (by rw [e2]; exact ⟨by first | (rw [← hres]; done) | (rw [← hres]; simp [if_pos ha4]; done) | (rw [← hres]; simp [ha4]; done) | (rw [← hres]; simp_all; done), N0, rfl⟩) (by decide) (by decide)
  case neg =>
    refine Go.step (fun t_ k_ => Jvm.RoadKit.acmp (g := (mkF m 4 #[.val (.ref r)] [(.ref a_BUY), (.ref r)])) X1 hx rfl rfl rfl (pc0 := 4) (pc' := 13) (same := false) rfl (hb hby d2_4) rfl (decide_eq_false fun q => ha4 (Value.ref.inj q)) (by decide) (by decide) k_) ?_
    show Go p e below _ (T1.setTop (mkF m 13 #[.val (.ref r)] []))
    obtain ⟨T3, X3, e3, st3⟩ := getS2 X1 hx hZ hown (host := "") (Or.inl (hw _ (List.mem_of_getElem? (i := 8) rfl))) Via.refl e1 (S_BUY.ext Ol.2) (g := (mkF m 13 #[.val (.ref r)] [])) rfl (hb hby d2_13)
    refine Go.step st3 ?_
    show Go p e below _ (T3.setTop (mkF m 16 #[.val (.ref r)] [(.ref a_BUY)]))
    refine Go.retR X3 hx Bd.returns rfl rfl Bd.notSynchronized (hb hby d2_16) (by rw [e3]; exact ⟨by first | (rw [← hres]; done) | (rw [← hres]; simp [if_neg ha4]; done) | (rw [← hres]; simp [ha4]; done) | (rw [← hres]; simp_all; done), N0, rfl⟩) (by decide) (by decide)
theorem d3_0 : decode prog_26_method_11_code 0 = .ok (.aload_n 0, 1) := by decide +kernel
theorem d3_1 : decode prog_26_method_11_code 1 = .ok (.getfield 36, 3) := by decide +kernel
theorem d3_4 : decode prog_26_method_11_code 4 = .ok (.lreturn, 1) := by decide +kernel
theorem ef_rm3 (m : MethodId) (x0 : Addr)  : entryFrame m #[(.ref x0)] 1 = mkF m 0 #[.val (.ref x0)] [] := by first | (simp [entryFrame, mkF, argsToLocals, Value.category]; done) | rfl
def Q_rm3 (Z : State) (a_SELL : Addr) (a_BUY : Addr) (r : Addr) (res : Int64) (h0 : Heap) (n0 : Nat) (v : Option Value) (h : Heap) (L : List Loc) : Prop := v = some (.long res) ∧ Fr n0 L ∧ h = h0
set_option maxRecDepth 65536 in
set_option maxHeartbeats 40000000 in
theorem rm3 (l : Launch) (Z : State) (a0 : Array Value) (hw : ∀ d ∈ tables_1, d.before a0 Z = true) (ws : List Jvm.Cond) (a_SELL : Addr) (a_BUY : Addr) (HW : Wd Z a_SELL a_BUY) (r : Addr) (res : Int64) (h0 : Heap) (n0 : Nat) (Ol : Old Z n0 h0) (G_m : Fld Z Z.heap r "com/example/bracketline/bracketline/Side" "marketLimit" "J" (.long res)) (hres : (res) = res) :
    MetFree l (⟨"com/example/bracketline/bracketline/Side", "marketLimit", "()J"⟩ : MethodName) (head1 (Jvm.Cond.code (⟨"com/example/bracketline/bracketline/Side", "marketLimit", "()J"⟩ : MethodName) prog_26_method_11_code 1 (some .long) :: ws) ({ frames := 0, cells := 0, slots := 0, locals := 0 } : Room)) (fun a_ U_ => a_ = #[(.ref r)] ∧ Z.Warmed39 U_.vm ∧ U_.heap = h0) (fun _ _ _ _ _ => True) (fun _ U_ o_ V_ => ∃ v_ L_, o_ = .returned v_ ∧ Q_rm3 Z a_SELL a_BUY r res h0 n0 v_ V_.heap L_ ∧ FrameEnd U_ o_ V_ L_ ({ frames := 0, cells := 0, slots := 0, locals := 0 } : Room).cells ({ frames := 0, cells := 0, slots := 0, locals := 0 } : Room).slots) := by
  refine MetFree.of_bodySF (plainFor_of_name pn_0) hisR ?_
  intro p e s m args below meth c s₁ Bd hml0 hP hK
  obtain ⟨rfl, hZ, hh⟩ := hP
  have hx := Bd.exec
  have hby := Bd.bytes
  have hml : c.maxLocals = 1 := hml0
  have hown : s.vm.findClass "com/example/bracketline/bracketline/Side" = some m.cls := findClass_of_methodNamed Bd.named
  have hnm := (name_of_methodNamed Bd.named Bd.method).1
  have X0 : Stand p l e ({ frames := 0, cells := 0, slots := 0, locals := 0 } : Room) s m #[(.ref r)] below meth c s₁ [] 0 0 := Stand.of_body Bd
  have e0 : s₁.heap = h0 := by rw [← hh, Bd.state]; rfl
  have N0 := Fr.nil n0
  have kp0 := Keep.refl h0 []
  show Go p e below (Fin1 s below (Q_rm3 Z a_SELL a_BUY r res h0 n0) ({ frames := 0, cells := 0, slots := 0, locals := 0 } : Room).cells ({ frames := 0, cells := 0, slots := 0, locals := 0 } : Room).slots) _
  refine Go.step (fun t_ k_ => castTop (ef_rm3 m r) k_) ?_
  obtain ⟨S_SELL, E_SELL, S_BUY, E_BUY, F_SELL_ordinal, F_BUY_ordinal, F_SELL_marketLimit, F_BUY_marketLimit⟩ := id HW
  show Go p e below _ (s₁.setTop (mkF m 0 #[.val (.ref r)] []))
  refine Go.step (fun t_ k_ => XS.aloadN X0.here hx rfl (hb hby d3_0) rfl rfl k_) ?_
  show Go p e below _ (s₁.setTop (mkF m 1 #[.val (.ref r)] [(.ref r)]))
  obtain ⟨T1, X1, e1, st1⟩ := getF X0 hx hZ hown (host := "") (Or.inl (hw _ (List.mem_of_getElem? (i := 22) rfl))) Via.refl e0 (G_m.ext Ol.2) (g := (mkF m 1 #[.val (.ref r)] [(.ref r)])) rfl rfl (hb hby d3_1)
  refine Go.step st1 ?_
  show Go p e below _ (T1.setTop (mkF m 4 #[.val (.ref r)] [(.long res)]))
  refine Go.retJ X1 hx Bd.returns Bd.notSynchronized (hb hby d3_4) (by rw [e1]; exact ⟨by first | (rw [← hres]; done) | (rw [← hres]; simp []; done) | (rw [← hres]; simp []; done) | (rw [← hres]; simp_all; done), N0, rfl⟩) (by decide) (by decide)
theorem pd_0 : parseMethodDescriptor "(JJ)Z" = some ⟨[.long, .long], some .boolean⟩ := by decide +kernel
theorem pd_1 : parseMethodDescriptor "()Lcom/example/bracketline/bracketline/Side;" = some ⟨[], some (.object "com/example/bracketline/bracketline/Side")⟩ := by decide +kernel
theorem pd_2 : parseMethodDescriptor "()J" = some ⟨[], some .long⟩ := by decide +kernel
theorem pn_1 : plainName "com/example/bracketline/bracketline/SideAcceptsPinLaw" = true := by first | (simp [plainName, overriddenIn]; done) | decide +kernel
theorem ef_rm0 (m : MethodId) (x0 : Int32) (x1 : Int64) (x2 : Int64)  : entryFrame m #[(.int x0), (.long x1), (.long x2)] maxLocals = mkF m 0 #[.val (.int x0), .val (.long x1), .second, .val (.long x2), .second, .unset, .unset, .unset, .unset, .unset, .unset, .unset] [] := by first | (simp [entryFrame, mkF, argsToLocals, Value.category, maxLocals]; done) | rfl
def Q_rm0 (Z : State) (a_SELL : Addr) (a_BUY : Addr) (p1 : Int32) (p2 p3 : Int64) (h0 : Heap) (n0 : Nat) (v : Option Value) (h : Heap) (L : List Loc) : Prop := v = some (.int 1) ∧ Fr n0 L
set_option maxRecDepth 65536 in
set_option maxHeartbeats 40000000 in
theorem rm0 (l : Launch) (Z : State) (a0 : Array Value) (hw : ∀ d ∈ tables_1, d.before a0 Z = true) (ws : List Jvm.Cond) (a_SELL : Addr) (a_BUY : Addr) (HW : Wd Z a_SELL a_BUY) (p1 : Int32) (p2 p3 : Int64) (h0 : Heap) (n0 : Nat) (Ol : Old Z n0 h0)  :
    MetFree l x (head1 (Jvm.Cond.code x code maxLocals ret :: ws) room_1) (fun a_ U_ => a_ = #[(.int p1), (.long p2), (.long p3)] ∧ Z.Warmed39 U_.vm ∧ U_.heap = h0) (fun _ _ _ _ _ => True) (fun _ U_ o_ V_ => ∃ v_ L_, o_ = .returned v_ ∧ Q_rm0 Z a_SELL a_BUY p1 p2 p3 h0 n0 v_ V_.heap L_ ∧ FrameEnd U_ o_ V_ L_ room_1.cells room_1.slots) := by
  refine MetFree.of_bodySF (plainFor_of_name pn_1) hisR ?_
  intro p e s m args below meth c s₁ Bd hml0 hP hK
  obtain ⟨rfl, hZ, hh⟩ := hP
  have hx := Bd.exec
  have hby := Bd.bytes
  have hml : c.maxLocals = 12 := hml0
  have hown : s.vm.findClass "com/example/bracketline/bracketline/SideAcceptsPinLaw" = some m.cls := findClass_of_methodNamed Bd.named
  have hnm := (name_of_methodNamed Bd.named Bd.method).1
  have X0 : Stand p l e room_1 s m #[(.int p1), (.long p2), (.long p3)] below meth c s₁ [] 0 0 := Stand.of_body Bd
  have e0 : s₁.heap = h0 := by rw [← hh, Bd.state]; rfl
  have N0 := Fr.nil n0
  have kp0 := Keep.refl h0 []
  show Go p e below (Fin1 s below (Q_rm0 Z a_SELL a_BUY p1 p2 p3 h0 n0) room_1.cells room_1.slots) _
  refine Go.step (fun t_ k_ => castTop (ef_rm0 m p1 p2 p3) k_) ?_
  obtain ⟨S_SELL, E_SELL, S_BUY, E_BUY, F_SELL_ordinal, F_BUY_ordinal, F_SELL_marketLimit, F_BUY_marketLimit⟩ := id HW
  show Go p e below _ (s₁.setTop (mkF m 0 #[.val (.int p1), .val (.long p2), .second, .val (.long p3), .second, .unset, .unset, .unset, .unset, .unset, .unset, .unset] []))
  rcases tri p3 p2 with h_o | h_o | h_o
  next =>
    refine Go.step (fun t_ k_ => XS.iloadN X0.here hx rfl (hb hby at_0) rfl k_) ?_
    show Go p e below _ (s₁.setTop (mkF m 1 #[.val (.int p1), .val (.long p2), .second, .val (.long p3), .second, .unset, .unset, .unset, .unset, .unset, .unset, .unset] [(.int p1)]))
    refine Go.step (fun t_ k_ => XS.iconst X0.here hx rfl (hb hby at_1) k_) ?_
    show Go p e below _ (s₁.setTop (mkF m 2 #[.val (.int p1), .val (.long p2), .second, .val (.long p3), .second, .unset, .unset, .unset, .unset, .unset, .unset, .unset] [(.int (1 : Int32)), (.int p1)]))
    refine Go.step (fun t_ k_ => XS.iand X0.here hx rfl (hb hby at_2) rfl k_) ?_
    show Go p e below _ (s₁.setTop (mkF m 3 #[.val (.int p1), .val (.long p2), .second, .val (.long p3), .second, .unset, .unset, .unset, .unset, .unset, .unset, .unset] [(.int (p1 &&& (1 : Int32)))]))
    by_cases hc3 : (p1 &&& (1 : Int32)) = (0 : Int32)
    case pos =>
      refine Go.step (fun t_ k_ => XS.ifYes X0.here hx rfl (pc0 := 3) (pc' := 12) rfl (hb hby at_3) rfl ((if0 _ _).trans (teq hc3).1) (by decide) (by decide) k_) ?_
      show Go p e below _ (s₁.setTop (mkF m 12 #[.val (.int p1), .val (.long p2), .second, .val (.long p3), .second, .unset, .unset, .unset, .unset, .unset, .unset, .unset] []))
      obtain ⟨T1, X1, e1, st1⟩ := getS2 X0 hx hZ hown (host := "") (Or.inl (hw _ (List.mem_of_getElem? (i := 0) rfl))) Via.refl e0 (S_SELL.ext Ol.2) (g := (mkF m 12 #[.val (.int p1), .val (.long p2), .second, .val (.long p3), .second, .unset, .unset, .unset, .unset, .unset, .unset, .unset] [])) rfl (hb hby at_12)
      refine Go.step st1 ?_
      show Go p e below _ (T1.setTop (mkF m 15 #[.val (.int p1), .val (.long p2), .second, .val (.long p3), .second, .unset, .unset, .unset, .unset, .unset, .unset, .unset] [(.ref a_SELL)]))
      refine Go.step (fun t_ k_ => XS.astore X1.here hx rfl (hb hby at_15) rfl rfl (l' := #[.val (.int p1), .val (.long p2), .second, .val (.long p3), .second, .val (.ref a_SELL), .unset, .unset, .unset, .unset, .unset, .unset]) rfl k_) ?_
      show Go p e below _ (T1.setTop (mkF m 17 #[.val (.int p1), .val (.long p2), .second, .val (.long p3), .second, .val (.ref a_SELL), .unset, .unset, .unset, .unset, .unset, .unset] []))
      refine Go.step (fun t_ k_ => XS.aload X1.here hx rfl (hb hby at_17) rfl rfl k_) ?_
      show Go p e below _ (T1.setTop (mkF m 19 #[.val (.int p1), .val (.long p2), .second, .val (.long p3), .second, .val (.ref a_SELL), .unset, .unset, .unset, .unset, .unset, .unset] [(.ref a_SELL)]))
      refine Go.step (fun t_ k_ => XS.lloadN X1.here hx rfl (hb hby at_19) rfl k_) ?_
      show Go p e below _ (T1.setTop (mkF m 20 #[.val (.int p1), .val (.long p2), .second, .val (.long p3), .second, .val (.ref a_SELL), .unset, .unset, .unset, .unset, .unset, .unset] [(.long p2), (.ref a_SELL)]))
      refine Go.step (fun t_ k_ => XS.lloadN X1.here hx rfl (hb hby at_20) rfl k_) ?_
      show Go p e below _ (T1.setTop (mkF m 21 #[.val (.int p1), .val (.long p2), .second, .val (.long p3), .second, .val (.ref a_SELL), .unset, .unset, .unset, .unset, .unset, .unset] [(.long p3), (.long p2), (.ref a_SELL)]))
      obtain ⟨cq2, kq2, q2a, q2b, q2c⟩ := isOf hZ e1 (E_SELL.ext Ol.2)
      obtain ⟨_, _, ⟨T2, L2, k2, n2⟩, -, X2, ⟨Lc2, hQ2, l2, y2, z2⟩, st2⟩ := X1.virtualBack hx (y := (⟨"com/example/bracketline/bracketline/Side", "accepts", "(JJ)Z"⟩ : MethodName)) (z := (⟨"com/example/bracketline/bracketline/Side", "accepts", "(JJ)Z"⟩ : MethodName)) hown (mvT hZ (hw _ (List.mem_of_getElem? (i := 3) rfl))) (mvT hZ (hw _ (List.mem_of_getElem? (i := 4) rfl))) (notFace_of_selects (args := #[]) (mvT hZ (hw _ (List.mem_of_getElem? (i := 6) rfl)))) (mvT hZ (hw _ (List.mem_of_getElem? (i := 6) rfl))) (mvT hZ (hw _ (List.mem_of_getElem? (i := 5) rfl))) (by decide) (backOf (W := 0) (rm1 l Z a0 hw [] a_SELL a_BUY HW a_SELL p2 p3 (0 : Int32) h0 n0 Ol (by first | (rw [lw_of_lt h_o]; simp [(Fld.ne F_SELL_ordinal F_BUY_ordinal (by simp)), (Ne.symm (Fld.ne F_SELL_ordinal F_BUY_ordinal (by simp)))]; done) | (rw [lw_of_lt h_o]; done))) hZ (hw _ (List.mem_of_getElem? (i := 7) rfl)) (hw _ (List.mem_of_getElem? (i := 1) rfl)) (by decide) (by decide)) q2a q2c (g := (mkF m 21 #[.val (.int p1), .val (.long p2), .second, .val (.long p3), .second, .val (.ref a_SELL), .unset, .unset, .unset, .unset, .unset, .unset] [(.long p3), (.long p2), (.ref a_SELL)])) rfl (by rw [hml]; rfl) (Steps.refl _) (argsL := [(.long p2), (.long p3)]) (rest := []) (lenOf pd_0 rfl) rfl (by show 2 * 0 + _ ≤ _; exact Nat.le_of_eq rfl) (hb hby at_21) (fun _ _ => ⟨rfl, e1, (by decide : 0 + 0 ≤ _), (by decide : 0 + 0 ≤ _)⟩)
      dsimp only [Pt.U, Pt.locs, Pt.cells, Pt.slots] at X2 l2 y2 z2 st2 hQ2
      subst l2 y2 z2
      obtain ⟨rfl, Nq2, e2⟩ := hQ2
      have N2 := Fr.app N0 Nq2
      refine Go.step (fun t_ k_ => st2.trans k_) ?_
      show Go p e below _ (T2.setTop (mkF m 24 #[.val (.int p1), .val (.long p2), .second, .val (.long p3), .second, .val (.ref a_SELL), .unset, .unset, .unset, .unset, .unset, .unset] [(.int (0 : Int32))]))
      refine Go.step (fun t_ k_ => XS.istore X2.here hx rfl (hb hby at_24) rfl (l' := #[.val (.int p1), .val (.long p2), .second, .val (.long p3), .second, .val (.ref a_SELL), .val (.int (0 : Int32)), .unset, .unset, .unset, .unset, .unset]) rfl k_) ?_
      show Go p e below _ (T2.setTop (mkF m 26 #[.val (.int p1), .val (.long p2), .second, .val (.long p3), .second, .val (.ref a_SELL), .val (.int (0 : Int32)), .unset, .unset, .unset, .unset, .unset] []))
      refine Go.step (fun t_ k_ => XS.lloadN X2.here hx rfl (hb hby at_26) rfl k_) ?_
      show Go p e below _ (T2.setTop (mkF m 27 #[.val (.int p1), .val (.long p2), .second, .val (.long p3), .second, .val (.ref a_SELL), .val (.int (0 : Int32)), .unset, .unset, .unset, .unset, .unset] [(.long p3)]))
      refine Go.step (fun t_ k_ => XS.lloadN X2.here hx rfl (hb hby at_27) rfl k_) ?_
      show Go p e below _ (T2.setTop (mkF m 28 #[.val (.int p1), .val (.long p2), .second, .val (.long p3), .second, .val (.ref a_SELL), .val (.int (0 : Int32)), .unset, .unset, .unset, .unset, .unset] [(.long p2), (.long p3)]))
      refine Go.step (fun t_ k_ => XS.lcmp X2.here hx rfl (hb hby at_28) rfl k_) ?_
      show Go p e below _ (T2.setTop (mkF m 29 #[.val (.int p1), .val (.long p2), .second, .val (.long p3), .second, .val (.ref a_SELL), .val (.int (0 : Int32)), .unset, .unset, .unset, .unset, .unset] [(.int (lcmpW p3 p2))]))
      have hc29 : ¬ ((lcmpW p3 p2) = (0 : Int32)) := by first | (rw [lw_of_lt h_o]; decide) | rw [lw_of_lt h_o]
      refine Go.step (fun t_ k_ => XS.ifYes X2.here hx rfl (pc0 := 29) (pc' := 38) rfl (hb hby at_29) rfl ((if0 _ _).trans (feq hc29).2) (by decide) (by decide) k_) ?_
      show Go p e below _ (T2.setTop (mkF m 38 #[.val (.int p1), .val (.long p2), .second, .val (.long p3), .second, .val (.ref a_SELL), .val (.int (0 : Int32)), .unset, .unset, .unset, .unset, .unset] []))
      refine Go.step (fun t_ k_ => XS.aload X2.here hx rfl (hb hby at_38) rfl rfl k_) ?_
      show Go p e below _ (T2.setTop (mkF m 40 #[.val (.int p1), .val (.long p2), .second, .val (.long p3), .second, .val (.ref a_SELL), .val (.int (0 : Int32)), .unset, .unset, .unset, .unset, .unset] [(.ref a_SELL)]))
      obtain ⟨T3, X3, e3, st3⟩ := getS2 X2 hx hZ hown (host := "") (Or.inl (hw _ (List.mem_of_getElem? (i := 10) rfl))) Via.refl e2 (S_BUY.ext Ol.2) (g := (mkF m 40 #[.val (.int p1), .val (.long p2), .second, .val (.long p3), .second, .val (.ref a_SELL), .val (.int (0 : Int32)), .unset, .unset, .unset, .unset, .unset] [(.ref a_SELL)])) rfl (hb hby at_40)
      refine Go.step st3 ?_
      show Go p e below _ (T3.setTop (mkF m 43 #[.val (.int p1), .val (.long p2), .second, .val (.long p3), .second, .val (.ref a_SELL), .val (.int (0 : Int32)), .unset, .unset, .unset, .unset, .unset] [(.ref a_BUY), (.ref a_SELL)]))
      have ha43 : ¬ (a_SELL = a_BUY) := (Fld.ne F_SELL_ordinal F_BUY_ordinal (by simp))
      refine Go.step (fun t_ k_ => Jvm.RoadKit.acmp (g := (mkF m 43 #[.val (.int p1), .val (.long p2), .second, .val (.long p3), .second, .val (.ref a_SELL), .val (.int (0 : Int32)), .unset, .unset, .unset, .unset, .unset] [(.ref a_BUY), (.ref a_SELL)])) X3 hx rfl rfl rfl (pc0 := 43) (pc' := 62) (same := false) rfl (hb hby at_43) rfl (decide_eq_false fun q => ha43 (Value.ref.inj q)) (by decide) (by decide) k_) ?_
      show Go p e below _ (T3.setTop (mkF m 62 #[.val (.int p1), .val (.long p2), .second, .val (.long p3), .second, .val (.ref a_SELL), .val (.int (0 : Int32)), .unset, .unset, .unset, .unset, .unset] []))
      refine Go.step (fun t_ k_ => XS.lloadN X3.here hx rfl (hb hby at_62) rfl k_) ?_
      show Go p e below _ (T3.setTop (mkF m 63 #[.val (.int p1), .val (.long p2), .second, .val (.long p3), .second, .val (.ref a_SELL), .val (.int (0 : Int32)), .unset, .unset, .unset, .unset, .unset] [(.long p2)]))
      refine Go.step (fun t_ k_ => XS.lloadN X3.here hx rfl (hb hby at_63) rfl k_) ?_
      show Go p e below _ (T3.setTop (mkF m 64 #[.val (.int p1), .val (.long p2), .second, .val (.long p3), .second, .val (.ref a_SELL), .val (.int (0 : Int32)), .unset, .unset, .unset, .unset, .unset] [(.long p3), (.long p2)]))
      refine Go.step (fun t_ k_ => XS.lcmp X3.here hx rfl (hb hby at_64) rfl k_) ?_
      show Go p e below _ (T3.setTop (mkF m 65 #[.val (.int p1), .val (.long p2), .second, .val (.long p3), .second, .val (.ref a_SELL), .val (.int (0 : Int32)), .unset, .unset, .unset, .unset, .unset] [(.int (lcmpW p2 p3))]))
      have hc65 : ¬ ((lcmpW p2 p3) < (0 : Int32)) := by first | (rw [lw_of_gt h_o]; decide) | rw [lw_of_gt h_o]
      refine Go.step (fun t_ k_ => XS.ifYes X3.here hx rfl (pc0 := 65) (pc' := 72) rfl (hb hby at_65) rfl ((if0 _ _).trans (flt hc65).2.1) (by decide) (by decide) k_) ?_
      show Go p e below _ (T3.setTop (mkF m 72 #[.val (.int p1), .val (.long p2), .second, .val (.long p3), .second, .val (.ref a_SELL), .val (.int (0 : Int32)), .unset, .unset, .unset, .unset, .unset] []))
      refine Go.step (fun t_ k_ => XS.iconst X3.here hx rfl (hb hby at_72) k_) ?_
      show Go p e below _ (T3.setTop (mkF m 73 #[.val (.int p1), .val (.long p2), .second, .val (.long p3), .second, .val (.ref a_SELL), .val (.int (0 : Int32)), .unset, .unset, .unset, .unset, .unset] [(.int (0 : Int32))]))
      refine Go.step (fun t_ k_ => XS.istore X3.here hx rfl (hb hby at_73) rfl (l' := #[.val (.int p1), .val (.long p2), .second, .val (.long p3), .second, .val (.ref a_SELL), .val (.int (0 : Int32)), .val (.int (0 : Int32)), .unset, .unset, .unset, .unset]) rfl k_) ?_
      show Go p e below _ (T3.setTop (mkF m 75 #[.val (.int p1), .val (.long p2), .second, .val (.long p3), .second, .val (.ref a_SELL), .val (.int (0 : Int32)), .val (.int (0 : Int32)), .unset, .unset, .unset, .unset] []))
      refine Go.step (fun t_ k_ => XS.aload X3.here hx rfl (hb hby at_75) rfl rfl k_) ?_
      show Go p e below _ (T3.setTop (mkF m 77 #[.val (.int p1), .val (.long p2), .second, .val (.long p3), .second, .val (.ref a_SELL), .val (.int (0 : Int32)), .val (.int (0 : Int32)), .unset, .unset, .unset, .unset] [(.ref a_SELL)]))
      obtain ⟨cq4, kq4, q4a, q4b, q4c⟩ := isOf hZ e3 (E_SELL.ext Ol.2)
      obtain ⟨_, _, ⟨T4, L4, k4, n4⟩, -, X4, ⟨Lc4, hQ4, l4, y4, z4⟩, st4⟩ := X3.virtualBack hx (y := (⟨"com/example/bracketline/bracketline/Side", "opposite", "()Lcom/example/bracketline/bracketline/Side;"⟩ : MethodName)) (z := (⟨"com/example/bracketline/bracketline/Side", "opposite", "()Lcom/example/bracketline/bracketline/Side;"⟩ : MethodName)) hown (mvT hZ (hw _ (List.mem_of_getElem? (i := 11) rfl))) (mvT hZ (hw _ (List.mem_of_getElem? (i := 12) rfl))) (notFace_of_selects (args := #[]) (mvT hZ (hw _ (List.mem_of_getElem? (i := 14) rfl)))) (mvT hZ (hw _ (List.mem_of_getElem? (i := 14) rfl))) (mvT hZ (hw _ (List.mem_of_getElem? (i := 13) rfl))) (by decide) (backOf (W := 0) (rm2 l Z a0 hw [] a_SELL a_BUY HW a_SELL a_BUY h0 n0 Ol (by simp [(Fld.ne F_SELL_ordinal F_BUY_ordinal (by simp)), (Ne.symm (Fld.ne F_SELL_ordinal F_BUY_ordinal (by simp)))])) hZ (hw _ (List.mem_of_getElem? (i := 15) rfl)) (hw _ (List.mem_of_getElem? (i := 1) rfl)) (by decide) (by decide)) q4a q4c (g := (mkF m 77 #[.val (.int p1), .val (.long p2), .second, .val (.long p3), .second, .val (.ref a_SELL), .val (.int (0 : Int32)), .val (.int (0 : Int32)), .unset, .unset, .unset, .unset] [(.ref a_SELL)])) rfl (by rw [hml]; rfl) (Steps.refl _) (argsL := []) (rest := []) (lenOf pd_1 rfl) rfl (by show 2 * 0 + _ ≤ _; exact Nat.le_of_eq rfl) (hb hby at_77) (fun _ _ => ⟨rfl, e3, (by decide : 0 + 0 ≤ _), (by decide : 0 + 0 ≤ _)⟩)
      dsimp only [Pt.U, Pt.locs, Pt.cells, Pt.slots] at X4 l4 y4 z4 st4 hQ4
      subst l4 y4 z4
      obtain ⟨rfl, Nq4, e4⟩ := hQ4
      have N4 := Fr.app N2 Nq4
      refine Go.step (fun t_ k_ => st4.trans k_) ?_
      show Go p e below _ (T4.setTop (mkF m 80 #[.val (.int p1), .val (.long p2), .second, .val (.long p3), .second, .val (.ref a_SELL), .val (.int (0 : Int32)), .val (.int (0 : Int32)), .unset, .unset, .unset, .unset] [(.ref a_BUY)]))
      refine Go.step (fun t_ k_ => XS.lloadN X4.here hx rfl (hb hby at_80) rfl k_) ?_
      show Go p e below _ (T4.setTop (mkF m 81 #[.val (.int p1), .val (.long p2), .second, .val (.long p3), .second, .val (.ref a_SELL), .val (.int (0 : Int32)), .val (.int (0 : Int32)), .unset, .unset, .unset, .unset] [(.long p3), (.ref a_BUY)]))
      refine Go.step (fun t_ k_ => XS.lloadN X4.here hx rfl (hb hby at_81) rfl k_) ?_
      show Go p e below _ (T4.setTop (mkF m 82 #[.val (.int p1), .val (.long p2), .second, .val (.long p3), .second, .val (.ref a_SELL), .val (.int (0 : Int32)), .val (.int (0 : Int32)), .unset, .unset, .unset, .unset] [(.long p2), (.long p3), (.ref a_BUY)]))
      obtain ⟨cq5, kq5, q5a, q5b, q5c⟩ := isOf hZ e4 (E_BUY.ext Ol.2)
      obtain ⟨_, _, ⟨T5, L5, k5, n5⟩, -, X5, ⟨Lc5, hQ5, l5, y5, z5⟩, st5⟩ := X4.virtualBack hx (y := (⟨"com/example/bracketline/bracketline/Side", "accepts", "(JJ)Z"⟩ : MethodName)) (z := (⟨"com/example/bracketline/bracketline/Side", "accepts", "(JJ)Z"⟩ : MethodName)) hown (mvT hZ (hw _ (List.mem_of_getElem? (i := 3) rfl))) (mvT hZ (hw _ (List.mem_of_getElem? (i := 4) rfl))) (notFace_of_selects (args := #[]) (mvT hZ (hw _ (List.mem_of_getElem? (i := 6) rfl)))) (mvT hZ (hw _ (List.mem_of_getElem? (i := 6) rfl))) (mvT hZ (hw _ (List.mem_of_getElem? (i := 5) rfl))) (by decide) (backOf (W := 0) (rm1 l Z a0 hw [] a_SELL a_BUY HW a_BUY p3 p2 (0 : Int32) h0 n0 Ol (by first | (rw [lw_of_gt h_o]; simp [(Fld.ne F_SELL_ordinal F_BUY_ordinal (by simp)), (Ne.symm (Fld.ne F_SELL_ordinal F_BUY_ordinal (by simp)))]; done) | (rw [lw_of_gt h_o]; done))) hZ (hw _ (List.mem_of_getElem? (i := 7) rfl)) (hw _ (List.mem_of_getElem? (i := 1) rfl)) (by decide) (by decide)) q5a q5c (g := (mkF m 82 #[.val (.int p1), .val (.long p2), .second, .val (.long p3), .second, .val (.ref a_SELL), .val (.int (0 : Int32)), .val (.int (0 : Int32)), .unset, .unset, .unset, .unset] [(.long p2), (.long p3), (.ref a_BUY)])) rfl (by rw [hml]; rfl) (Steps.refl _) (argsL := [(.long p3), (.long p2)]) (rest := []) (lenOf pd_0 rfl) rfl (by show 2 * 0 + _ ≤ _; exact Nat.le_of_eq rfl) (hb hby at_82) (fun _ _ => ⟨rfl, e4, (by decide : 0 + 0 ≤ _), (by decide : 0 + 0 ≤ _)⟩)
      dsimp only [Pt.U, Pt.locs, Pt.cells, Pt.slots] at X5 l5 y5 z5 st5 hQ5
      subst l5 y5 z5
      obtain ⟨rfl, Nq5, e5⟩ := hQ5
      have N5 := Fr.app N4 Nq5
      refine Go.step (fun t_ k_ => st5.trans k_) ?_
      show Go p e below _ (T5.setTop (mkF m 85 #[.val (.int p1), .val (.long p2), .second, .val (.long p3), .second, .val (.ref a_SELL), .val (.int (0 : Int32)), .val (.int (0 : Int32)), .unset, .unset, .unset, .unset] [(.int (0 : Int32))]))
      refine Go.step (fun t_ k_ => XS.iload X5.here hx rfl (hb hby at_85) rfl k_) ?_
      show Go p e below _ (T5.setTop (mkF m 87 #[.val (.int p1), .val (.long p2), .second, .val (.long p3), .second, .val (.ref a_SELL), .val (.int (0 : Int32)), .val (.int (0 : Int32)), .unset, .unset, .unset, .unset] [(.int (0 : Int32)), (.int (0 : Int32))]))
      have hc87 : (0 : Int32) = (0 : Int32) := by decide
      refine Go.step (fun t_ k_ => XS.icmpNo X5.here hx rfl (hb hby at_87) rfl (teq hc87).2 k_) ?_
      show Go p e below _ (T5.setTop (mkF m 90 #[.val (.int p1), .val (.long p2), .second, .val (.long p3), .second, .val (.ref a_SELL), .val (.int (0 : Int32)), .val (.int (0 : Int32)), .unset, .unset, .unset, .unset] []))
      refine Go.step (fun t_ k_ => XS.iconst X5.here hx rfl (hb hby at_90) k_) ?_
      show Go p e below _ (T5.setTop (mkF m 91 #[.val (.int p1), .val (.long p2), .second, .val (.long p3), .second, .val (.ref a_SELL), .val (.int (0 : Int32)), .val (.int (0 : Int32)), .unset, .unset, .unset, .unset] [(.int (1 : Int32))]))
      refine Go.step (fun t_ k_ => XS.goto X5.here hx rfl (pc0 := 91) (pc' := 95) rfl (hb hby at_91) (by decide) (by decide) k_) ?_
      show Go p e below _ (T5.setTop (mkF m 95 #[.val (.int p1), .val (.long p2), .second, .val (.long p3), .second, .val (.ref a_SELL), .val (.int (0 : Int32)), .val (.int (0 : Int32)), .unset, .unset, .unset, .unset] [(.int (1 : Int32))]))
      refine Go.step (fun t_ k_ => XS.istore X5.here hx rfl (hb hby at_95) rfl (l' := #[.val (.int p1), .val (.long p2), .second, .val (.long p3), .second, .val (.ref a_SELL), .val (.int (0 : Int32)), .val (.int (0 : Int32)), .val (.int (1 : Int32)), .unset, .unset, .unset]) rfl k_) ?_
      show Go p e below _ (T5.setTop (mkF m 97 #[.val (.int p1), .val (.long p2), .second, .val (.long p3), .second, .val (.ref a_SELL), .val (.int (0 : Int32)), .val (.int (0 : Int32)), .val (.int (1 : Int32)), .unset, .unset, .unset] []))
      refine Go.step (fun t_ k_ => XS.lloadN X5.here hx rfl (hb hby at_97) rfl k_) ?_
      show Go p e below _ (T5.setTop (mkF m 98 #[.val (.int p1), .val (.long p2), .second, .val (.long p3), .second, .val (.ref a_SELL), .val (.int (0 : Int32)), .val (.int (0 : Int32)), .val (.int (1 : Int32)), .unset, .unset, .unset] [(.long p3)]))
      refine Go.step (fun t_ k_ => X5.ldc2Long hx hown (mvT hZ (hw _ (List.mem_of_getElem? (i := 16) rfl))) (g := (mkF m 98 #[.val (.int p1), .val (.long p2), .second, .val (.long p3), .second, .val (.ref a_SELL), .val (.int (0 : Int32)), .val (.int (0 : Int32)), .val (.int (1 : Int32)), .unset, .unset, .unset] [(.long p3)])) rfl (hb hby at_98) _ k_) ?_
      show Go p e below _ (T5.setTop (mkF m 101 #[.val (.int p1), .val (.long p2), .second, .val (.long p3), .second, .val (.ref a_SELL), .val (.int (0 : Int32)), .val (.int (0 : Int32)), .val (.int (1 : Int32)), .unset, .unset, .unset] [(.long (9223372036854775807 : Int64)), (.long p3)]))
      refine Go.step (fun t_ k_ => XS.land X5.here hx rfl (hb hby at_101) rfl k_) ?_
      show Go p e below _ (T5.setTop (mkF m 102 #[.val (.int p1), .val (.long p2), .second, .val (.long p3), .second, .val (.ref a_SELL), .val (.int (0 : Int32)), .val (.int (0 : Int32)), .val (.int (1 : Int32)), .unset, .unset, .unset] [(.long (p3 &&& (9223372036854775807 : Int64)))]))
      refine Go.step (fun t_ k_ => XS.lstore X5.here hx rfl (hb hby at_102) rfl (l' := #[.val (.int p1), .val (.long p2), .second, .val (.long p3), .second, .val (.ref a_SELL), .val (.int (0 : Int32)), .val (.int (0 : Int32)), .val (.int (1 : Int32)), .val (.long (p3 &&& (9223372036854775807 : Int64))), .second, .unset]) rfl k_) ?_
      show Go p e below _ (T5.setTop (mkF m 104 #[.val (.int p1), .val (.long p2), .second, .val (.long p3), .second, .val (.ref a_SELL), .val (.int (0 : Int32)), .val (.int (0 : Int32)), .val (.int (1 : Int32)), .val (.long (p3 &&& (9223372036854775807 : Int64))), .second, .unset] []))
      refine Go.step (fun t_ k_ => XS.aload X5.here hx rfl (hb hby at_104) rfl rfl k_) ?_
      show Go p e below _ (T5.setTop (mkF m 106 #[.val (.int p1), .val (.long p2), .second, .val (.long p3), .second, .val (.ref a_SELL), .val (.int (0 : Int32)), .val (.int (0 : Int32)), .val (.int (1 : Int32)), .val (.long (p3 &&& (9223372036854775807 : Int64))), .second, .unset] [(.ref a_SELL)]))
      refine Go.step (fun t_ k_ => XS.aload X5.here hx rfl (hb hby at_106) rfl rfl k_) ?_
      show Go p e below _ (T5.setTop (mkF m 108 #[.val (.int p1), .val (.long p2), .second, .val (.long p3), .second, .val (.ref a_SELL), .val (.int (0 : Int32)), .val (.int (0 : Int32)), .val (.int (1 : Int32)), .val (.long (p3 &&& (9223372036854775807 : Int64))), .second, .unset] [(.ref a_SELL), (.ref a_SELL)]))
      obtain ⟨cq6, kq6, q6a, q6b, q6c⟩ := isOf hZ e5 (E_SELL.ext Ol.2)
      obtain ⟨_, _, ⟨T6, L6, k6, n6⟩, -, X6, ⟨Lc6, hQ6, l6, y6, z6⟩, st6⟩ := X5.virtualBack hx (y := (⟨"com/example/bracketline/bracketline/Side", "marketLimit", "()J"⟩ : MethodName)) (z := (⟨"com/example/bracketline/bracketline/Side", "marketLimit", "()J"⟩ : MethodName)) hown (mvT hZ (hw _ (List.mem_of_getElem? (i := 17) rfl))) (mvT hZ (hw _ (List.mem_of_getElem? (i := 18) rfl))) (notFace_of_selects (args := #[]) (mvT hZ (hw _ (List.mem_of_getElem? (i := 20) rfl)))) (mvT hZ (hw _ (List.mem_of_getElem? (i := 20) rfl))) (mvT hZ (hw _ (List.mem_of_getElem? (i := 19) rfl))) (by decide) (backOf (W := 1) (rm3 l Z a0 hw [] a_SELL a_BUY HW a_SELL (0 : Int64) h0 n0 Ol F_SELL_marketLimit rfl) hZ (hw _ (List.mem_of_getElem? (i := 21) rfl)) (hw _ (List.mem_of_getElem? (i := 1) rfl)) (by decide) (by decide)) q6a q6c (g := (mkF m 108 #[.val (.int p1), .val (.long p2), .second, .val (.long p3), .second, .val (.ref a_SELL), .val (.int (0 : Int32)), .val (.int (0 : Int32)), .val (.int (1 : Int32)), .val (.long (p3 &&& (9223372036854775807 : Int64))), .second, .unset] [(.ref a_SELL), (.ref a_SELL)])) rfl (by rw [hml]; rfl) (Steps.refl _) (argsL := []) (rest := [(.ref a_SELL)]) (lenOf pd_2 rfl) rfl (by show 2 * 0 + _ ≤ _; exact Nat.le_of_eq rfl) (hb hby at_108) (fun _ _ => ⟨rfl, e5, (by decide : 0 + 0 ≤ _), (by decide : 0 + 0 ≤ _)⟩)
      dsimp only [Pt.U, Pt.locs, Pt.cells, Pt.slots] at X6 l6 y6 z6 st6 hQ6
      subst l6 y6 z6
      obtain ⟨rfl, Nq6, e6⟩ := hQ6
      have N6 := Fr.app N5 Nq6
      refine Go.step (fun t_ k_ => st6.trans k_) ?_
      show Go p e below _ (T6.setTop (mkF m 111 #[.val (.int p1), .val (.long p2), .second, .val (.long p3), .second, .val (.ref a_SELL), .val (.int (0 : Int32)), .val (.int (0 : Int32)), .val (.int (1 : Int32)), .val (.long (p3 &&& (9223372036854775807 : Int64))), .second, .unset] [(.long (0 : Int64)), (.ref a_SELL)]))
      refine Go.step (fun t_ k_ => XS.lload X6.here hx rfl (hb hby at_111) rfl k_) ?_
      show Go p e below _ (T6.setTop (mkF m 113 #[.val (.int p1), .val (.long p2), .second, .val (.long p3), .second, .val (.ref a_SELL), .val (.int (0 : Int32)), .val (.int (0 : Int32)), .val (.int (1 : Int32)), .val (.long (p3 &&& (9223372036854775807 : Int64))), .second, .unset] [(.long (p3 &&& (9223372036854775807 : Int64))), (.long (0 : Int64)), (.ref a_SELL)]))
      obtain ⟨cq7, kq7, q7a, q7b, q7c⟩ := isOf hZ e6 (E_SELL.ext Ol.2)
      obtain ⟨_, _, ⟨T7, L7, k7, n7⟩, -, X7, ⟨Lc7, hQ7, l7, y7, z7⟩, st7⟩ := X6.virtualBack hx (y := (⟨"com/example/bracketline/bracketline/Side", "accepts", "(JJ)Z"⟩ : MethodName)) (z := (⟨"com/example/bracketline/bracketline/Side", "accepts", "(JJ)Z"⟩ : MethodName)) hown (mvT hZ (hw _ (List.mem_of_getElem? (i := 3) rfl))) (mvT hZ (hw _ (List.mem_of_getElem? (i := 4) rfl))) (notFace_of_selects (args := #[]) (mvT hZ (hw _ (List.mem_of_getElem? (i := 6) rfl)))) (mvT hZ (hw _ (List.mem_of_getElem? (i := 6) rfl))) (mvT hZ (hw _ (List.mem_of_getElem? (i := 5) rfl))) (by decide) (backOf (W := 0) (rm1 l Z a0 hw [] a_SELL a_BUY HW a_SELL (0 : Int64) (p3 &&& (9223372036854775807 : Int64)) (1 : Int32) h0 n0 Ol (by simp [mk_nn, (Fld.ne F_SELL_ordinal F_BUY_ordinal (by simp)), (Ne.symm (Fld.ne F_SELL_ordinal F_BUY_ordinal (by simp)))])) hZ (hw _ (List.mem_of_getElem? (i := 7) rfl)) (hw _ (List.mem_of_getElem? (i := 1) rfl)) (by decide) (by decide)) q7a q7c (g := (mkF m 113 #[.val (.int p1), .val (.long p2), .second, .val (.long p3), .second, .val (.ref a_SELL), .val (.int (0 : Int32)), .val (.int (0 : Int32)), .val (.int (1 : Int32)), .val (.long (p3 &&& (9223372036854775807 : Int64))), .second, .unset] [(.long (p3 &&& (9223372036854775807 : Int64))), (.long (0 : Int64)), (.ref a_SELL)])) rfl (by rw [hml]; rfl) (Steps.refl _) (argsL := [(.long (0 : Int64)), (.long (p3 &&& (9223372036854775807 : Int64)))]) (rest := []) (lenOf pd_0 rfl) rfl (by show 2 * 0 + _ ≤ _; exact Nat.le_of_eq rfl) (hb hby at_113) (fun _ _ => ⟨rfl, e6, (by decide : 0 + 0 ≤ _), (by decide : 0 + 0 ≤ _)⟩)
      dsimp only [Pt.U, Pt.locs, Pt.cells, Pt.slots] at X7 l7 y7 z7 st7 hQ7
      subst l7 y7 z7
      obtain ⟨rfl, Nq7, e7⟩ := hQ7
      have N7 := Fr.app N6 Nq7
      refine Go.step (fun t_ k_ => st7.trans k_) ?_
      show Go p e below _ (T7.setTop (mkF m 116 #[.val (.int p1), .val (.long p2), .second, .val (.long p3), .second, .val (.ref a_SELL), .val (.int (0 : Int32)), .val (.int (0 : Int32)), .val (.int (1 : Int32)), .val (.long (p3 &&& (9223372036854775807 : Int64))), .second, .unset] [(.int (1 : Int32))]))
      refine Go.step (fun t_ k_ => XS.istore X7.here hx rfl (hb hby at_116) rfl (l' := #[.val (.int p1), .val (.long p2), .second, .val (.long p3), .second, .val (.ref a_SELL), .val (.int (0 : Int32)), .val (.int (0 : Int32)), .val (.int (1 : Int32)), .val (.long (p3 &&& (9223372036854775807 : Int64))), .second, .val (.int (1 : Int32))]) rfl k_) ?_
      show Go p e below _ (T7.setTop (mkF m 118 #[.val (.int p1), .val (.long p2), .second, .val (.long p3), .second, .val (.ref a_SELL), .val (.int (0 : Int32)), .val (.int (0 : Int32)), .val (.int (1 : Int32)), .val (.long (p3 &&& (9223372036854775807 : Int64))), .second, .val (.int (1 : Int32))] []))
      refine Go.step (fun t_ k_ => XS.iload X7.here hx rfl (hb hby at_118) rfl k_) ?_
      show Go p e below _ (T7.setTop (mkF m 120 #[.val (.int p1), .val (.long p2), .second, .val (.long p3), .second, .val (.ref a_SELL), .val (.int (0 : Int32)), .val (.int (0 : Int32)), .val (.int (1 : Int32)), .val (.long (p3 &&& (9223372036854775807 : Int64))), .second, .val (.int (1 : Int32))] [(.int (0 : Int32))]))
      refine Go.step (fun t_ k_ => XS.iload X7.here hx rfl (hb hby at_120) rfl k_) ?_
      show Go p e below _ (T7.setTop (mkF m 122 #[.val (.int p1), .val (.long p2), .second, .val (.long p3), .second, .val (.ref a_SELL), .val (.int (0 : Int32)), .val (.int (0 : Int32)), .val (.int (1 : Int32)), .val (.long (p3 &&& (9223372036854775807 : Int64))), .second, .val (.int (1 : Int32))] [(.int (0 : Int32)), (.int (0 : Int32))]))
      have hc122 : (0 : Int32) = (0 : Int32) := by decide
      refine Go.step (fun t_ k_ => XS.icmpNo X7.here hx rfl (hb hby at_122) rfl (teq hc122).2 k_) ?_
      show Go p e below _ (T7.setTop (mkF m 125 #[.val (.int p1), .val (.long p2), .second, .val (.long p3), .second, .val (.ref a_SELL), .val (.int (0 : Int32)), .val (.int (0 : Int32)), .val (.int (1 : Int32)), .val (.long (p3 &&& (9223372036854775807 : Int64))), .second, .val (.int (1 : Int32))] []))
      refine Go.step (fun t_ k_ => XS.iload X7.here hx rfl (hb hby at_125) rfl k_) ?_
      show Go p e below _ (T7.setTop (mkF m 127 #[.val (.int p1), .val (.long p2), .second, .val (.long p3), .second, .val (.ref a_SELL), .val (.int (0 : Int32)), .val (.int (0 : Int32)), .val (.int (1 : Int32)), .val (.long (p3 &&& (9223372036854775807 : Int64))), .second, .val (.int (1 : Int32))] [(.int (1 : Int32))]))
      have hc127 : ¬ ((1 : Int32) = (0 : Int32)) := by decide
      refine Go.step (fun t_ k_ => XS.ifNo X7.here hx rfl (hb hby at_127) rfl ((if0 _ _).trans (feq hc127).1) k_) ?_
      show Go p e below _ (T7.setTop (mkF m 130 #[.val (.int p1), .val (.long p2), .second, .val (.long p3), .second, .val (.ref a_SELL), .val (.int (0 : Int32)), .val (.int (0 : Int32)), .val (.int (1 : Int32)), .val (.long (p3 &&& (9223372036854775807 : Int64))), .second, .val (.int (1 : Int32))] []))
      refine Go.step (fun t_ k_ => XS.iload X7.here hx rfl (hb hby at_130) rfl k_) ?_
      show Go p e below _ (T7.setTop (mkF m 132 #[.val (.int p1), .val (.long p2), .second, .val (.long p3), .second, .val (.ref a_SELL), .val (.int (0 : Int32)), .val (.int (0 : Int32)), .val (.int (1 : Int32)), .val (.long (p3 &&& (9223372036854775807 : Int64))), .second, .val (.int (1 : Int32))] [(.int (1 : Int32))]))
      have hc132 : ¬ ((1 : Int32) = (0 : Int32)) := by decide
      refine Go.step (fun t_ k_ => XS.ifNo X7.here hx rfl (hb hby at_132) rfl ((if0 _ _).trans (feq hc132).1) k_) ?_
      show Go p e below _ (T7.setTop (mkF m 135 #[.val (.int p1), .val (.long p2), .second, .val (.long p3), .second, .val (.ref a_SELL), .val (.int (0 : Int32)), .val (.int (0 : Int32)), .val (.int (1 : Int32)), .val (.long (p3 &&& (9223372036854775807 : Int64))), .second, .val (.int (1 : Int32))] []))
      refine Go.step (fun t_ k_ => XS.iconst X7.here hx rfl (hb hby at_135) k_) ?_
      show Go p e below _ (T7.setTop (mkF m 136 #[.val (.int p1), .val (.long p2), .second, .val (.long p3), .second, .val (.ref a_SELL), .val (.int (0 : Int32)), .val (.int (0 : Int32)), .val (.int (1 : Int32)), .val (.long (p3 &&& (9223372036854775807 : Int64))), .second, .val (.int (1 : Int32))] [(.int (1 : Int32))]))
      refine Go.step (fun t_ k_ => XS.goto X7.here hx rfl (pc0 := 136) (pc' := 140) rfl (hb hby at_136) (by decide) (by decide) k_) ?_
      show Go p e below _ (T7.setTop (mkF m 140 #[.val (.int p1), .val (.long p2), .second, .val (.long p3), .second, .val (.ref a_SELL), .val (.int (0 : Int32)), .val (.int (0 : Int32)), .val (.int (1 : Int32)), .val (.long (p3 &&& (9223372036854775807 : Int64))), .second, .val (.int (1 : Int32))] [(.int (1 : Int32))]))
      refine Go.retZ X7 hx (t := .boolean) Bd.returns (by simp) Bd.notSynchronized (hb hby at_140) (by rw [e7]; exact ⟨rfl, N7⟩) (by decide) (by decide)
    case neg =>
      refine Go.step (fun t_ k_ => XS.ifNo X0.here hx rfl (hb hby at_3) rfl ((if0 _ _).trans (feq hc3).1) k_) ?_
      show Go p e below _ (s₁.setTop (mkF m 6 #[.val (.int p1), .val (.long p2), .second, .val (.long p3), .second, .unset, .unset, .unset, .unset, .unset, .unset, .unset] []))
      obtain ⟨T8, X8, e8, st8⟩ := getS2 X0 hx hZ hown (host := "") (Or.inl (hw _ (List.mem_of_getElem? (i := 10) rfl))) Via.refl e0 (S_BUY.ext Ol.2) (g := (mkF m 6 #[.val (.int p1), .val (.long p2), .second, .val (.long p3), .second, .unset, .unset, .unset, .unset, .unset, .unset, .unset] [])) rfl (hb hby at_6)
      refine Go.step st8 ?_
      show Go p e below _ (T8.setTop (mkF m 9 #[.val (.int p1), .val (.long p2), .second, .val (.long p3), .second, .unset, .unset, .unset, .unset, .unset, .unset, .unset] [(.ref a_BUY)]))
      refine Go.step (fun t_ k_ => XS.goto X8.here hx rfl (pc0 := 9) (pc' := 15) rfl (hb hby at_9) (by decide) (by decide) k_) ?_
      show Go p e below _ (T8.setTop (mkF m 15 #[.val (.int p1), .val (.long p2), .second, .val (.long p3), .second, .unset, .unset, .unset, .unset, .unset, .unset, .unset] [(.ref a_BUY)]))
      refine Go.step (fun t_ k_ => XS.astore X8.here hx rfl (hb hby at_15) rfl rfl (l' := #[.val (.int p1), .val (.long p2), .second, .val (.long p3), .second, .val (.ref a_BUY), .unset, .unset, .unset, .unset, .unset, .unset]) rfl k_) ?_
      show Go p e below _ (T8.setTop (mkF m 17 #[.val (.int p1), .val (.long p2), .second, .val (.long p3), .second, .val (.ref a_BUY), .unset, .unset, .unset, .unset, .unset, .unset] []))
      refine Go.step (fun t_ k_ => XS.aload X8.here hx rfl (hb hby at_17) rfl rfl k_) ?_
      show Go p e below _ (T8.setTop (mkF m 19 #[.val (.int p1), .val (.long p2), .second, .val (.long p3), .second, .val (.ref a_BUY), .unset, .unset, .unset, .unset, .unset, .unset] [(.ref a_BUY)]))
      refine Go.step (fun t_ k_ => XS.lloadN X8.here hx rfl (hb hby at_19) rfl k_) ?_
      show Go p e below _ (T8.setTop (mkF m 20 #[.val (.int p1), .val (.long p2), .second, .val (.long p3), .second, .val (.ref a_BUY), .unset, .unset, .unset, .unset, .unset, .unset] [(.long p2), (.ref a_BUY)]))
      refine Go.step (fun t_ k_ => XS.lloadN X8.here hx rfl (hb hby at_20) rfl k_) ?_
      show Go p e below _ (T8.setTop (mkF m 21 #[.val (.int p1), .val (.long p2), .second, .val (.long p3), .second, .val (.ref a_BUY), .unset, .unset, .unset, .unset, .unset, .unset] [(.long p3), (.long p2), (.ref a_BUY)]))
      obtain ⟨cq9, kq9, q9a, q9b, q9c⟩ := isOf hZ e8 (E_BUY.ext Ol.2)
      obtain ⟨_, _, ⟨T9, L9, k9, n9⟩, -, X9, ⟨Lc9, hQ9, l9, y9, z9⟩, st9⟩ := X8.virtualBack hx (y := (⟨"com/example/bracketline/bracketline/Side", "accepts", "(JJ)Z"⟩ : MethodName)) (z := (⟨"com/example/bracketline/bracketline/Side", "accepts", "(JJ)Z"⟩ : MethodName)) hown (mvT hZ (hw _ (List.mem_of_getElem? (i := 3) rfl))) (mvT hZ (hw _ (List.mem_of_getElem? (i := 4) rfl))) (notFace_of_selects (args := #[]) (mvT hZ (hw _ (List.mem_of_getElem? (i := 6) rfl)))) (mvT hZ (hw _ (List.mem_of_getElem? (i := 6) rfl))) (mvT hZ (hw _ (List.mem_of_getElem? (i := 5) rfl))) (by decide) (backOf (W := 0) (rm1 l Z a0 hw [] a_SELL a_BUY HW a_BUY p2 p3 (1 : Int32) h0 n0 Ol (by first | (rw [lw_of_lt h_o]; simp [(Fld.ne F_SELL_ordinal F_BUY_ordinal (by simp)), (Ne.symm (Fld.ne F_SELL_ordinal F_BUY_ordinal (by simp)))]; done) | (rw [lw_of_lt h_o]; done))) hZ (hw _ (List.mem_of_getElem? (i := 7) rfl)) (hw _ (List.mem_of_getElem? (i := 1) rfl)) (by decide) (by decide)) q9a q9c (g := (mkF m 21 #[.val (.int p1), .val (.long p2), .second, .val (.long p3), .second, .val (.ref a_BUY), .unset, .unset, .unset, .unset, .unset, .unset] [(.long p3), (.long p2), (.ref a_BUY)])) rfl (by rw [hml]; rfl) (Steps.refl _) (argsL := [(.long p2), (.long p3)]) (rest := []) (lenOf pd_0 rfl) rfl (by show 2 * 0 + _ ≤ _; exact Nat.le_of_eq rfl) (hb hby at_21) (fun _ _ => ⟨rfl, e8, (by decide : 0 + 0 ≤ _), (by decide : 0 + 0 ≤ _)⟩)
      dsimp only [Pt.U, Pt.locs, Pt.cells, Pt.slots] at X9 l9 y9 z9 st9 hQ9
      subst l9 y9 z9
      obtain ⟨rfl, Nq9, e9⟩ := hQ9
      have N9 := Fr.app N0 Nq9
      refine Go.step (fun t_ k_ => st9.trans k_) ?_
      show Go p e below _ (T9.setTop (mkF m 24 #[.val (.int p1), .val (.long p2), .second, .val (.long p3), .second, .val (.ref a_BUY), .unset, .unset, .unset, .unset, .unset, .unset] [(.int (1 : Int32))]))
      refine Go.step (fun t_ k_ => XS.istore X9.here hx rfl (hb hby at_24) rfl (l' := #[.val (.int p1), .val (.long p2), .second, .val (.long p3), .second, .val (.ref a_BUY), .val (.int (1 : Int32)), .unset, .unset, .unset, .unset, .unset]) rfl k_) ?_
      show Go p e below _ (T9.setTop (mkF m 26 #[.val (.int p1), .val (.long p2), .second, .val (.long p3), .second, .val (.ref a_BUY), .val (.int (1 : Int32)), .unset, .unset, .unset, .unset, .unset] []))
      refine Go.step (fun t_ k_ => XS.lloadN X9.here hx rfl (hb hby at_26) rfl k_) ?_
      show Go p e below _ (T9.setTop (mkF m 27 #[.val (.int p1), .val (.long p2), .second, .val (.long p3), .second, .val (.ref a_BUY), .val (.int (1 : Int32)), .unset, .unset, .unset, .unset, .unset] [(.long p3)]))
      refine Go.step (fun t_ k_ => XS.lloadN X9.here hx rfl (hb hby at_27) rfl k_) ?_
      show Go p e below _ (T9.setTop (mkF m 28 #[.val (.int p1), .val (.long p2), .second, .val (.long p3), .second, .val (.ref a_BUY), .val (.int (1 : Int32)), .unset, .unset, .unset, .unset, .unset] [(.long p2), (.long p3)]))
      refine Go.step (fun t_ k_ => XS.lcmp X9.here hx rfl (hb hby at_28) rfl k_) ?_
      show Go p e below _ (T9.setTop (mkF m 29 #[.val (.int p1), .val (.long p2), .second, .val (.long p3), .second, .val (.ref a_BUY), .val (.int (1 : Int32)), .unset, .unset, .unset, .unset, .unset] [(.int (lcmpW p3 p2))]))
      have hc29 : ¬ ((lcmpW p3 p2) = (0 : Int32)) := by first | (rw [lw_of_lt h_o]; decide) | rw [lw_of_lt h_o]
      refine Go.step (fun t_ k_ => XS.ifYes X9.here hx rfl (pc0 := 29) (pc' := 38) rfl (hb hby at_29) rfl ((if0 _ _).trans (feq hc29).2) (by decide) (by decide) k_) ?_
      show Go p e below _ (T9.setTop (mkF m 38 #[.val (.int p1), .val (.long p2), .second, .val (.long p3), .second, .val (.ref a_BUY), .val (.int (1 : Int32)), .unset, .unset, .unset, .unset, .unset] []))
      refine Go.step (fun t_ k_ => XS.aload X9.here hx rfl (hb hby at_38) rfl rfl k_) ?_
      show Go p e below _ (T9.setTop (mkF m 40 #[.val (.int p1), .val (.long p2), .second, .val (.long p3), .second, .val (.ref a_BUY), .val (.int (1 : Int32)), .unset, .unset, .unset, .unset, .unset] [(.ref a_BUY)]))
      obtain ⟨T10, X10, e10, st10⟩ := getS2 X9 hx hZ hown (host := "") (Or.inl (hw _ (List.mem_of_getElem? (i := 10) rfl))) Via.refl e9 (S_BUY.ext Ol.2) (g := (mkF m 40 #[.val (.int p1), .val (.long p2), .second, .val (.long p3), .second, .val (.ref a_BUY), .val (.int (1 : Int32)), .unset, .unset, .unset, .unset, .unset] [(.ref a_BUY)])) rfl (hb hby at_40)
      refine Go.step st10 ?_
      show Go p e below _ (T10.setTop (mkF m 43 #[.val (.int p1), .val (.long p2), .second, .val (.long p3), .second, .val (.ref a_BUY), .val (.int (1 : Int32)), .unset, .unset, .unset, .unset, .unset] [(.ref a_BUY), (.ref a_BUY)]))
      refine Go.step (fun t_ k_ => Jvm.RoadKit.acmp (g := (mkF m 43 #[.val (.int p1), .val (.long p2), .second, .val (.long p3), .second, .val (.ref a_BUY), .val (.int (1 : Int32)), .unset, .unset, .unset, .unset, .unset] [(.ref a_BUY), (.ref a_BUY)])) X10 hx rfl rfl rfl (pc0 := 43) (pc' := 46) (same := true) rfl (hb hby at_43) rfl (decide_eq_true rfl) (by decide) (by decide) k_) ?_
      show Go p e below _ (T10.setTop (mkF m 46 #[.val (.int p1), .val (.long p2), .second, .val (.long p3), .second, .val (.ref a_BUY), .val (.int (1 : Int32)), .unset, .unset, .unset, .unset, .unset] []))
      refine Go.step (fun t_ k_ => XS.lloadN X10.here hx rfl (hb hby at_46) rfl k_) ?_
      show Go p e below _ (T10.setTop (mkF m 47 #[.val (.int p1), .val (.long p2), .second, .val (.long p3), .second, .val (.ref a_BUY), .val (.int (1 : Int32)), .unset, .unset, .unset, .unset, .unset] [(.long p3)]))
      refine Go.step (fun t_ k_ => XS.lloadN X10.here hx rfl (hb hby at_47) rfl k_) ?_
      show Go p e below _ (T10.setTop (mkF m 48 #[.val (.int p1), .val (.long p2), .second, .val (.long p3), .second, .val (.ref a_BUY), .val (.int (1 : Int32)), .unset, .unset, .unset, .unset, .unset] [(.long p2), (.long p3)]))
      refine Go.step (fun t_ k_ => XS.lcmp X10.here hx rfl (hb hby at_48) rfl k_) ?_
      show Go p e below _ (T10.setTop (mkF m 49 #[.val (.int p1), .val (.long p2), .second, .val (.long p3), .second, .val (.ref a_BUY), .val (.int (1 : Int32)), .unset, .unset, .unset, .unset, .unset] [(.int (lcmpW p3 p2))]))
      have hc49 : (lcmpW p3 p2) < (0 : Int32) := by first | (rw [lw_of_lt h_o]; decide) | rw [lw_of_lt h_o]
      refine Go.step (fun t_ k_ => XS.ifNo X10.here hx rfl (hb hby at_49) rfl ((if0 _ _).trans (tlt hc49).2.1) k_) ?_
      show Go p e below _ (T10.setTop (mkF m 52 #[.val (.int p1), .val (.long p2), .second, .val (.long p3), .second, .val (.ref a_BUY), .val (.int (1 : Int32)), .unset, .unset, .unset, .unset, .unset] []))
      refine Go.step (fun t_ k_ => XS.iconst X10.here hx rfl (hb hby at_52) k_) ?_
      show Go p e below _ (T10.setTop (mkF m 53 #[.val (.int p1), .val (.long p2), .second, .val (.long p3), .second, .val (.ref a_BUY), .val (.int (1 : Int32)), .unset, .unset, .unset, .unset, .unset] [(.int (1 : Int32))]))
      refine Go.step (fun t_ k_ => XS.goto X10.here hx rfl (pc0 := 53) (pc' := 57) rfl (hb hby at_53) (by decide) (by decide) k_) ?_
      show Go p e below _ (T10.setTop (mkF m 57 #[.val (.int p1), .val (.long p2), .second, .val (.long p3), .second, .val (.ref a_BUY), .val (.int (1 : Int32)), .unset, .unset, .unset, .unset, .unset] [(.int (1 : Int32))]))
      refine Go.step (fun t_ k_ => XS.istore X10.here hx rfl (hb hby at_57) rfl (l' := #[.val (.int p1), .val (.long p2), .second, .val (.long p3), .second, .val (.ref a_BUY), .val (.int (1 : Int32)), .val (.int (1 : Int32)), .unset, .unset, .unset, .unset]) rfl k_) ?_
      show Go p e below _ (T10.setTop (mkF m 59 #[.val (.int p1), .val (.long p2), .second, .val (.long p3), .second, .val (.ref a_BUY), .val (.int (1 : Int32)), .val (.int (1 : Int32)), .unset, .unset, .unset, .unset] []))
      refine Go.step (fun t_ k_ => XS.goto X10.here hx rfl (pc0 := 59) (pc' := 75) rfl (hb hby at_59) (by decide) (by decide) k_) ?_
      show Go p e below _ (T10.setTop (mkF m 75 #[.val (.int p1), .val (.long p2), .second, .val (.long p3), .second, .val (.ref a_BUY), .val (.int (1 : Int32)), .val (.int (1 : Int32)), .unset, .unset, .unset, .unset] []))
      refine Go.step (fun t_ k_ => XS.aload X10.here hx rfl (hb hby at_75) rfl rfl k_) ?_
      show Go p e below _ (T10.setTop (mkF m 77 #[.val (.int p1), .val (.long p2), .second, .val (.long p3), .second, .val (.ref a_BUY), .val (.int (1 : Int32)), .val (.int (1 : Int32)), .unset, .unset, .unset, .unset] [(.ref a_BUY)]))
      obtain ⟨cq11, kq11, q11a, q11b, q11c⟩ := isOf hZ e10 (E_BUY.ext Ol.2)
      obtain ⟨_, _, ⟨T11, L11, k11, n11⟩, -, X11, ⟨Lc11, hQ11, l11, y11, z11⟩, st11⟩ := X10.virtualBack hx (y := (⟨"com/example/bracketline/bracketline/Side", "opposite", "()Lcom/example/bracketline/bracketline/Side;"⟩ : MethodName)) (z := (⟨"com/example/bracketline/bracketline/Side", "opposite", "()Lcom/example/bracketline/bracketline/Side;"⟩ : MethodName)) hown (mvT hZ (hw _ (List.mem_of_getElem? (i := 11) rfl))) (mvT hZ (hw _ (List.mem_of_getElem? (i := 12) rfl))) (notFace_of_selects (args := #[]) (mvT hZ (hw _ (List.mem_of_getElem? (i := 14) rfl)))) (mvT hZ (hw _ (List.mem_of_getElem? (i := 14) rfl))) (mvT hZ (hw _ (List.mem_of_getElem? (i := 13) rfl))) (by decide) (backOf (W := 0) (rm2 l Z a0 hw [] a_SELL a_BUY HW a_BUY a_SELL h0 n0 Ol (by simp [(Fld.ne F_SELL_ordinal F_BUY_ordinal (by simp)), (Ne.symm (Fld.ne F_SELL_ordinal F_BUY_ordinal (by simp)))])) hZ (hw _ (List.mem_of_getElem? (i := 15) rfl)) (hw _ (List.mem_of_getElem? (i := 1) rfl)) (by decide) (by decide)) q11a q11c (g := (mkF m 77 #[.val (.int p1), .val (.long p2), .second, .val (.long p3), .second, .val (.ref a_BUY), .val (.int (1 : Int32)), .val (.int (1 : Int32)), .unset, .unset, .unset, .unset] [(.ref a_BUY)])) rfl (by rw [hml]; rfl) (Steps.refl _) (argsL := []) (rest := []) (lenOf pd_1 rfl) rfl (by show 2 * 0 + _ ≤ _; exact Nat.le_of_eq rfl) (hb hby at_77) (fun _ _ => ⟨rfl, e10, (by decide : 0 + 0 ≤ _), (by decide : 0 + 0 ≤ _)⟩)
      dsimp only [Pt.U, Pt.locs, Pt.cells, Pt.slots] at X11 l11 y11 z11 st11 hQ11
      subst l11 y11 z11
      obtain ⟨rfl, Nq11, e11⟩ := hQ11
      have N11 := Fr.app N9 Nq11
      refine Go.step (fun t_ k_ => st11.trans k_) ?_
      show Go p e below _ (T11.setTop (mkF m 80 #[.val (.int p1), .val (.long p2), .second, .val (.long p3), .second, .val (.ref a_BUY), .val (.int (1 : Int32)), .val (.int (1 : Int32)), .unset, .unset, .unset, .unset] [(.ref a_SELL)]))
      refine Go.step (fun t_ k_ => XS.lloadN X11.here hx rfl (hb hby at_80) rfl k_) ?_
      show Go p e below _ (T11.setTop (mkF m 81 #[.val (.int p1), .val (.long p2), .second, .val (.long p3), .second, .val (.ref a_BUY), .val (.int (1 : Int32)), .val (.int (1 : Int32)), .unset, .unset, .unset, .unset] [(.long p3), (.ref a_SELL)]))
      refine Go.step (fun t_ k_ => XS.lloadN X11.here hx rfl (hb hby at_81) rfl k_) ?_
      show Go p e below _ (T11.setTop (mkF m 82 #[.val (.int p1), .val (.long p2), .second, .val (.long p3), .second, .val (.ref a_BUY), .val (.int (1 : Int32)), .val (.int (1 : Int32)), .unset, .unset, .unset, .unset] [(.long p2), (.long p3), (.ref a_SELL)]))
      obtain ⟨cq12, kq12, q12a, q12b, q12c⟩ := isOf hZ e11 (E_SELL.ext Ol.2)
      obtain ⟨_, _, ⟨T12, L12, k12, n12⟩, -, X12, ⟨Lc12, hQ12, l12, y12, z12⟩, st12⟩ := X11.virtualBack hx (y := (⟨"com/example/bracketline/bracketline/Side", "accepts", "(JJ)Z"⟩ : MethodName)) (z := (⟨"com/example/bracketline/bracketline/Side", "accepts", "(JJ)Z"⟩ : MethodName)) hown (mvT hZ (hw _ (List.mem_of_getElem? (i := 3) rfl))) (mvT hZ (hw _ (List.mem_of_getElem? (i := 4) rfl))) (notFace_of_selects (args := #[]) (mvT hZ (hw _ (List.mem_of_getElem? (i := 6) rfl)))) (mvT hZ (hw _ (List.mem_of_getElem? (i := 6) rfl))) (mvT hZ (hw _ (List.mem_of_getElem? (i := 5) rfl))) (by decide) (backOf (W := 0) (rm1 l Z a0 hw [] a_SELL a_BUY HW a_SELL p3 p2 (1 : Int32) h0 n0 Ol (by first | (rw [lw_of_gt h_o]; simp [(Fld.ne F_SELL_ordinal F_BUY_ordinal (by simp)), (Ne.symm (Fld.ne F_SELL_ordinal F_BUY_ordinal (by simp)))]; done) | (rw [lw_of_gt h_o]; done))) hZ (hw _ (List.mem_of_getElem? (i := 7) rfl)) (hw _ (List.mem_of_getElem? (i := 1) rfl)) (by decide) (by decide)) q12a q12c (g := (mkF m 82 #[.val (.int p1), .val (.long p2), .second, .val (.long p3), .second, .val (.ref a_BUY), .val (.int (1 : Int32)), .val (.int (1 : Int32)), .unset, .unset, .unset, .unset] [(.long p2), (.long p3), (.ref a_SELL)])) rfl (by rw [hml]; rfl) (Steps.refl _) (argsL := [(.long p3), (.long p2)]) (rest := []) (lenOf pd_0 rfl) rfl (by show 2 * 0 + _ ≤ _; exact Nat.le_of_eq rfl) (hb hby at_82) (fun _ _ => ⟨rfl, e11, (by decide : 0 + 0 ≤ _), (by decide : 0 + 0 ≤ _)⟩)
      dsimp only [Pt.U, Pt.locs, Pt.cells, Pt.slots] at X12 l12 y12 z12 st12 hQ12
      subst l12 y12 z12
      obtain ⟨rfl, Nq12, e12⟩ := hQ12
      have N12 := Fr.app N11 Nq12
      refine Go.step (fun t_ k_ => st12.trans k_) ?_
      show Go p e below _ (T12.setTop (mkF m 85 #[.val (.int p1), .val (.long p2), .second, .val (.long p3), .second, .val (.ref a_BUY), .val (.int (1 : Int32)), .val (.int (1 : Int32)), .unset, .unset, .unset, .unset] [(.int (1 : Int32))]))
      refine Go.step (fun t_ k_ => XS.iload X12.here hx rfl (hb hby at_85) rfl k_) ?_
      show Go p e below _ (T12.setTop (mkF m 87 #[.val (.int p1), .val (.long p2), .second, .val (.long p3), .second, .val (.ref a_BUY), .val (.int (1 : Int32)), .val (.int (1 : Int32)), .unset, .unset, .unset, .unset] [(.int (1 : Int32)), (.int (1 : Int32))]))
      have hc87 : (1 : Int32) = (1 : Int32) := by decide
      refine Go.step (fun t_ k_ => XS.icmpNo X12.here hx rfl (hb hby at_87) rfl (teq hc87).2 k_) ?_
      show Go p e below _ (T12.setTop (mkF m 90 #[.val (.int p1), .val (.long p2), .second, .val (.long p3), .second, .val (.ref a_BUY), .val (.int (1 : Int32)), .val (.int (1 : Int32)), .unset, .unset, .unset, .unset] []))
      refine Go.step (fun t_ k_ => XS.iconst X12.here hx rfl (hb hby at_90) k_) ?_
      show Go p e below _ (T12.setTop (mkF m 91 #[.val (.int p1), .val (.long p2), .second, .val (.long p3), .second, .val (.ref a_BUY), .val (.int (1 : Int32)), .val (.int (1 : Int32)), .unset, .unset, .unset, .unset] [(.int (1 : Int32))]))
      refine Go.step (fun t_ k_ => XS.goto X12.here hx rfl (pc0 := 91) (pc' := 95) rfl (hb hby at_91) (by decide) (by decide) k_) ?_
      show Go p e below _ (T12.setTop (mkF m 95 #[.val (.int p1), .val (.long p2), .second, .val (.long p3), .second, .val (.ref a_BUY), .val (.int (1 : Int32)), .val (.int (1 : Int32)), .unset, .unset, .unset, .unset] [(.int (1 : Int32))]))
      refine Go.step (fun t_ k_ => XS.istore X12.here hx rfl (hb hby at_95) rfl (l' := #[.val (.int p1), .val (.long p2), .second, .val (.long p3), .second, .val (.ref a_BUY), .val (.int (1 : Int32)), .val (.int (1 : Int32)), .val (.int (1 : Int32)), .unset, .unset, .unset]) rfl k_) ?_
      show Go p e below _ (T12.setTop (mkF m 97 #[.val (.int p1), .val (.long p2), .second, .val (.long p3), .second, .val (.ref a_BUY), .val (.int (1 : Int32)), .val (.int (1 : Int32)), .val (.int (1 : Int32)), .unset, .unset, .unset] []))
      refine Go.step (fun t_ k_ => XS.lloadN X12.here hx rfl (hb hby at_97) rfl k_) ?_
      show Go p e below _ (T12.setTop (mkF m 98 #[.val (.int p1), .val (.long p2), .second, .val (.long p3), .second, .val (.ref a_BUY), .val (.int (1 : Int32)), .val (.int (1 : Int32)), .val (.int (1 : Int32)), .unset, .unset, .unset] [(.long p3)]))
      refine Go.step (fun t_ k_ => X12.ldc2Long hx hown (mvT hZ (hw _ (List.mem_of_getElem? (i := 16) rfl))) (g := (mkF m 98 #[.val (.int p1), .val (.long p2), .second, .val (.long p3), .second, .val (.ref a_BUY), .val (.int (1 : Int32)), .val (.int (1 : Int32)), .val (.int (1 : Int32)), .unset, .unset, .unset] [(.long p3)])) rfl (hb hby at_98) _ k_) ?_
      show Go p e below _ (T12.setTop (mkF m 101 #[.val (.int p1), .val (.long p2), .second, .val (.long p3), .second, .val (.ref a_BUY), .val (.int (1 : Int32)), .val (.int (1 : Int32)), .val (.int (1 : Int32)), .unset, .unset, .unset] [(.long (9223372036854775807 : Int64)), (.long p3)]))
      refine Go.step (fun t_ k_ => XS.land X12.here hx rfl (hb hby at_101) rfl k_) ?_
      show Go p e below _ (T12.setTop (mkF m 102 #[.val (.int p1), .val (.long p2), .second, .val (.long p3), .second, .val (.ref a_BUY), .val (.int (1 : Int32)), .val (.int (1 : Int32)), .val (.int (1 : Int32)), .unset, .unset, .unset] [(.long (p3 &&& (9223372036854775807 : Int64)))]))
      refine Go.step (fun t_ k_ => XS.lstore X12.here hx rfl (hb hby at_102) rfl (l' := #[.val (.int p1), .val (.long p2), .second, .val (.long p3), .second, .val (.ref a_BUY), .val (.int (1 : Int32)), .val (.int (1 : Int32)), .val (.int (1 : Int32)), .val (.long (p3 &&& (9223372036854775807 : Int64))), .second, .unset]) rfl k_) ?_
      show Go p e below _ (T12.setTop (mkF m 104 #[.val (.int p1), .val (.long p2), .second, .val (.long p3), .second, .val (.ref a_BUY), .val (.int (1 : Int32)), .val (.int (1 : Int32)), .val (.int (1 : Int32)), .val (.long (p3 &&& (9223372036854775807 : Int64))), .second, .unset] []))
      refine Go.step (fun t_ k_ => XS.aload X12.here hx rfl (hb hby at_104) rfl rfl k_) ?_
      show Go p e below _ (T12.setTop (mkF m 106 #[.val (.int p1), .val (.long p2), .second, .val (.long p3), .second, .val (.ref a_BUY), .val (.int (1 : Int32)), .val (.int (1 : Int32)), .val (.int (1 : Int32)), .val (.long (p3 &&& (9223372036854775807 : Int64))), .second, .unset] [(.ref a_BUY)]))
      refine Go.step (fun t_ k_ => XS.aload X12.here hx rfl (hb hby at_106) rfl rfl k_) ?_
      show Go p e below _ (T12.setTop (mkF m 108 #[.val (.int p1), .val (.long p2), .second, .val (.long p3), .second, .val (.ref a_BUY), .val (.int (1 : Int32)), .val (.int (1 : Int32)), .val (.int (1 : Int32)), .val (.long (p3 &&& (9223372036854775807 : Int64))), .second, .unset] [(.ref a_BUY), (.ref a_BUY)]))
      obtain ⟨cq13, kq13, q13a, q13b, q13c⟩ := isOf hZ e12 (E_BUY.ext Ol.2)
      obtain ⟨_, _, ⟨T13, L13, k13, n13⟩, -, X13, ⟨Lc13, hQ13, l13, y13, z13⟩, st13⟩ := X12.virtualBack hx (y := (⟨"com/example/bracketline/bracketline/Side", "marketLimit", "()J"⟩ : MethodName)) (z := (⟨"com/example/bracketline/bracketline/Side", "marketLimit", "()J"⟩ : MethodName)) hown (mvT hZ (hw _ (List.mem_of_getElem? (i := 17) rfl))) (mvT hZ (hw _ (List.mem_of_getElem? (i := 18) rfl))) (notFace_of_selects (args := #[]) (mvT hZ (hw _ (List.mem_of_getElem? (i := 20) rfl)))) (mvT hZ (hw _ (List.mem_of_getElem? (i := 20) rfl))) (mvT hZ (hw _ (List.mem_of_getElem? (i := 19) rfl))) (by decide) (backOf (W := 1) (rm3 l Z a0 hw [] a_SELL a_BUY HW a_BUY (9223372036854775807 : Int64) h0 n0 Ol F_BUY_marketLimit rfl) hZ (hw _ (List.mem_of_getElem? (i := 21) rfl)) (hw _ (List.mem_of_getElem? (i := 1) rfl)) (by decide) (by decide)) q13a q13c (g := (mkF m 108 #[.val (.int p1), .val (.long p2), .second, .val (.long p3), .second, .val (.ref a_BUY), .val (.int (1 : Int32)), .val (.int (1 : Int32)), .val (.int (1 : Int32)), .val (.long (p3 &&& (9223372036854775807 : Int64))), .second, .unset] [(.ref a_BUY), (.ref a_BUY)])) rfl (by rw [hml]; rfl) (Steps.refl _) (argsL := []) (rest := [(.ref a_BUY)]) (lenOf pd_2 rfl) rfl (by show 2 * 0 + _ ≤ _; exact Nat.le_of_eq rfl) (hb hby at_108) (fun _ _ => ⟨rfl, e12, (by decide : 0 + 0 ≤ _), (by decide : 0 + 0 ≤ _)⟩)
      dsimp only [Pt.U, Pt.locs, Pt.cells, Pt.slots] at X13 l13 y13 z13 st13 hQ13
      subst l13 y13 z13
      obtain ⟨rfl, Nq13, e13⟩ := hQ13
      have N13 := Fr.app N12 Nq13
      refine Go.step (fun t_ k_ => st13.trans k_) ?_
      show Go p e below _ (T13.setTop (mkF m 111 #[.val (.int p1), .val (.long p2), .second, .val (.long p3), .second, .val (.ref a_BUY), .val (.int (1 : Int32)), .val (.int (1 : Int32)), .val (.int (1 : Int32)), .val (.long (p3 &&& (9223372036854775807 : Int64))), .second, .unset] [(.long (9223372036854775807 : Int64)), (.ref a_BUY)]))
      refine Go.step (fun t_ k_ => XS.lload X13.here hx rfl (hb hby at_111) rfl k_) ?_
      show Go p e below _ (T13.setTop (mkF m 113 #[.val (.int p1), .val (.long p2), .second, .val (.long p3), .second, .val (.ref a_BUY), .val (.int (1 : Int32)), .val (.int (1 : Int32)), .val (.int (1 : Int32)), .val (.long (p3 &&& (9223372036854775807 : Int64))), .second, .unset] [(.long (p3 &&& (9223372036854775807 : Int64))), (.long (9223372036854775807 : Int64)), (.ref a_BUY)]))
      obtain ⟨cq14, kq14, q14a, q14b, q14c⟩ := isOf hZ e13 (E_BUY.ext Ol.2)
      obtain ⟨_, _, ⟨T14, L14, k14, n14⟩, -, X14, ⟨Lc14, hQ14, l14, y14, z14⟩, st14⟩ := X13.virtualBack hx (y := (⟨"com/example/bracketline/bracketline/Side", "accepts", "(JJ)Z"⟩ : MethodName)) (z := (⟨"com/example/bracketline/bracketline/Side", "accepts", "(JJ)Z"⟩ : MethodName)) hown (mvT hZ (hw _ (List.mem_of_getElem? (i := 3) rfl))) (mvT hZ (hw _ (List.mem_of_getElem? (i := 4) rfl))) (notFace_of_selects (args := #[]) (mvT hZ (hw _ (List.mem_of_getElem? (i := 6) rfl)))) (mvT hZ (hw _ (List.mem_of_getElem? (i := 6) rfl))) (mvT hZ (hw _ (List.mem_of_getElem? (i := 5) rfl))) (by decide) (backOf (W := 0) (rm1 l Z a0 hw [] a_SELL a_BUY HW a_BUY (9223372036854775807 : Int64) (p3 &&& (9223372036854775807 : Int64)) (1 : Int32) h0 n0 Ol (by simp [mk_le, (Fld.ne F_SELL_ordinal F_BUY_ordinal (by simp)), (Ne.symm (Fld.ne F_SELL_ordinal F_BUY_ordinal (by simp)))])) hZ (hw _ (List.mem_of_getElem? (i := 7) rfl)) (hw _ (List.mem_of_getElem? (i := 1) rfl)) (by decide) (by decide)) q14a q14c (g := (mkF m 113 #[.val (.int p1), .val (.long p2), .second, .val (.long p3), .second, .val (.ref a_BUY), .val (.int (1 : Int32)), .val (.int (1 : Int32)), .val (.int (1 : Int32)), .val (.long (p3 &&& (9223372036854775807 : Int64))), .second, .unset] [(.long (p3 &&& (9223372036854775807 : Int64))), (.long (9223372036854775807 : Int64)), (.ref a_BUY)])) rfl (by rw [hml]; rfl) (Steps.refl _) (argsL := [(.long (9223372036854775807 : Int64)), (.long (p3 &&& (9223372036854775807 : Int64)))]) (rest := []) (lenOf pd_0 rfl) rfl (by show 2 * 0 + _ ≤ _; exact Nat.le_of_eq rfl) (hb hby at_113) (fun _ _ => ⟨rfl, e13, (by decide : 0 + 0 ≤ _), (by decide : 0 + 0 ≤ _)⟩)
      dsimp only [Pt.U, Pt.locs, Pt.cells, Pt.slots] at X14 l14 y14 z14 st14 hQ14
      subst l14 y14 z14
      obtain ⟨rfl, Nq14, e14⟩ := hQ14
      have N14 := Fr.app N13 Nq14
      refine Go.step (fun t_ k_ => st14.trans k_) ?_
      show Go p e below _ (T14.setTop (mkF m 116 #[.val (.int p1), .val (.long p2), .second, .val (.long p3), .second, .val (.ref a_BUY), .val (.int (1 : Int32)), .val (.int (1 : Int32)), .val (.int (1 : Int32)), .val (.long (p3 &&& (9223372036854775807 : Int64))), .second, .unset] [(.int (1 : Int32))]))
      refine Go.step (fun t_ k_ => XS.istore X14.here hx rfl (hb hby at_116) rfl (l' := #[.val (.int p1), .val (.long p2), .second, .val (.long p3), .second, .val (.ref a_BUY), .val (.int (1 : Int32)), .val (.int (1 : Int32)), .val (.int (1 : Int32)), .val (.long (p3 &&& (9223372036854775807 : Int64))), .second, .val (.int (1 : Int32))]) rfl k_) ?_
      show Go p e below _ (T14.setTop (mkF m 118 #[.val (.int p1), .val (.long p2), .second, .val (.long p3), .second, .val (.ref a_BUY), .val (.int (1 : Int32)), .val (.int (1 : Int32)), .val (.int (1 : Int32)), .val (.long (p3 &&& (9223372036854775807 : Int64))), .second, .val (.int (1 : Int32))] []))
      refine Go.step (fun t_ k_ => XS.iload X14.here hx rfl (hb hby at_118) rfl k_) ?_
      show Go p e below _ (T14.setTop (mkF m 120 #[.val (.int p1), .val (.long p2), .second, .val (.long p3), .second, .val (.ref a_BUY), .val (.int (1 : Int32)), .val (.int (1 : Int32)), .val (.int (1 : Int32)), .val (.long (p3 &&& (9223372036854775807 : Int64))), .second, .val (.int (1 : Int32))] [(.int (1 : Int32))]))
      refine Go.step (fun t_ k_ => XS.iload X14.here hx rfl (hb hby at_120) rfl k_) ?_
      show Go p e below _ (T14.setTop (mkF m 122 #[.val (.int p1), .val (.long p2), .second, .val (.long p3), .second, .val (.ref a_BUY), .val (.int (1 : Int32)), .val (.int (1 : Int32)), .val (.int (1 : Int32)), .val (.long (p3 &&& (9223372036854775807 : Int64))), .second, .val (.int (1 : Int32))] [(.int (1 : Int32)), (.int (1 : Int32))]))
      have hc122 : (1 : Int32) = (1 : Int32) := by decide
      refine Go.step (fun t_ k_ => XS.icmpNo X14.here hx rfl (hb hby at_122) rfl (teq hc122).2 k_) ?_
      show Go p e below _ (T14.setTop (mkF m 125 #[.val (.int p1), .val (.long p2), .second, .val (.long p3), .second, .val (.ref a_BUY), .val (.int (1 : Int32)), .val (.int (1 : Int32)), .val (.int (1 : Int32)), .val (.long (p3 &&& (9223372036854775807 : Int64))), .second, .val (.int (1 : Int32))] []))
      refine Go.step (fun t_ k_ => XS.iload X14.here hx rfl (hb hby at_125) rfl k_) ?_
      show Go p e below _ (T14.setTop (mkF m 127 #[.val (.int p1), .val (.long p2), .second, .val (.long p3), .second, .val (.ref a_BUY), .val (.int (1 : Int32)), .val (.int (1 : Int32)), .val (.int (1 : Int32)), .val (.long (p3 &&& (9223372036854775807 : Int64))), .second, .val (.int (1 : Int32))] [(.int (1 : Int32))]))
      have hc127 : ¬ ((1 : Int32) = (0 : Int32)) := by decide
      refine Go.step (fun t_ k_ => XS.ifNo X14.here hx rfl (hb hby at_127) rfl ((if0 _ _).trans (feq hc127).1) k_) ?_
      show Go p e below _ (T14.setTop (mkF m 130 #[.val (.int p1), .val (.long p2), .second, .val (.long p3), .second, .val (.ref a_BUY), .val (.int (1 : Int32)), .val (.int (1 : Int32)), .val (.int (1 : Int32)), .val (.long (p3 &&& (9223372036854775807 : Int64))), .second, .val (.int (1 : Int32))] []))
      refine Go.step (fun t_ k_ => XS.iload X14.here hx rfl (hb hby at_130) rfl k_) ?_
      show Go p e below _ (T14.setTop (mkF m 132 #[.val (.int p1), .val (.long p2), .second, .val (.long p3), .second, .val (.ref a_BUY), .val (.int (1 : Int32)), .val (.int (1 : Int32)), .val (.int (1 : Int32)), .val (.long (p3 &&& (9223372036854775807 : Int64))), .second, .val (.int (1 : Int32))] [(.int (1 : Int32))]))
      have hc132 : ¬ ((1 : Int32) = (0 : Int32)) := by decide
      refine Go.step (fun t_ k_ => XS.ifNo X14.here hx rfl (hb hby at_132) rfl ((if0 _ _).trans (feq hc132).1) k_) ?_
      show Go p e below _ (T14.setTop (mkF m 135 #[.val (.int p1), .val (.long p2), .second, .val (.long p3), .second, .val (.ref a_BUY), .val (.int (1 : Int32)), .val (.int (1 : Int32)), .val (.int (1 : Int32)), .val (.long (p3 &&& (9223372036854775807 : Int64))), .second, .val (.int (1 : Int32))] []))
      refine Go.step (fun t_ k_ => XS.iconst X14.here hx rfl (hb hby at_135) k_) ?_
      show Go p e below _ (T14.setTop (mkF m 136 #[.val (.int p1), .val (.long p2), .second, .val (.long p3), .second, .val (.ref a_BUY), .val (.int (1 : Int32)), .val (.int (1 : Int32)), .val (.int (1 : Int32)), .val (.long (p3 &&& (9223372036854775807 : Int64))), .second, .val (.int (1 : Int32))] [(.int (1 : Int32))]))
      refine Go.step (fun t_ k_ => XS.goto X14.here hx rfl (pc0 := 136) (pc' := 140) rfl (hb hby at_136) (by decide) (by decide) k_) ?_
      show Go p e below _ (T14.setTop (mkF m 140 #[.val (.int p1), .val (.long p2), .second, .val (.long p3), .second, .val (.ref a_BUY), .val (.int (1 : Int32)), .val (.int (1 : Int32)), .val (.int (1 : Int32)), .val (.long (p3 &&& (9223372036854775807 : Int64))), .second, .val (.int (1 : Int32))] [(.int (1 : Int32))]))
      refine Go.retZ X14 hx (t := .boolean) Bd.returns (by simp) Bd.notSynchronized (hb hby at_140) (by rw [e14]; exact ⟨rfl, N14⟩) (by decide) (by decide)
  next =>
    refine Go.step (fun t_ k_ => XS.iloadN X0.here hx rfl (hb hby at_0) rfl k_) ?_
    show Go p e below _ (s₁.setTop (mkF m 1 #[.val (.int p1), .val (.long p2), .second, .val (.long p3), .second, .unset, .unset, .unset, .unset, .unset, .unset, .unset] [(.int p1)]))
    refine Go.step (fun t_ k_ => XS.iconst X0.here hx rfl (hb hby at_1) k_) ?_
    show Go p e below _ (s₁.setTop (mkF m 2 #[.val (.int p1), .val (.long p2), .second, .val (.long p3), .second, .unset, .unset, .unset, .unset, .unset, .unset, .unset] [(.int (1 : Int32)), (.int p1)]))
    refine Go.step (fun t_ k_ => XS.iand X0.here hx rfl (hb hby at_2) rfl k_) ?_
    show Go p e below _ (s₁.setTop (mkF m 3 #[.val (.int p1), .val (.long p2), .second, .val (.long p3), .second, .unset, .unset, .unset, .unset, .unset, .unset, .unset] [(.int (p1 &&& (1 : Int32)))]))
    by_cases hc3 : (p1 &&& (1 : Int32)) = (0 : Int32)
    case pos =>
      refine Go.step (fun t_ k_ => XS.ifYes X0.here hx rfl (pc0 := 3) (pc' := 12) rfl (hb hby at_3) rfl ((if0 _ _).trans (teq hc3).1) (by decide) (by decide) k_) ?_
      show Go p e below _ (s₁.setTop (mkF m 12 #[.val (.int p1), .val (.long p2), .second, .val (.long p3), .second, .unset, .unset, .unset, .unset, .unset, .unset, .unset] []))
      obtain ⟨T15, X15, e15, st15⟩ := getS2 X0 hx hZ hown (host := "") (Or.inl (hw _ (List.mem_of_getElem? (i := 0) rfl))) Via.refl e0 (S_SELL.ext Ol.2) (g := (mkF m 12 #[.val (.int p1), .val (.long p2), .second, .val (.long p3), .second, .unset, .unset, .unset, .unset, .unset, .unset, .unset] [])) rfl (hb hby at_12)
      refine Go.step st15 ?_
      show Go p e below _ (T15.setTop (mkF m 15 #[.val (.int p1), .val (.long p2), .second, .val (.long p3), .second, .unset, .unset, .unset, .unset, .unset, .unset, .unset] [(.ref a_SELL)]))
      refine Go.step (fun t_ k_ => XS.astore X15.here hx rfl (hb hby at_15) rfl rfl (l' := #[.val (.int p1), .val (.long p2), .second, .val (.long p3), .second, .val (.ref a_SELL), .unset, .unset, .unset, .unset, .unset, .unset]) rfl k_) ?_
      show Go p e below _ (T15.setTop (mkF m 17 #[.val (.int p1), .val (.long p2), .second, .val (.long p3), .second, .val (.ref a_SELL), .unset, .unset, .unset, .unset, .unset, .unset] []))
      refine Go.step (fun t_ k_ => XS.aload X15.here hx rfl (hb hby at_17) rfl rfl k_) ?_
      show Go p e below _ (T15.setTop (mkF m 19 #[.val (.int p1), .val (.long p2), .second, .val (.long p3), .second, .val (.ref a_SELL), .unset, .unset, .unset, .unset, .unset, .unset] [(.ref a_SELL)]))
      refine Go.step (fun t_ k_ => XS.lloadN X15.here hx rfl (hb hby at_19) rfl k_) ?_
      show Go p e below _ (T15.setTop (mkF m 20 #[.val (.int p1), .val (.long p2), .second, .val (.long p3), .second, .val (.ref a_SELL), .unset, .unset, .unset, .unset, .unset, .unset] [(.long p2), (.ref a_SELL)]))
      refine Go.step (fun t_ k_ => XS.lloadN X15.here hx rfl (hb hby at_20) rfl k_) ?_
      show Go p e below _ (T15.setTop (mkF m 21 #[.val (.int p1), .val (.long p2), .second, .val (.long p3), .second, .val (.ref a_SELL), .unset, .unset, .unset, .unset, .unset, .unset] [(.long p3), (.long p2), (.ref a_SELL)]))
      obtain ⟨cq16, kq16, q16a, q16b, q16c⟩ := isOf hZ e15 (E_SELL.ext Ol.2)
      obtain ⟨_, _, ⟨T16, L16, k16, n16⟩, -, X16, ⟨Lc16, hQ16, l16, y16, z16⟩, st16⟩ := X15.virtualBack hx (y := (⟨"com/example/bracketline/bracketline/Side", "accepts", "(JJ)Z"⟩ : MethodName)) (z := (⟨"com/example/bracketline/bracketline/Side", "accepts", "(JJ)Z"⟩ : MethodName)) hown (mvT hZ (hw _ (List.mem_of_getElem? (i := 3) rfl))) (mvT hZ (hw _ (List.mem_of_getElem? (i := 4) rfl))) (notFace_of_selects (args := #[]) (mvT hZ (hw _ (List.mem_of_getElem? (i := 6) rfl)))) (mvT hZ (hw _ (List.mem_of_getElem? (i := 6) rfl))) (mvT hZ (hw _ (List.mem_of_getElem? (i := 5) rfl))) (by decide) (backOf (W := 0) (rm1 l Z a0 hw [] a_SELL a_BUY HW a_SELL p2 p3 (1 : Int32) h0 n0 Ol (by first | (rw [lw_of_eq h_o]; simp [(Fld.ne F_SELL_ordinal F_BUY_ordinal (by simp)), (Ne.symm (Fld.ne F_SELL_ordinal F_BUY_ordinal (by simp)))]; done) | (rw [lw_of_eq h_o]; done))) hZ (hw _ (List.mem_of_getElem? (i := 7) rfl)) (hw _ (List.mem_of_getElem? (i := 1) rfl)) (by decide) (by decide)) q16a q16c (g := (mkF m 21 #[.val (.int p1), .val (.long p2), .second, .val (.long p3), .second, .val (.ref a_SELL), .unset, .unset, .unset, .unset, .unset, .unset] [(.long p3), (.long p2), (.ref a_SELL)])) rfl (by rw [hml]; rfl) (Steps.refl _) (argsL := [(.long p2), (.long p3)]) (rest := []) (lenOf pd_0 rfl) rfl (by show 2 * 0 + _ ≤ _; exact Nat.le_of_eq rfl) (hb hby at_21) (fun _ _ => ⟨rfl, e15, (by decide : 0 + 0 ≤ _), (by decide : 0 + 0 ≤ _)⟩)
      dsimp only [Pt.U, Pt.locs, Pt.cells, Pt.slots] at X16 l16 y16 z16 st16 hQ16
      subst l16 y16 z16
      obtain ⟨rfl, Nq16, e16⟩ := hQ16
      have N16 := Fr.app N0 Nq16
      refine Go.step (fun t_ k_ => st16.trans k_) ?_
      show Go p e below _ (T16.setTop (mkF m 24 #[.val (.int p1), .val (.long p2), .second, .val (.long p3), .second, .val (.ref a_SELL), .unset, .unset, .unset, .unset, .unset, .unset] [(.int (1 : Int32))]))
      refine Go.step (fun t_ k_ => XS.istore X16.here hx rfl (hb hby at_24) rfl (l' := #[.val (.int p1), .val (.long p2), .second, .val (.long p3), .second, .val (.ref a_SELL), .val (.int (1 : Int32)), .unset, .unset, .unset, .unset, .unset]) rfl k_) ?_
      show Go p e below _ (T16.setTop (mkF m 26 #[.val (.int p1), .val (.long p2), .second, .val (.long p3), .second, .val (.ref a_SELL), .val (.int (1 : Int32)), .unset, .unset, .unset, .unset, .unset] []))
      refine Go.step (fun t_ k_ => XS.lloadN X16.here hx rfl (hb hby at_26) rfl k_) ?_
      show Go p e below _ (T16.setTop (mkF m 27 #[.val (.int p1), .val (.long p2), .second, .val (.long p3), .second, .val (.ref a_SELL), .val (.int (1 : Int32)), .unset, .unset, .unset, .unset, .unset] [(.long p3)]))
      refine Go.step (fun t_ k_ => XS.lloadN X16.here hx rfl (hb hby at_27) rfl k_) ?_
      show Go p e below _ (T16.setTop (mkF m 28 #[.val (.int p1), .val (.long p2), .second, .val (.long p3), .second, .val (.ref a_SELL), .val (.int (1 : Int32)), .unset, .unset, .unset, .unset, .unset] [(.long p2), (.long p3)]))
      refine Go.step (fun t_ k_ => XS.lcmp X16.here hx rfl (hb hby at_28) rfl k_) ?_
      show Go p e below _ (T16.setTop (mkF m 29 #[.val (.int p1), .val (.long p2), .second, .val (.long p3), .second, .val (.ref a_SELL), .val (.int (1 : Int32)), .unset, .unset, .unset, .unset, .unset] [(.int (lcmpW p3 p2))]))
      have hc29 : (lcmpW p3 p2) = (0 : Int32) := by first | (rw [lw_of_eq h_o]; decide) | rw [lw_of_eq h_o]
      refine Go.step (fun t_ k_ => XS.ifNo X16.here hx rfl (hb hby at_29) rfl ((if0 _ _).trans (teq hc29).2) k_) ?_
      show Go p e below _ (T16.setTop (mkF m 32 #[.val (.int p1), .val (.long p2), .second, .val (.long p3), .second, .val (.ref a_SELL), .val (.int (1 : Int32)), .unset, .unset, .unset, .unset, .unset] []))
      refine Go.step (fun t_ k_ => XS.iconst X16.here hx rfl (hb hby at_32) k_) ?_
      show Go p e below _ (T16.setTop (mkF m 33 #[.val (.int p1), .val (.long p2), .second, .val (.long p3), .second, .val (.ref a_SELL), .val (.int (1 : Int32)), .unset, .unset, .unset, .unset, .unset] [(.int (1 : Int32))]))
      refine Go.step (fun t_ k_ => XS.istore X16.here hx rfl (hb hby at_33) rfl (l' := #[.val (.int p1), .val (.long p2), .second, .val (.long p3), .second, .val (.ref a_SELL), .val (.int (1 : Int32)), .val (.int (1 : Int32)), .unset, .unset, .unset, .unset]) rfl k_) ?_
      show Go p e below _ (T16.setTop (mkF m 35 #[.val (.int p1), .val (.long p2), .second, .val (.long p3), .second, .val (.ref a_SELL), .val (.int (1 : Int32)), .val (.int (1 : Int32)), .unset, .unset, .unset, .unset] []))
      refine Go.step (fun t_ k_ => XS.goto X16.here hx rfl (pc0 := 35) (pc' := 75) rfl (hb hby at_35) (by decide) (by decide) k_) ?_
      show Go p e below _ (T16.setTop (mkF m 75 #[.val (.int p1), .val (.long p2), .second, .val (.long p3), .second, .val (.ref a_SELL), .val (.int (1 : Int32)), .val (.int (1 : Int32)), .unset, .unset, .unset, .unset] []))
      refine Go.step (fun t_ k_ => XS.aload X16.here hx rfl (hb hby at_75) rfl rfl k_) ?_
      show Go p e below _ (T16.setTop (mkF m 77 #[.val (.int p1), .val (.long p2), .second, .val (.long p3), .second, .val (.ref a_SELL), .val (.int (1 : Int32)), .val (.int (1 : Int32)), .unset, .unset, .unset, .unset] [(.ref a_SELL)]))
      obtain ⟨cq17, kq17, q17a, q17b, q17c⟩ := isOf hZ e16 (E_SELL.ext Ol.2)
      obtain ⟨_, _, ⟨T17, L17, k17, n17⟩, -, X17, ⟨Lc17, hQ17, l17, y17, z17⟩, st17⟩ := X16.virtualBack hx (y := (⟨"com/example/bracketline/bracketline/Side", "opposite", "()Lcom/example/bracketline/bracketline/Side;"⟩ : MethodName)) (z := (⟨"com/example/bracketline/bracketline/Side", "opposite", "()Lcom/example/bracketline/bracketline/Side;"⟩ : MethodName)) hown (mvT hZ (hw _ (List.mem_of_getElem? (i := 11) rfl))) (mvT hZ (hw _ (List.mem_of_getElem? (i := 12) rfl))) (notFace_of_selects (args := #[]) (mvT hZ (hw _ (List.mem_of_getElem? (i := 14) rfl)))) (mvT hZ (hw _ (List.mem_of_getElem? (i := 14) rfl))) (mvT hZ (hw _ (List.mem_of_getElem? (i := 13) rfl))) (by decide) (backOf (W := 0) (rm2 l Z a0 hw [] a_SELL a_BUY HW a_SELL a_BUY h0 n0 Ol (by simp [(Fld.ne F_SELL_ordinal F_BUY_ordinal (by simp)), (Ne.symm (Fld.ne F_SELL_ordinal F_BUY_ordinal (by simp)))])) hZ (hw _ (List.mem_of_getElem? (i := 15) rfl)) (hw _ (List.mem_of_getElem? (i := 1) rfl)) (by decide) (by decide)) q17a q17c (g := (mkF m 77 #[.val (.int p1), .val (.long p2), .second, .val (.long p3), .second, .val (.ref a_SELL), .val (.int (1 : Int32)), .val (.int (1 : Int32)), .unset, .unset, .unset, .unset] [(.ref a_SELL)])) rfl (by rw [hml]; rfl) (Steps.refl _) (argsL := []) (rest := []) (lenOf pd_1 rfl) rfl (by show 2 * 0 + _ ≤ _; exact Nat.le_of_eq rfl) (hb hby at_77) (fun _ _ => ⟨rfl, e16, (by decide : 0 + 0 ≤ _), (by decide : 0 + 0 ≤ _)⟩)
      dsimp only [Pt.U, Pt.locs, Pt.cells, Pt.slots] at X17 l17 y17 z17 st17 hQ17
      subst l17 y17 z17
      obtain ⟨rfl, Nq17, e17⟩ := hQ17
      have N17 := Fr.app N16 Nq17
      refine Go.step (fun t_ k_ => st17.trans k_) ?_
      show Go p e below _ (T17.setTop (mkF m 80 #[.val (.int p1), .val (.long p2), .second, .val (.long p3), .second, .val (.ref a_SELL), .val (.int (1 : Int32)), .val (.int (1 : Int32)), .unset, .unset, .unset, .unset] [(.ref a_BUY)]))
      refine Go.step (fun t_ k_ => XS.lloadN X17.here hx rfl (hb hby at_80) rfl k_) ?_
      show Go p e below _ (T17.setTop (mkF m 81 #[.val (.int p1), .val (.long p2), .second, .val (.long p3), .second, .val (.ref a_SELL), .val (.int (1 : Int32)), .val (.int (1 : Int32)), .unset, .unset, .unset, .unset] [(.long p3), (.ref a_BUY)]))
      refine Go.step (fun t_ k_ => XS.lloadN X17.here hx rfl (hb hby at_81) rfl k_) ?_
      show Go p e below _ (T17.setTop (mkF m 82 #[.val (.int p1), .val (.long p2), .second, .val (.long p3), .second, .val (.ref a_SELL), .val (.int (1 : Int32)), .val (.int (1 : Int32)), .unset, .unset, .unset, .unset] [(.long p2), (.long p3), (.ref a_BUY)]))
      obtain ⟨cq18, kq18, q18a, q18b, q18c⟩ := isOf hZ e17 (E_BUY.ext Ol.2)
      obtain ⟨_, _, ⟨T18, L18, k18, n18⟩, -, X18, ⟨Lc18, hQ18, l18, y18, z18⟩, st18⟩ := X17.virtualBack hx (y := (⟨"com/example/bracketline/bracketline/Side", "accepts", "(JJ)Z"⟩ : MethodName)) (z := (⟨"com/example/bracketline/bracketline/Side", "accepts", "(JJ)Z"⟩ : MethodName)) hown (mvT hZ (hw _ (List.mem_of_getElem? (i := 3) rfl))) (mvT hZ (hw _ (List.mem_of_getElem? (i := 4) rfl))) (notFace_of_selects (args := #[]) (mvT hZ (hw _ (List.mem_of_getElem? (i := 6) rfl)))) (mvT hZ (hw _ (List.mem_of_getElem? (i := 6) rfl))) (mvT hZ (hw _ (List.mem_of_getElem? (i := 5) rfl))) (by decide) (backOf (W := 0) (rm1 l Z a0 hw [] a_SELL a_BUY HW a_BUY p3 p2 (1 : Int32) h0 n0 Ol (by first | (rw [lw_of_eq (Eq.symm h_o)]; simp [(Fld.ne F_SELL_ordinal F_BUY_ordinal (by simp)), (Ne.symm (Fld.ne F_SELL_ordinal F_BUY_ordinal (by simp)))]; done) | (rw [lw_of_eq (Eq.symm h_o)]; done))) hZ (hw _ (List.mem_of_getElem? (i := 7) rfl)) (hw _ (List.mem_of_getElem? (i := 1) rfl)) (by decide) (by decide)) q18a q18c (g := (mkF m 82 #[.val (.int p1), .val (.long p2), .second, .val (.long p3), .second, .val (.ref a_SELL), .val (.int (1 : Int32)), .val (.int (1 : Int32)), .unset, .unset, .unset, .unset] [(.long p2), (.long p3), (.ref a_BUY)])) rfl (by rw [hml]; rfl) (Steps.refl _) (argsL := [(.long p3), (.long p2)]) (rest := []) (lenOf pd_0 rfl) rfl (by show 2 * 0 + _ ≤ _; exact Nat.le_of_eq rfl) (hb hby at_82) (fun _ _ => ⟨rfl, e17, (by decide : 0 + 0 ≤ _), (by decide : 0 + 0 ≤ _)⟩)
      dsimp only [Pt.U, Pt.locs, Pt.cells, Pt.slots] at X18 l18 y18 z18 st18 hQ18
      subst l18 y18 z18
      obtain ⟨rfl, Nq18, e18⟩ := hQ18
      have N18 := Fr.app N17 Nq18
      refine Go.step (fun t_ k_ => st18.trans k_) ?_
      show Go p e below _ (T18.setTop (mkF m 85 #[.val (.int p1), .val (.long p2), .second, .val (.long p3), .second, .val (.ref a_SELL), .val (.int (1 : Int32)), .val (.int (1 : Int32)), .unset, .unset, .unset, .unset] [(.int (1 : Int32))]))
      refine Go.step (fun t_ k_ => XS.iload X18.here hx rfl (hb hby at_85) rfl k_) ?_
      show Go p e below _ (T18.setTop (mkF m 87 #[.val (.int p1), .val (.long p2), .second, .val (.long p3), .second, .val (.ref a_SELL), .val (.int (1 : Int32)), .val (.int (1 : Int32)), .unset, .unset, .unset, .unset] [(.int (1 : Int32)), (.int (1 : Int32))]))
      have hc87 : (1 : Int32) = (1 : Int32) := by decide
      refine Go.step (fun t_ k_ => XS.icmpNo X18.here hx rfl (hb hby at_87) rfl (teq hc87).2 k_) ?_
      show Go p e below _ (T18.setTop (mkF m 90 #[.val (.int p1), .val (.long p2), .second, .val (.long p3), .second, .val (.ref a_SELL), .val (.int (1 : Int32)), .val (.int (1 : Int32)), .unset, .unset, .unset, .unset] []))
      refine Go.step (fun t_ k_ => XS.iconst X18.here hx rfl (hb hby at_90) k_) ?_
      show Go p e below _ (T18.setTop (mkF m 91 #[.val (.int p1), .val (.long p2), .second, .val (.long p3), .second, .val (.ref a_SELL), .val (.int (1 : Int32)), .val (.int (1 : Int32)), .unset, .unset, .unset, .unset] [(.int (1 : Int32))]))
      refine Go.step (fun t_ k_ => XS.goto X18.here hx rfl (pc0 := 91) (pc' := 95) rfl (hb hby at_91) (by decide) (by decide) k_) ?_
      show Go p e below _ (T18.setTop (mkF m 95 #[.val (.int p1), .val (.long p2), .second, .val (.long p3), .second, .val (.ref a_SELL), .val (.int (1 : Int32)), .val (.int (1 : Int32)), .unset, .unset, .unset, .unset] [(.int (1 : Int32))]))
      refine Go.step (fun t_ k_ => XS.istore X18.here hx rfl (hb hby at_95) rfl (l' := #[.val (.int p1), .val (.long p2), .second, .val (.long p3), .second, .val (.ref a_SELL), .val (.int (1 : Int32)), .val (.int (1 : Int32)), .val (.int (1 : Int32)), .unset, .unset, .unset]) rfl k_) ?_
      show Go p e below _ (T18.setTop (mkF m 97 #[.val (.int p1), .val (.long p2), .second, .val (.long p3), .second, .val (.ref a_SELL), .val (.int (1 : Int32)), .val (.int (1 : Int32)), .val (.int (1 : Int32)), .unset, .unset, .unset] []))
      refine Go.step (fun t_ k_ => XS.lloadN X18.here hx rfl (hb hby at_97) rfl k_) ?_
      show Go p e below _ (T18.setTop (mkF m 98 #[.val (.int p1), .val (.long p2), .second, .val (.long p3), .second, .val (.ref a_SELL), .val (.int (1 : Int32)), .val (.int (1 : Int32)), .val (.int (1 : Int32)), .unset, .unset, .unset] [(.long p3)]))
      refine Go.step (fun t_ k_ => X18.ldc2Long hx hown (mvT hZ (hw _ (List.mem_of_getElem? (i := 16) rfl))) (g := (mkF m 98 #[.val (.int p1), .val (.long p2), .second, .val (.long p3), .second, .val (.ref a_SELL), .val (.int (1 : Int32)), .val (.int (1 : Int32)), .val (.int (1 : Int32)), .unset, .unset, .unset] [(.long p3)])) rfl (hb hby at_98) _ k_) ?_
      show Go p e below _ (T18.setTop (mkF m 101 #[.val (.int p1), .val (.long p2), .second, .val (.long p3), .second, .val (.ref a_SELL), .val (.int (1 : Int32)), .val (.int (1 : Int32)), .val (.int (1 : Int32)), .unset, .unset, .unset] [(.long (9223372036854775807 : Int64)), (.long p3)]))
      refine Go.step (fun t_ k_ => XS.land X18.here hx rfl (hb hby at_101) rfl k_) ?_
      show Go p e below _ (T18.setTop (mkF m 102 #[.val (.int p1), .val (.long p2), .second, .val (.long p3), .second, .val (.ref a_SELL), .val (.int (1 : Int32)), .val (.int (1 : Int32)), .val (.int (1 : Int32)), .unset, .unset, .unset] [(.long (p3 &&& (9223372036854775807 : Int64)))]))
      refine Go.step (fun t_ k_ => XS.lstore X18.here hx rfl (hb hby at_102) rfl (l' := #[.val (.int p1), .val (.long p2), .second, .val (.long p3), .second, .val (.ref a_SELL), .val (.int (1 : Int32)), .val (.int (1 : Int32)), .val (.int (1 : Int32)), .val (.long (p3 &&& (9223372036854775807 : Int64))), .second, .unset]) rfl k_) ?_
      show Go p e below _ (T18.setTop (mkF m 104 #[.val (.int p1), .val (.long p2), .second, .val (.long p3), .second, .val (.ref a_SELL), .val (.int (1 : Int32)), .val (.int (1 : Int32)), .val (.int (1 : Int32)), .val (.long (p3 &&& (9223372036854775807 : Int64))), .second, .unset] []))
      refine Go.step (fun t_ k_ => XS.aload X18.here hx rfl (hb hby at_104) rfl rfl k_) ?_
      show Go p e below _ (T18.setTop (mkF m 106 #[.val (.int p1), .val (.long p2), .second, .val (.long p3), .second, .val (.ref a_SELL), .val (.int (1 : Int32)), .val (.int (1 : Int32)), .val (.int (1 : Int32)), .val (.long (p3 &&& (9223372036854775807 : Int64))), .second, .unset] [(.ref a_SELL)]))
      refine Go.step (fun t_ k_ => XS.aload X18.here hx rfl (hb hby at_106) rfl rfl k_) ?_
      show Go p e below _ (T18.setTop (mkF m 108 #[.val (.int p1), .val (.long p2), .second, .val (.long p3), .second, .val (.ref a_SELL), .val (.int (1 : Int32)), .val (.int (1 : Int32)), .val (.int (1 : Int32)), .val (.long (p3 &&& (9223372036854775807 : Int64))), .second, .unset] [(.ref a_SELL), (.ref a_SELL)]))
      obtain ⟨cq19, kq19, q19a, q19b, q19c⟩ := isOf hZ e18 (E_SELL.ext Ol.2)
      obtain ⟨_, _, ⟨T19, L19, k19, n19⟩, -, X19, ⟨Lc19, hQ19, l19, y19, z19⟩, st19⟩ := X18.virtualBack hx (y := (⟨"com/example/bracketline/bracketline/Side", "marketLimit", "()J"⟩ : MethodName)) (z := (⟨"com/example/bracketline/bracketline/Side", "marketLimit", "()J"⟩ : MethodName)) hown (mvT hZ (hw _ (List.mem_of_getElem? (i := 17) rfl))) (mvT hZ (hw _ (List.mem_of_getElem? (i := 18) rfl))) (notFace_of_selects (args := #[]) (mvT hZ (hw _ (List.mem_of_getElem? (i := 20) rfl)))) (mvT hZ (hw _ (List.mem_of_getElem? (i := 20) rfl))) (mvT hZ (hw _ (List.mem_of_getElem? (i := 19) rfl))) (by decide) (backOf (W := 1) (rm3 l Z a0 hw [] a_SELL a_BUY HW a_SELL (0 : Int64) h0 n0 Ol F_SELL_marketLimit rfl) hZ (hw _ (List.mem_of_getElem? (i := 21) rfl)) (hw _ (List.mem_of_getElem? (i := 1) rfl)) (by decide) (by decide)) q19a q19c (g := (mkF m 108 #[.val (.int p1), .val (.long p2), .second, .val (.long p3), .second, .val (.ref a_SELL), .val (.int (1 : Int32)), .val (.int (1 : Int32)), .val (.int (1 : Int32)), .val (.long (p3 &&& (9223372036854775807 : Int64))), .second, .unset] [(.ref a_SELL), (.ref a_SELL)])) rfl (by rw [hml]; rfl) (Steps.refl _) (argsL := []) (rest := [(.ref a_SELL)]) (lenOf pd_2 rfl) rfl (by show 2 * 0 + _ ≤ _; exact Nat.le_of_eq rfl) (hb hby at_108) (fun _ _ => ⟨rfl, e18, (by decide : 0 + 0 ≤ _), (by decide : 0 + 0 ≤ _)⟩)
      dsimp only [Pt.U, Pt.locs, Pt.cells, Pt.slots] at X19 l19 y19 z19 st19 hQ19
      subst l19 y19 z19
      obtain ⟨rfl, Nq19, e19⟩ := hQ19
      have N19 := Fr.app N18 Nq19
      refine Go.step (fun t_ k_ => st19.trans k_) ?_
      show Go p e below _ (T19.setTop (mkF m 111 #[.val (.int p1), .val (.long p2), .second, .val (.long p3), .second, .val (.ref a_SELL), .val (.int (1 : Int32)), .val (.int (1 : Int32)), .val (.int (1 : Int32)), .val (.long (p3 &&& (9223372036854775807 : Int64))), .second, .unset] [(.long (0 : Int64)), (.ref a_SELL)]))
      refine Go.step (fun t_ k_ => XS.lload X19.here hx rfl (hb hby at_111) rfl k_) ?_
      show Go p e below _ (T19.setTop (mkF m 113 #[.val (.int p1), .val (.long p2), .second, .val (.long p3), .second, .val (.ref a_SELL), .val (.int (1 : Int32)), .val (.int (1 : Int32)), .val (.int (1 : Int32)), .val (.long (p3 &&& (9223372036854775807 : Int64))), .second, .unset] [(.long (p3 &&& (9223372036854775807 : Int64))), (.long (0 : Int64)), (.ref a_SELL)]))
      obtain ⟨cq20, kq20, q20a, q20b, q20c⟩ := isOf hZ e19 (E_SELL.ext Ol.2)
      obtain ⟨_, _, ⟨T20, L20, k20, n20⟩, -, X20, ⟨Lc20, hQ20, l20, y20, z20⟩, st20⟩ := X19.virtualBack hx (y := (⟨"com/example/bracketline/bracketline/Side", "accepts", "(JJ)Z"⟩ : MethodName)) (z := (⟨"com/example/bracketline/bracketline/Side", "accepts", "(JJ)Z"⟩ : MethodName)) hown (mvT hZ (hw _ (List.mem_of_getElem? (i := 3) rfl))) (mvT hZ (hw _ (List.mem_of_getElem? (i := 4) rfl))) (notFace_of_selects (args := #[]) (mvT hZ (hw _ (List.mem_of_getElem? (i := 6) rfl)))) (mvT hZ (hw _ (List.mem_of_getElem? (i := 6) rfl))) (mvT hZ (hw _ (List.mem_of_getElem? (i := 5) rfl))) (by decide) (backOf (W := 0) (rm1 l Z a0 hw [] a_SELL a_BUY HW a_SELL (0 : Int64) (p3 &&& (9223372036854775807 : Int64)) (1 : Int32) h0 n0 Ol (by simp [mk_nn, (Fld.ne F_SELL_ordinal F_BUY_ordinal (by simp)), (Ne.symm (Fld.ne F_SELL_ordinal F_BUY_ordinal (by simp)))])) hZ (hw _ (List.mem_of_getElem? (i := 7) rfl)) (hw _ (List.mem_of_getElem? (i := 1) rfl)) (by decide) (by decide)) q20a q20c (g := (mkF m 113 #[.val (.int p1), .val (.long p2), .second, .val (.long p3), .second, .val (.ref a_SELL), .val (.int (1 : Int32)), .val (.int (1 : Int32)), .val (.int (1 : Int32)), .val (.long (p3 &&& (9223372036854775807 : Int64))), .second, .unset] [(.long (p3 &&& (9223372036854775807 : Int64))), (.long (0 : Int64)), (.ref a_SELL)])) rfl (by rw [hml]; rfl) (Steps.refl _) (argsL := [(.long (0 : Int64)), (.long (p3 &&& (9223372036854775807 : Int64)))]) (rest := []) (lenOf pd_0 rfl) rfl (by show 2 * 0 + _ ≤ _; exact Nat.le_of_eq rfl) (hb hby at_113) (fun _ _ => ⟨rfl, e19, (by decide : 0 + 0 ≤ _), (by decide : 0 + 0 ≤ _)⟩)
      dsimp only [Pt.U, Pt.locs, Pt.cells, Pt.slots] at X20 l20 y20 z20 st20 hQ20
      subst l20 y20 z20
      obtain ⟨rfl, Nq20, e20⟩ := hQ20
      have N20 := Fr.app N19 Nq20
      refine Go.step (fun t_ k_ => st20.trans k_) ?_
      show Go p e below _ (T20.setTop (mkF m 116 #[.val (.int p1), .val (.long p2), .second, .val (.long p3), .second, .val (.ref a_SELL), .val (.int (1 : Int32)), .val (.int (1 : Int32)), .val (.int (1 : Int32)), .val (.long (p3 &&& (9223372036854775807 : Int64))), .second, .unset] [(.int (1 : Int32))]))
      refine Go.step (fun t_ k_ => XS.istore X20.here hx rfl (hb hby at_116) rfl (l' := #[.val (.int p1), .val (.long p2), .second, .val (.long p3), .second, .val (.ref a_SELL), .val (.int (1 : Int32)), .val (.int (1 : Int32)), .val (.int (1 : Int32)), .val (.long (p3 &&& (9223372036854775807 : Int64))), .second, .val (.int (1 : Int32))]) rfl k_) ?_
      show Go p e below _ (T20.setTop (mkF m 118 #[.val (.int p1), .val (.long p2), .second, .val (.long p3), .second, .val (.ref a_SELL), .val (.int (1 : Int32)), .val (.int (1 : Int32)), .val (.int (1 : Int32)), .val (.long (p3 &&& (9223372036854775807 : Int64))), .second, .val (.int (1 : Int32))] []))
      refine Go.step (fun t_ k_ => XS.iload X20.here hx rfl (hb hby at_118) rfl k_) ?_
      show Go p e below _ (T20.setTop (mkF m 120 #[.val (.int p1), .val (.long p2), .second, .val (.long p3), .second, .val (.ref a_SELL), .val (.int (1 : Int32)), .val (.int (1 : Int32)), .val (.int (1 : Int32)), .val (.long (p3 &&& (9223372036854775807 : Int64))), .second, .val (.int (1 : Int32))] [(.int (1 : Int32))]))
      refine Go.step (fun t_ k_ => XS.iload X20.here hx rfl (hb hby at_120) rfl k_) ?_
      show Go p e below _ (T20.setTop (mkF m 122 #[.val (.int p1), .val (.long p2), .second, .val (.long p3), .second, .val (.ref a_SELL), .val (.int (1 : Int32)), .val (.int (1 : Int32)), .val (.int (1 : Int32)), .val (.long (p3 &&& (9223372036854775807 : Int64))), .second, .val (.int (1 : Int32))] [(.int (1 : Int32)), (.int (1 : Int32))]))
      have hc122 : (1 : Int32) = (1 : Int32) := by decide
      refine Go.step (fun t_ k_ => XS.icmpNo X20.here hx rfl (hb hby at_122) rfl (teq hc122).2 k_) ?_
      show Go p e below _ (T20.setTop (mkF m 125 #[.val (.int p1), .val (.long p2), .second, .val (.long p3), .second, .val (.ref a_SELL), .val (.int (1 : Int32)), .val (.int (1 : Int32)), .val (.int (1 : Int32)), .val (.long (p3 &&& (9223372036854775807 : Int64))), .second, .val (.int (1 : Int32))] []))
      refine Go.step (fun t_ k_ => XS.iload X20.here hx rfl (hb hby at_125) rfl k_) ?_
      show Go p e below _ (T20.setTop (mkF m 127 #[.val (.int p1), .val (.long p2), .second, .val (.long p3), .second, .val (.ref a_SELL), .val (.int (1 : Int32)), .val (.int (1 : Int32)), .val (.int (1 : Int32)), .val (.long (p3 &&& (9223372036854775807 : Int64))), .second, .val (.int (1 : Int32))] [(.int (1 : Int32))]))
      have hc127 : ¬ ((1 : Int32) = (0 : Int32)) := by decide
      refine Go.step (fun t_ k_ => XS.ifNo X20.here hx rfl (hb hby at_127) rfl ((if0 _ _).trans (feq hc127).1) k_) ?_
      show Go p e below _ (T20.setTop (mkF m 130 #[.val (.int p1), .val (.long p2), .second, .val (.long p3), .second, .val (.ref a_SELL), .val (.int (1 : Int32)), .val (.int (1 : Int32)), .val (.int (1 : Int32)), .val (.long (p3 &&& (9223372036854775807 : Int64))), .second, .val (.int (1 : Int32))] []))
      refine Go.step (fun t_ k_ => XS.iload X20.here hx rfl (hb hby at_130) rfl k_) ?_
      show Go p e below _ (T20.setTop (mkF m 132 #[.val (.int p1), .val (.long p2), .second, .val (.long p3), .second, .val (.ref a_SELL), .val (.int (1 : Int32)), .val (.int (1 : Int32)), .val (.int (1 : Int32)), .val (.long (p3 &&& (9223372036854775807 : Int64))), .second, .val (.int (1 : Int32))] [(.int (1 : Int32))]))
      have hc132 : ¬ ((1 : Int32) = (0 : Int32)) := by decide
      refine Go.step (fun t_ k_ => XS.ifNo X20.here hx rfl (hb hby at_132) rfl ((if0 _ _).trans (feq hc132).1) k_) ?_
      show Go p e below _ (T20.setTop (mkF m 135 #[.val (.int p1), .val (.long p2), .second, .val (.long p3), .second, .val (.ref a_SELL), .val (.int (1 : Int32)), .val (.int (1 : Int32)), .val (.int (1 : Int32)), .val (.long (p3 &&& (9223372036854775807 : Int64))), .second, .val (.int (1 : Int32))] []))
      refine Go.step (fun t_ k_ => XS.iconst X20.here hx rfl (hb hby at_135) k_) ?_
      show Go p e below _ (T20.setTop (mkF m 136 #[.val (.int p1), .val (.long p2), .second, .val (.long p3), .second, .val (.ref a_SELL), .val (.int (1 : Int32)), .val (.int (1 : Int32)), .val (.int (1 : Int32)), .val (.long (p3 &&& (9223372036854775807 : Int64))), .second, .val (.int (1 : Int32))] [(.int (1 : Int32))]))
      refine Go.step (fun t_ k_ => XS.goto X20.here hx rfl (pc0 := 136) (pc' := 140) rfl (hb hby at_136) (by decide) (by decide) k_) ?_
      show Go p e below _ (T20.setTop (mkF m 140 #[.val (.int p1), .val (.long p2), .second, .val (.long p3), .second, .val (.ref a_SELL), .val (.int (1 : Int32)), .val (.int (1 : Int32)), .val (.int (1 : Int32)), .val (.long (p3 &&& (9223372036854775807 : Int64))), .second, .val (.int (1 : Int32))] [(.int (1 : Int32))]))
      refine Go.retZ X20 hx (t := .boolean) Bd.returns (by simp) Bd.notSynchronized (hb hby at_140) (by rw [e20]; exact ⟨rfl, N20⟩) (by decide) (by decide)
    case neg =>
      refine Go.step (fun t_ k_ => XS.ifNo X0.here hx rfl (hb hby at_3) rfl ((if0 _ _).trans (feq hc3).1) k_) ?_
      show Go p e below _ (s₁.setTop (mkF m 6 #[.val (.int p1), .val (.long p2), .second, .val (.long p3), .second, .unset, .unset, .unset, .unset, .unset, .unset, .unset] []))
      obtain ⟨T21, X21, e21, st21⟩ := getS2 X0 hx hZ hown (host := "") (Or.inl (hw _ (List.mem_of_getElem? (i := 10) rfl))) Via.refl e0 (S_BUY.ext Ol.2) (g := (mkF m 6 #[.val (.int p1), .val (.long p2), .second, .val (.long p3), .second, .unset, .unset, .unset, .unset, .unset, .unset, .unset] [])) rfl (hb hby at_6)
      refine Go.step st21 ?_
      show Go p e below _ (T21.setTop (mkF m 9 #[.val (.int p1), .val (.long p2), .second, .val (.long p3), .second, .unset, .unset, .unset, .unset, .unset, .unset, .unset] [(.ref a_BUY)]))
      refine Go.step (fun t_ k_ => XS.goto X21.here hx rfl (pc0 := 9) (pc' := 15) rfl (hb hby at_9) (by decide) (by decide) k_) ?_
      show Go p e below _ (T21.setTop (mkF m 15 #[.val (.int p1), .val (.long p2), .second, .val (.long p3), .second, .unset, .unset, .unset, .unset, .unset, .unset, .unset] [(.ref a_BUY)]))
      refine Go.step (fun t_ k_ => XS.astore X21.here hx rfl (hb hby at_15) rfl rfl (l' := #[.val (.int p1), .val (.long p2), .second, .val (.long p3), .second, .val (.ref a_BUY), .unset, .unset, .unset, .unset, .unset, .unset]) rfl k_) ?_
      show Go p e below _ (T21.setTop (mkF m 17 #[.val (.int p1), .val (.long p2), .second, .val (.long p3), .second, .val (.ref a_BUY), .unset, .unset, .unset, .unset, .unset, .unset] []))
      refine Go.step (fun t_ k_ => XS.aload X21.here hx rfl (hb hby at_17) rfl rfl k_) ?_
      show Go p e below _ (T21.setTop (mkF m 19 #[.val (.int p1), .val (.long p2), .second, .val (.long p3), .second, .val (.ref a_BUY), .unset, .unset, .unset, .unset, .unset, .unset] [(.ref a_BUY)]))
      refine Go.step (fun t_ k_ => XS.lloadN X21.here hx rfl (hb hby at_19) rfl k_) ?_
      show Go p e below _ (T21.setTop (mkF m 20 #[.val (.int p1), .val (.long p2), .second, .val (.long p3), .second, .val (.ref a_BUY), .unset, .unset, .unset, .unset, .unset, .unset] [(.long p2), (.ref a_BUY)]))
      refine Go.step (fun t_ k_ => XS.lloadN X21.here hx rfl (hb hby at_20) rfl k_) ?_
      show Go p e below _ (T21.setTop (mkF m 21 #[.val (.int p1), .val (.long p2), .second, .val (.long p3), .second, .val (.ref a_BUY), .unset, .unset, .unset, .unset, .unset, .unset] [(.long p3), (.long p2), (.ref a_BUY)]))
      obtain ⟨cq22, kq22, q22a, q22b, q22c⟩ := isOf hZ e21 (E_BUY.ext Ol.2)
      obtain ⟨_, _, ⟨T22, L22, k22, n22⟩, -, X22, ⟨Lc22, hQ22, l22, y22, z22⟩, st22⟩ := X21.virtualBack hx (y := (⟨"com/example/bracketline/bracketline/Side", "accepts", "(JJ)Z"⟩ : MethodName)) (z := (⟨"com/example/bracketline/bracketline/Side", "accepts", "(JJ)Z"⟩ : MethodName)) hown (mvT hZ (hw _ (List.mem_of_getElem? (i := 3) rfl))) (mvT hZ (hw _ (List.mem_of_getElem? (i := 4) rfl))) (notFace_of_selects (args := #[]) (mvT hZ (hw _ (List.mem_of_getElem? (i := 6) rfl)))) (mvT hZ (hw _ (List.mem_of_getElem? (i := 6) rfl))) (mvT hZ (hw _ (List.mem_of_getElem? (i := 5) rfl))) (by decide) (backOf (W := 0) (rm1 l Z a0 hw [] a_SELL a_BUY HW a_BUY p2 p3 (1 : Int32) h0 n0 Ol (by first | (rw [lw_of_eq h_o]; simp [(Fld.ne F_SELL_ordinal F_BUY_ordinal (by simp)), (Ne.symm (Fld.ne F_SELL_ordinal F_BUY_ordinal (by simp)))]; done) | (rw [lw_of_eq h_o]; done))) hZ (hw _ (List.mem_of_getElem? (i := 7) rfl)) (hw _ (List.mem_of_getElem? (i := 1) rfl)) (by decide) (by decide)) q22a q22c (g := (mkF m 21 #[.val (.int p1), .val (.long p2), .second, .val (.long p3), .second, .val (.ref a_BUY), .unset, .unset, .unset, .unset, .unset, .unset] [(.long p3), (.long p2), (.ref a_BUY)])) rfl (by rw [hml]; rfl) (Steps.refl _) (argsL := [(.long p2), (.long p3)]) (rest := []) (lenOf pd_0 rfl) rfl (by show 2 * 0 + _ ≤ _; exact Nat.le_of_eq rfl) (hb hby at_21) (fun _ _ => ⟨rfl, e21, (by decide : 0 + 0 ≤ _), (by decide : 0 + 0 ≤ _)⟩)
      dsimp only [Pt.U, Pt.locs, Pt.cells, Pt.slots] at X22 l22 y22 z22 st22 hQ22
      subst l22 y22 z22
      obtain ⟨rfl, Nq22, e22⟩ := hQ22
      have N22 := Fr.app N0 Nq22
      refine Go.step (fun t_ k_ => st22.trans k_) ?_
      show Go p e below _ (T22.setTop (mkF m 24 #[.val (.int p1), .val (.long p2), .second, .val (.long p3), .second, .val (.ref a_BUY), .unset, .unset, .unset, .unset, .unset, .unset] [(.int (1 : Int32))]))
      refine Go.step (fun t_ k_ => XS.istore X22.here hx rfl (hb hby at_24) rfl (l' := #[.val (.int p1), .val (.long p2), .second, .val (.long p3), .second, .val (.ref a_BUY), .val (.int (1 : Int32)), .unset, .unset, .unset, .unset, .unset]) rfl k_) ?_
      show Go p e below _ (T22.setTop (mkF m 26 #[.val (.int p1), .val (.long p2), .second, .val (.long p3), .second, .val (.ref a_BUY), .val (.int (1 : Int32)), .unset, .unset, .unset, .unset, .unset] []))
      refine Go.step (fun t_ k_ => XS.lloadN X22.here hx rfl (hb hby at_26) rfl k_) ?_
      show Go p e below _ (T22.setTop (mkF m 27 #[.val (.int p1), .val (.long p2), .second, .val (.long p3), .second, .val (.ref a_BUY), .val (.int (1 : Int32)), .unset, .unset, .unset, .unset, .unset] [(.long p3)]))
      refine Go.step (fun t_ k_ => XS.lloadN X22.here hx rfl (hb hby at_27) rfl k_) ?_
      show Go p e below _ (T22.setTop (mkF m 28 #[.val (.int p1), .val (.long p2), .second, .val (.long p3), .second, .val (.ref a_BUY), .val (.int (1 : Int32)), .unset, .unset, .unset, .unset, .unset] [(.long p2), (.long p3)]))
      refine Go.step (fun t_ k_ => XS.lcmp X22.here hx rfl (hb hby at_28) rfl k_) ?_
      show Go p e below _ (T22.setTop (mkF m 29 #[.val (.int p1), .val (.long p2), .second, .val (.long p3), .second, .val (.ref a_BUY), .val (.int (1 : Int32)), .unset, .unset, .unset, .unset, .unset] [(.int (lcmpW p3 p2))]))
      have hc29 : (lcmpW p3 p2) = (0 : Int32) := by first | (rw [lw_of_eq h_o]; decide) | rw [lw_of_eq h_o]
      refine Go.step (fun t_ k_ => XS.ifNo X22.here hx rfl (hb hby at_29) rfl ((if0 _ _).trans (teq hc29).2) k_) ?_
      show Go p e below _ (T22.setTop (mkF m 32 #[.val (.int p1), .val (.long p2), .second, .val (.long p3), .second, .val (.ref a_BUY), .val (.int (1 : Int32)), .unset, .unset, .unset, .unset, .unset] []))
      refine Go.step (fun t_ k_ => XS.iconst X22.here hx rfl (hb hby at_32) k_) ?_
      show Go p e below _ (T22.setTop (mkF m 33 #[.val (.int p1), .val (.long p2), .second, .val (.long p3), .second, .val (.ref a_BUY), .val (.int (1 : Int32)), .unset, .unset, .unset, .unset, .unset] [(.int (1 : Int32))]))
      refine Go.step (fun t_ k_ => XS.istore X22.here hx rfl (hb hby at_33) rfl (l' := #[.val (.int p1), .val (.long p2), .second, .val (.long p3), .second, .val (.ref a_BUY), .val (.int (1 : Int32)), .val (.int (1 : Int32)), .unset, .unset, .unset, .unset]) rfl k_) ?_
      show Go p e below _ (T22.setTop (mkF m 35 #[.val (.int p1), .val (.long p2), .second, .val (.long p3), .second, .val (.ref a_BUY), .val (.int (1 : Int32)), .val (.int (1 : Int32)), .unset, .unset, .unset, .unset] []))
      refine Go.step (fun t_ k_ => XS.goto X22.here hx rfl (pc0 := 35) (pc' := 75) rfl (hb hby at_35) (by decide) (by decide) k_) ?_
      show Go p e below _ (T22.setTop (mkF m 75 #[.val (.int p1), .val (.long p2), .second, .val (.long p3), .second, .val (.ref a_BUY), .val (.int (1 : Int32)), .val (.int (1 : Int32)), .unset, .unset, .unset, .unset] []))
      refine Go.step (fun t_ k_ => XS.aload X22.here hx rfl (hb hby at_75) rfl rfl k_) ?_
      show Go p e below _ (T22.setTop (mkF m 77 #[.val (.int p1), .val (.long p2), .second, .val (.long p3), .second, .val (.ref a_BUY), .val (.int (1 : Int32)), .val (.int (1 : Int32)), .unset, .unset, .unset, .unset] [(.ref a_BUY)]))
      obtain ⟨cq23, kq23, q23a, q23b, q23c⟩ := isOf hZ e22 (E_BUY.ext Ol.2)
      obtain ⟨_, _, ⟨T23, L23, k23, n23⟩, -, X23, ⟨Lc23, hQ23, l23, y23, z23⟩, st23⟩ := X22.virtualBack hx (y := (⟨"com/example/bracketline/bracketline/Side", "opposite", "()Lcom/example/bracketline/bracketline/Side;"⟩ : MethodName)) (z := (⟨"com/example/bracketline/bracketline/Side", "opposite", "()Lcom/example/bracketline/bracketline/Side;"⟩ : MethodName)) hown (mvT hZ (hw _ (List.mem_of_getElem? (i := 11) rfl))) (mvT hZ (hw _ (List.mem_of_getElem? (i := 12) rfl))) (notFace_of_selects (args := #[]) (mvT hZ (hw _ (List.mem_of_getElem? (i := 14) rfl)))) (mvT hZ (hw _ (List.mem_of_getElem? (i := 14) rfl))) (mvT hZ (hw _ (List.mem_of_getElem? (i := 13) rfl))) (by decide) (backOf (W := 0) (rm2 l Z a0 hw [] a_SELL a_BUY HW a_BUY a_SELL h0 n0 Ol (by simp [(Fld.ne F_SELL_ordinal F_BUY_ordinal (by simp)), (Ne.symm (Fld.ne F_SELL_ordinal F_BUY_ordinal (by simp)))])) hZ (hw _ (List.mem_of_getElem? (i := 15) rfl)) (hw _ (List.mem_of_getElem? (i := 1) rfl)) (by decide) (by decide)) q23a q23c (g := (mkF m 77 #[.val (.int p1), .val (.long p2), .second, .val (.long p3), .second, .val (.ref a_BUY), .val (.int (1 : Int32)), .val (.int (1 : Int32)), .unset, .unset, .unset, .unset] [(.ref a_BUY)])) rfl (by rw [hml]; rfl) (Steps.refl _) (argsL := []) (rest := []) (lenOf pd_1 rfl) rfl (by show 2 * 0 + _ ≤ _; exact Nat.le_of_eq rfl) (hb hby at_77) (fun _ _ => ⟨rfl, e22, (by decide : 0 + 0 ≤ _), (by decide : 0 + 0 ≤ _)⟩)
      dsimp only [Pt.U, Pt.locs, Pt.cells, Pt.slots] at X23 l23 y23 z23 st23 hQ23
      subst l23 y23 z23
      obtain ⟨rfl, Nq23, e23⟩ := hQ23
      have N23 := Fr.app N22 Nq23
      refine Go.step (fun t_ k_ => st23.trans k_) ?_
      show Go p e below _ (T23.setTop (mkF m 80 #[.val (.int p1), .val (.long p2), .second, .val (.long p3), .second, .val (.ref a_BUY), .val (.int (1 : Int32)), .val (.int (1 : Int32)), .unset, .unset, .unset, .unset] [(.ref a_SELL)]))
      refine Go.step (fun t_ k_ => XS.lloadN X23.here hx rfl (hb hby at_80) rfl k_) ?_
      show Go p e below _ (T23.setTop (mkF m 81 #[.val (.int p1), .val (.long p2), .second, .val (.long p3), .second, .val (.ref a_BUY), .val (.int (1 : Int32)), .val (.int (1 : Int32)), .unset, .unset, .unset, .unset] [(.long p3), (.ref a_SELL)]))
      refine Go.step (fun t_ k_ => XS.lloadN X23.here hx rfl (hb hby at_81) rfl k_) ?_
      show Go p e below _ (T23.setTop (mkF m 82 #[.val (.int p1), .val (.long p2), .second, .val (.long p3), .second, .val (.ref a_BUY), .val (.int (1 : Int32)), .val (.int (1 : Int32)), .unset, .unset, .unset, .unset] [(.long p2), (.long p3), (.ref a_SELL)]))
      obtain ⟨cq24, kq24, q24a, q24b, q24c⟩ := isOf hZ e23 (E_SELL.ext Ol.2)
      obtain ⟨_, _, ⟨T24, L24, k24, n24⟩, -, X24, ⟨Lc24, hQ24, l24, y24, z24⟩, st24⟩ := X23.virtualBack hx (y := (⟨"com/example/bracketline/bracketline/Side", "accepts", "(JJ)Z"⟩ : MethodName)) (z := (⟨"com/example/bracketline/bracketline/Side", "accepts", "(JJ)Z"⟩ : MethodName)) hown (mvT hZ (hw _ (List.mem_of_getElem? (i := 3) rfl))) (mvT hZ (hw _ (List.mem_of_getElem? (i := 4) rfl))) (notFace_of_selects (args := #[]) (mvT hZ (hw _ (List.mem_of_getElem? (i := 6) rfl)))) (mvT hZ (hw _ (List.mem_of_getElem? (i := 6) rfl))) (mvT hZ (hw _ (List.mem_of_getElem? (i := 5) rfl))) (by decide) (backOf (W := 0) (rm1 l Z a0 hw [] a_SELL a_BUY HW a_SELL p3 p2 (1 : Int32) h0 n0 Ol (by first | (rw [lw_of_eq (Eq.symm h_o)]; simp [(Fld.ne F_SELL_ordinal F_BUY_ordinal (by simp)), (Ne.symm (Fld.ne F_SELL_ordinal F_BUY_ordinal (by simp)))]; done) | (rw [lw_of_eq (Eq.symm h_o)]; done))) hZ (hw _ (List.mem_of_getElem? (i := 7) rfl)) (hw _ (List.mem_of_getElem? (i := 1) rfl)) (by decide) (by decide)) q24a q24c (g := (mkF m 82 #[.val (.int p1), .val (.long p2), .second, .val (.long p3), .second, .val (.ref a_BUY), .val (.int (1 : Int32)), .val (.int (1 : Int32)), .unset, .unset, .unset, .unset] [(.long p2), (.long p3), (.ref a_SELL)])) rfl (by rw [hml]; rfl) (Steps.refl _) (argsL := [(.long p3), (.long p2)]) (rest := []) (lenOf pd_0 rfl) rfl (by show 2 * 0 + _ ≤ _; exact Nat.le_of_eq rfl) (hb hby at_82) (fun _ _ => ⟨rfl, e23, (by decide : 0 + 0 ≤ _), (by decide : 0 + 0 ≤ _)⟩)
      dsimp only [Pt.U, Pt.locs, Pt.cells, Pt.slots] at X24 l24 y24 z24 st24 hQ24
      subst l24 y24 z24
      obtain ⟨rfl, Nq24, e24⟩ := hQ24
      have N24 := Fr.app N23 Nq24
      refine Go.step (fun t_ k_ => st24.trans k_) ?_
      show Go p e below _ (T24.setTop (mkF m 85 #[.val (.int p1), .val (.long p2), .second, .val (.long p3), .second, .val (.ref a_BUY), .val (.int (1 : Int32)), .val (.int (1 : Int32)), .unset, .unset, .unset, .unset] [(.int (1 : Int32))]))
      refine Go.step (fun t_ k_ => XS.iload X24.here hx rfl (hb hby at_85) rfl k_) ?_
      show Go p e below _ (T24.setTop (mkF m 87 #[.val (.int p1), .val (.long p2), .second, .val (.long p3), .second, .val (.ref a_BUY), .val (.int (1 : Int32)), .val (.int (1 : Int32)), .unset, .unset, .unset, .unset] [(.int (1 : Int32)), (.int (1 : Int32))]))
      have hc87 : (1 : Int32) = (1 : Int32) := by decide
      refine Go.step (fun t_ k_ => XS.icmpNo X24.here hx rfl (hb hby at_87) rfl (teq hc87).2 k_) ?_
      show Go p e below _ (T24.setTop (mkF m 90 #[.val (.int p1), .val (.long p2), .second, .val (.long p3), .second, .val (.ref a_BUY), .val (.int (1 : Int32)), .val (.int (1 : Int32)), .unset, .unset, .unset, .unset] []))
      refine Go.step (fun t_ k_ => XS.iconst X24.here hx rfl (hb hby at_90) k_) ?_
      show Go p e below _ (T24.setTop (mkF m 91 #[.val (.int p1), .val (.long p2), .second, .val (.long p3), .second, .val (.ref a_BUY), .val (.int (1 : Int32)), .val (.int (1 : Int32)), .unset, .unset, .unset, .unset] [(.int (1 : Int32))]))
      refine Go.step (fun t_ k_ => XS.goto X24.here hx rfl (pc0 := 91) (pc' := 95) rfl (hb hby at_91) (by decide) (by decide) k_) ?_
      show Go p e below _ (T24.setTop (mkF m 95 #[.val (.int p1), .val (.long p2), .second, .val (.long p3), .second, .val (.ref a_BUY), .val (.int (1 : Int32)), .val (.int (1 : Int32)), .unset, .unset, .unset, .unset] [(.int (1 : Int32))]))
      refine Go.step (fun t_ k_ => XS.istore X24.here hx rfl (hb hby at_95) rfl (l' := #[.val (.int p1), .val (.long p2), .second, .val (.long p3), .second, .val (.ref a_BUY), .val (.int (1 : Int32)), .val (.int (1 : Int32)), .val (.int (1 : Int32)), .unset, .unset, .unset]) rfl k_) ?_
      show Go p e below _ (T24.setTop (mkF m 97 #[.val (.int p1), .val (.long p2), .second, .val (.long p3), .second, .val (.ref a_BUY), .val (.int (1 : Int32)), .val (.int (1 : Int32)), .val (.int (1 : Int32)), .unset, .unset, .unset] []))
      refine Go.step (fun t_ k_ => XS.lloadN X24.here hx rfl (hb hby at_97) rfl k_) ?_
      show Go p e below _ (T24.setTop (mkF m 98 #[.val (.int p1), .val (.long p2), .second, .val (.long p3), .second, .val (.ref a_BUY), .val (.int (1 : Int32)), .val (.int (1 : Int32)), .val (.int (1 : Int32)), .unset, .unset, .unset] [(.long p3)]))
      refine Go.step (fun t_ k_ => X24.ldc2Long hx hown (mvT hZ (hw _ (List.mem_of_getElem? (i := 16) rfl))) (g := (mkF m 98 #[.val (.int p1), .val (.long p2), .second, .val (.long p3), .second, .val (.ref a_BUY), .val (.int (1 : Int32)), .val (.int (1 : Int32)), .val (.int (1 : Int32)), .unset, .unset, .unset] [(.long p3)])) rfl (hb hby at_98) _ k_) ?_
      show Go p e below _ (T24.setTop (mkF m 101 #[.val (.int p1), .val (.long p2), .second, .val (.long p3), .second, .val (.ref a_BUY), .val (.int (1 : Int32)), .val (.int (1 : Int32)), .val (.int (1 : Int32)), .unset, .unset, .unset] [(.long (9223372036854775807 : Int64)), (.long p3)]))
      refine Go.step (fun t_ k_ => XS.land X24.here hx rfl (hb hby at_101) rfl k_) ?_
      show Go p e below _ (T24.setTop (mkF m 102 #[.val (.int p1), .val (.long p2), .second, .val (.long p3), .second, .val (.ref a_BUY), .val (.int (1 : Int32)), .val (.int (1 : Int32)), .val (.int (1 : Int32)), .unset, .unset, .unset] [(.long (p3 &&& (9223372036854775807 : Int64)))]))
      refine Go.step (fun t_ k_ => XS.lstore X24.here hx rfl (hb hby at_102) rfl (l' := #[.val (.int p1), .val (.long p2), .second, .val (.long p3), .second, .val (.ref a_BUY), .val (.int (1 : Int32)), .val (.int (1 : Int32)), .val (.int (1 : Int32)), .val (.long (p3 &&& (9223372036854775807 : Int64))), .second, .unset]) rfl k_) ?_
      show Go p e below _ (T24.setTop (mkF m 104 #[.val (.int p1), .val (.long p2), .second, .val (.long p3), .second, .val (.ref a_BUY), .val (.int (1 : Int32)), .val (.int (1 : Int32)), .val (.int (1 : Int32)), .val (.long (p3 &&& (9223372036854775807 : Int64))), .second, .unset] []))
      refine Go.step (fun t_ k_ => XS.aload X24.here hx rfl (hb hby at_104) rfl rfl k_) ?_
      show Go p e below _ (T24.setTop (mkF m 106 #[.val (.int p1), .val (.long p2), .second, .val (.long p3), .second, .val (.ref a_BUY), .val (.int (1 : Int32)), .val (.int (1 : Int32)), .val (.int (1 : Int32)), .val (.long (p3 &&& (9223372036854775807 : Int64))), .second, .unset] [(.ref a_BUY)]))
      refine Go.step (fun t_ k_ => XS.aload X24.here hx rfl (hb hby at_106) rfl rfl k_) ?_
      show Go p e below _ (T24.setTop (mkF m 108 #[.val (.int p1), .val (.long p2), .second, .val (.long p3), .second, .val (.ref a_BUY), .val (.int (1 : Int32)), .val (.int (1 : Int32)), .val (.int (1 : Int32)), .val (.long (p3 &&& (9223372036854775807 : Int64))), .second, .unset] [(.ref a_BUY), (.ref a_BUY)]))
      obtain ⟨cq25, kq25, q25a, q25b, q25c⟩ := isOf hZ e24 (E_BUY.ext Ol.2)
      obtain ⟨_, _, ⟨T25, L25, k25, n25⟩, -, X25, ⟨Lc25, hQ25, l25, y25, z25⟩, st25⟩ := X24.virtualBack hx (y := (⟨"com/example/bracketline/bracketline/Side", "marketLimit", "()J"⟩ : MethodName)) (z := (⟨"com/example/bracketline/bracketline/Side", "marketLimit", "()J"⟩ : MethodName)) hown (mvT hZ (hw _ (List.mem_of_getElem? (i := 17) rfl))) (mvT hZ (hw _ (List.mem_of_getElem? (i := 18) rfl))) (notFace_of_selects (args := #[]) (mvT hZ (hw _ (List.mem_of_getElem? (i := 20) rfl)))) (mvT hZ (hw _ (List.mem_of_getElem? (i := 20) rfl))) (mvT hZ (hw _ (List.mem_of_getElem? (i := 19) rfl))) (by decide) (backOf (W := 1) (rm3 l Z a0 hw [] a_SELL a_BUY HW a_BUY (9223372036854775807 : Int64) h0 n0 Ol F_BUY_marketLimit rfl) hZ (hw _ (List.mem_of_getElem? (i := 21) rfl)) (hw _ (List.mem_of_getElem? (i := 1) rfl)) (by decide) (by decide)) q25a q25c (g := (mkF m 108 #[.val (.int p1), .val (.long p2), .second, .val (.long p3), .second, .val (.ref a_BUY), .val (.int (1 : Int32)), .val (.int (1 : Int32)), .val (.int (1 : Int32)), .val (.long (p3 &&& (9223372036854775807 : Int64))), .second, .unset] [(.ref a_BUY), (.ref a_BUY)])) rfl (by rw [hml]; rfl) (Steps.refl _) (argsL := []) (rest := [(.ref a_BUY)]) (lenOf pd_2 rfl) rfl (by show 2 * 0 + _ ≤ _; exact Nat.le_of_eq rfl) (hb hby at_108) (fun _ _ => ⟨rfl, e24, (by decide : 0 + 0 ≤ _), (by decide : 0 + 0 ≤ _)⟩)
      dsimp only [Pt.U, Pt.locs, Pt.cells, Pt.slots] at X25 l25 y25 z25 st25 hQ25
      subst l25 y25 z25
      obtain ⟨rfl, Nq25, e25⟩ := hQ25
      have N25 := Fr.app N24 Nq25
      refine Go.step (fun t_ k_ => st25.trans k_) ?_
      show Go p e below _ (T25.setTop (mkF m 111 #[.val (.int p1), .val (.long p2), .second, .val (.long p3), .second, .val (.ref a_BUY), .val (.int (1 : Int32)), .val (.int (1 : Int32)), .val (.int (1 : Int32)), .val (.long (p3 &&& (9223372036854775807 : Int64))), .second, .unset] [(.long (9223372036854775807 : Int64)), (.ref a_BUY)]))
      refine Go.step (fun t_ k_ => XS.lload X25.here hx rfl (hb hby at_111) rfl k_) ?_
      show Go p e below _ (T25.setTop (mkF m 113 #[.val (.int p1), .val (.long p2), .second, .val (.long p3), .second, .val (.ref a_BUY), .val (.int (1 : Int32)), .val (.int (1 : Int32)), .val (.int (1 : Int32)), .val (.long (p3 &&& (9223372036854775807 : Int64))), .second, .unset] [(.long (p3 &&& (9223372036854775807 : Int64))), (.long (9223372036854775807 : Int64)), (.ref a_BUY)]))
      obtain ⟨cq26, kq26, q26a, q26b, q26c⟩ := isOf hZ e25 (E_BUY.ext Ol.2)
      obtain ⟨_, _, ⟨T26, L26, k26, n26⟩, -, X26, ⟨Lc26, hQ26, l26, y26, z26⟩, st26⟩ := X25.virtualBack hx (y := (⟨"com/example/bracketline/bracketline/Side", "accepts", "(JJ)Z"⟩ : MethodName)) (z := (⟨"com/example/bracketline/bracketline/Side", "accepts", "(JJ)Z"⟩ : MethodName)) hown (mvT hZ (hw _ (List.mem_of_getElem? (i := 3) rfl))) (mvT hZ (hw _ (List.mem_of_getElem? (i := 4) rfl))) (notFace_of_selects (args := #[]) (mvT hZ (hw _ (List.mem_of_getElem? (i := 6) rfl)))) (mvT hZ (hw _ (List.mem_of_getElem? (i := 6) rfl))) (mvT hZ (hw _ (List.mem_of_getElem? (i := 5) rfl))) (by decide) (backOf (W := 0) (rm1 l Z a0 hw [] a_SELL a_BUY HW a_BUY (9223372036854775807 : Int64) (p3 &&& (9223372036854775807 : Int64)) (1 : Int32) h0 n0 Ol (by simp [mk_le, (Fld.ne F_SELL_ordinal F_BUY_ordinal (by simp)), (Ne.symm (Fld.ne F_SELL_ordinal F_BUY_ordinal (by simp)))])) hZ (hw _ (List.mem_of_getElem? (i := 7) rfl)) (hw _ (List.mem_of_getElem? (i := 1) rfl)) (by decide) (by decide)) q26a q26c (g := (mkF m 113 #[.val (.int p1), .val (.long p2), .second, .val (.long p3), .second, .val (.ref a_BUY), .val (.int (1 : Int32)), .val (.int (1 : Int32)), .val (.int (1 : Int32)), .val (.long (p3 &&& (9223372036854775807 : Int64))), .second, .unset] [(.long (p3 &&& (9223372036854775807 : Int64))), (.long (9223372036854775807 : Int64)), (.ref a_BUY)])) rfl (by rw [hml]; rfl) (Steps.refl _) (argsL := [(.long (9223372036854775807 : Int64)), (.long (p3 &&& (9223372036854775807 : Int64)))]) (rest := []) (lenOf pd_0 rfl) rfl (by show 2 * 0 + _ ≤ _; exact Nat.le_of_eq rfl) (hb hby at_113) (fun _ _ => ⟨rfl, e25, (by decide : 0 + 0 ≤ _), (by decide : 0 + 0 ≤ _)⟩)
      dsimp only [Pt.U, Pt.locs, Pt.cells, Pt.slots] at X26 l26 y26 z26 st26 hQ26
      subst l26 y26 z26
      obtain ⟨rfl, Nq26, e26⟩ := hQ26
      have N26 := Fr.app N25 Nq26
      refine Go.step (fun t_ k_ => st26.trans k_) ?_
      show Go p e below _ (T26.setTop (mkF m 116 #[.val (.int p1), .val (.long p2), .second, .val (.long p3), .second, .val (.ref a_BUY), .val (.int (1 : Int32)), .val (.int (1 : Int32)), .val (.int (1 : Int32)), .val (.long (p3 &&& (9223372036854775807 : Int64))), .second, .unset] [(.int (1 : Int32))]))
      refine Go.step (fun t_ k_ => XS.istore X26.here hx rfl (hb hby at_116) rfl (l' := #[.val (.int p1), .val (.long p2), .second, .val (.long p3), .second, .val (.ref a_BUY), .val (.int (1 : Int32)), .val (.int (1 : Int32)), .val (.int (1 : Int32)), .val (.long (p3 &&& (9223372036854775807 : Int64))), .second, .val (.int (1 : Int32))]) rfl k_) ?_
      show Go p e below _ (T26.setTop (mkF m 118 #[.val (.int p1), .val (.long p2), .second, .val (.long p3), .second, .val (.ref a_BUY), .val (.int (1 : Int32)), .val (.int (1 : Int32)), .val (.int (1 : Int32)), .val (.long (p3 &&& (9223372036854775807 : Int64))), .second, .val (.int (1 : Int32))] []))
      refine Go.step (fun t_ k_ => XS.iload X26.here hx rfl (hb hby at_118) rfl k_) ?_
      show Go p e below _ (T26.setTop (mkF m 120 #[.val (.int p1), .val (.long p2), .second, .val (.long p3), .second, .val (.ref a_BUY), .val (.int (1 : Int32)), .val (.int (1 : Int32)), .val (.int (1 : Int32)), .val (.long (p3 &&& (9223372036854775807 : Int64))), .second, .val (.int (1 : Int32))] [(.int (1 : Int32))]))
      refine Go.step (fun t_ k_ => XS.iload X26.here hx rfl (hb hby at_120) rfl k_) ?_
      show Go p e below _ (T26.setTop (mkF m 122 #[.val (.int p1), .val (.long p2), .second, .val (.long p3), .second, .val (.ref a_BUY), .val (.int (1 : Int32)), .val (.int (1 : Int32)), .val (.int (1 : Int32)), .val (.long (p3 &&& (9223372036854775807 : Int64))), .second, .val (.int (1 : Int32))] [(.int (1 : Int32)), (.int (1 : Int32))]))
      have hc122 : (1 : Int32) = (1 : Int32) := by decide
      refine Go.step (fun t_ k_ => XS.icmpNo X26.here hx rfl (hb hby at_122) rfl (teq hc122).2 k_) ?_
      show Go p e below _ (T26.setTop (mkF m 125 #[.val (.int p1), .val (.long p2), .second, .val (.long p3), .second, .val (.ref a_BUY), .val (.int (1 : Int32)), .val (.int (1 : Int32)), .val (.int (1 : Int32)), .val (.long (p3 &&& (9223372036854775807 : Int64))), .second, .val (.int (1 : Int32))] []))
      refine Go.step (fun t_ k_ => XS.iload X26.here hx rfl (hb hby at_125) rfl k_) ?_
      show Go p e below _ (T26.setTop (mkF m 127 #[.val (.int p1), .val (.long p2), .second, .val (.long p3), .second, .val (.ref a_BUY), .val (.int (1 : Int32)), .val (.int (1 : Int32)), .val (.int (1 : Int32)), .val (.long (p3 &&& (9223372036854775807 : Int64))), .second, .val (.int (1 : Int32))] [(.int (1 : Int32))]))
      have hc127 : ¬ ((1 : Int32) = (0 : Int32)) := by decide
      refine Go.step (fun t_ k_ => XS.ifNo X26.here hx rfl (hb hby at_127) rfl ((if0 _ _).trans (feq hc127).1) k_) ?_
      show Go p e below _ (T26.setTop (mkF m 130 #[.val (.int p1), .val (.long p2), .second, .val (.long p3), .second, .val (.ref a_BUY), .val (.int (1 : Int32)), .val (.int (1 : Int32)), .val (.int (1 : Int32)), .val (.long (p3 &&& (9223372036854775807 : Int64))), .second, .val (.int (1 : Int32))] []))
      refine Go.step (fun t_ k_ => XS.iload X26.here hx rfl (hb hby at_130) rfl k_) ?_
      show Go p e below _ (T26.setTop (mkF m 132 #[.val (.int p1), .val (.long p2), .second, .val (.long p3), .second, .val (.ref a_BUY), .val (.int (1 : Int32)), .val (.int (1 : Int32)), .val (.int (1 : Int32)), .val (.long (p3 &&& (9223372036854775807 : Int64))), .second, .val (.int (1 : Int32))] [(.int (1 : Int32))]))
      have hc132 : ¬ ((1 : Int32) = (0 : Int32)) := by decide
      refine Go.step (fun t_ k_ => XS.ifNo X26.here hx rfl (hb hby at_132) rfl ((if0 _ _).trans (feq hc132).1) k_) ?_
      show Go p e below _ (T26.setTop (mkF m 135 #[.val (.int p1), .val (.long p2), .second, .val (.long p3), .second, .val (.ref a_BUY), .val (.int (1 : Int32)), .val (.int (1 : Int32)), .val (.int (1 : Int32)), .val (.long (p3 &&& (9223372036854775807 : Int64))), .second, .val (.int (1 : Int32))] []))
      refine Go.step (fun t_ k_ => XS.iconst X26.here hx rfl (hb hby at_135) k_) ?_
      show Go p e below _ (T26.setTop (mkF m 136 #[.val (.int p1), .val (.long p2), .second, .val (.long p3), .second, .val (.ref a_BUY), .val (.int (1 : Int32)), .val (.int (1 : Int32)), .val (.int (1 : Int32)), .val (.long (p3 &&& (9223372036854775807 : Int64))), .second, .val (.int (1 : Int32))] [(.int (1 : Int32))]))
      refine Go.step (fun t_ k_ => XS.goto X26.here hx rfl (pc0 := 136) (pc' := 140) rfl (hb hby at_136) (by decide) (by decide) k_) ?_
      show Go p e below _ (T26.setTop (mkF m 140 #[.val (.int p1), .val (.long p2), .second, .val (.long p3), .second, .val (.ref a_BUY), .val (.int (1 : Int32)), .val (.int (1 : Int32)), .val (.int (1 : Int32)), .val (.long (p3 &&& (9223372036854775807 : Int64))), .second, .val (.int (1 : Int32))] [(.int (1 : Int32))]))
      refine Go.retZ X26 hx (t := .boolean) Bd.returns (by simp) Bd.notSynchronized (hb hby at_140) (by rw [e26]; exact ⟨rfl, N26⟩) (by decide) (by decide)
  next =>
    refine Go.step (fun t_ k_ => XS.iloadN X0.here hx rfl (hb hby at_0) rfl k_) ?_
    show Go p e below _ (s₁.setTop (mkF m 1 #[.val (.int p1), .val (.long p2), .second, .val (.long p3), .second, .unset, .unset, .unset, .unset, .unset, .unset, .unset] [(.int p1)]))
    refine Go.step (fun t_ k_ => XS.iconst X0.here hx rfl (hb hby at_1) k_) ?_
    show Go p e below _ (s₁.setTop (mkF m 2 #[.val (.int p1), .val (.long p2), .second, .val (.long p3), .second, .unset, .unset, .unset, .unset, .unset, .unset, .unset] [(.int (1 : Int32)), (.int p1)]))
    refine Go.step (fun t_ k_ => XS.iand X0.here hx rfl (hb hby at_2) rfl k_) ?_
    show Go p e below _ (s₁.setTop (mkF m 3 #[.val (.int p1), .val (.long p2), .second, .val (.long p3), .second, .unset, .unset, .unset, .unset, .unset, .unset, .unset] [(.int (p1 &&& (1 : Int32)))]))
    by_cases hc3 : (p1 &&& (1 : Int32)) = (0 : Int32)
    case pos =>
      refine Go.step (fun t_ k_ => XS.ifYes X0.here hx rfl (pc0 := 3) (pc' := 12) rfl (hb hby at_3) rfl ((if0 _ _).trans (teq hc3).1) (by decide) (by decide) k_) ?_
      show Go p e below _ (s₁.setTop (mkF m 12 #[.val (.int p1), .val (.long p2), .second, .val (.long p3), .second, .unset, .unset, .unset, .unset, .unset, .unset, .unset] []))
      obtain ⟨T27, X27, e27, st27⟩ := getS2 X0 hx hZ hown (host := "") (Or.inl (hw _ (List.mem_of_getElem? (i := 0) rfl))) Via.refl e0 (S_SELL.ext Ol.2) (g := (mkF m 12 #[.val (.int p1), .val (.long p2), .second, .val (.long p3), .second, .unset, .unset, .unset, .unset, .unset, .unset, .unset] [])) rfl (hb hby at_12)
      refine Go.step st27 ?_
      show Go p e below _ (T27.setTop (mkF m 15 #[.val (.int p1), .val (.long p2), .second, .val (.long p3), .second, .unset, .unset, .unset, .unset, .unset, .unset, .unset] [(.ref a_SELL)]))
      refine Go.step (fun t_ k_ => XS.astore X27.here hx rfl (hb hby at_15) rfl rfl (l' := #[.val (.int p1), .val (.long p2), .second, .val (.long p3), .second, .val (.ref a_SELL), .unset, .unset, .unset, .unset, .unset, .unset]) rfl k_) ?_
      show Go p e below _ (T27.setTop (mkF m 17 #[.val (.int p1), .val (.long p2), .second, .val (.long p3), .second, .val (.ref a_SELL), .unset, .unset, .unset, .unset, .unset, .unset] []))
      refine Go.step (fun t_ k_ => XS.aload X27.here hx rfl (hb hby at_17) rfl rfl k_) ?_
      show Go p e below _ (T27.setTop (mkF m 19 #[.val (.int p1), .val (.long p2), .second, .val (.long p3), .second, .val (.ref a_SELL), .unset, .unset, .unset, .unset, .unset, .unset] [(.ref a_SELL)]))
      refine Go.step (fun t_ k_ => XS.lloadN X27.here hx rfl (hb hby at_19) rfl k_) ?_
      show Go p e below _ (T27.setTop (mkF m 20 #[.val (.int p1), .val (.long p2), .second, .val (.long p3), .second, .val (.ref a_SELL), .unset, .unset, .unset, .unset, .unset, .unset] [(.long p2), (.ref a_SELL)]))
      refine Go.step (fun t_ k_ => XS.lloadN X27.here hx rfl (hb hby at_20) rfl k_) ?_
      show Go p e below _ (T27.setTop (mkF m 21 #[.val (.int p1), .val (.long p2), .second, .val (.long p3), .second, .val (.ref a_SELL), .unset, .unset, .unset, .unset, .unset, .unset] [(.long p3), (.long p2), (.ref a_SELL)]))
      obtain ⟨cq28, kq28, q28a, q28b, q28c⟩ := isOf hZ e27 (E_SELL.ext Ol.2)
      obtain ⟨_, _, ⟨T28, L28, k28, n28⟩, -, X28, ⟨Lc28, hQ28, l28, y28, z28⟩, st28⟩ := X27.virtualBack hx (y := (⟨"com/example/bracketline/bracketline/Side", "accepts", "(JJ)Z"⟩ : MethodName)) (z := (⟨"com/example/bracketline/bracketline/Side", "accepts", "(JJ)Z"⟩ : MethodName)) hown (mvT hZ (hw _ (List.mem_of_getElem? (i := 3) rfl))) (mvT hZ (hw _ (List.mem_of_getElem? (i := 4) rfl))) (notFace_of_selects (args := #[]) (mvT hZ (hw _ (List.mem_of_getElem? (i := 6) rfl)))) (mvT hZ (hw _ (List.mem_of_getElem? (i := 6) rfl))) (mvT hZ (hw _ (List.mem_of_getElem? (i := 5) rfl))) (by decide) (backOf (W := 0) (rm1 l Z a0 hw [] a_SELL a_BUY HW a_SELL p2 p3 (1 : Int32) h0 n0 Ol (by first | (rw [lw_of_gt h_o]; simp [(Fld.ne F_SELL_ordinal F_BUY_ordinal (by simp)), (Ne.symm (Fld.ne F_SELL_ordinal F_BUY_ordinal (by simp)))]; done) | (rw [lw_of_gt h_o]; done))) hZ (hw _ (List.mem_of_getElem? (i := 7) rfl)) (hw _ (List.mem_of_getElem? (i := 1) rfl)) (by decide) (by decide)) q28a q28c (g := (mkF m 21 #[.val (.int p1), .val (.long p2), .second, .val (.long p3), .second, .val (.ref a_SELL), .unset, .unset, .unset, .unset, .unset, .unset] [(.long p3), (.long p2), (.ref a_SELL)])) rfl (by rw [hml]; rfl) (Steps.refl _) (argsL := [(.long p2), (.long p3)]) (rest := []) (lenOf pd_0 rfl) rfl (by show 2 * 0 + _ ≤ _; exact Nat.le_of_eq rfl) (hb hby at_21) (fun _ _ => ⟨rfl, e27, (by decide : 0 + 0 ≤ _), (by decide : 0 + 0 ≤ _)⟩)
      dsimp only [Pt.U, Pt.locs, Pt.cells, Pt.slots] at X28 l28 y28 z28 st28 hQ28
      subst l28 y28 z28
      obtain ⟨rfl, Nq28, e28⟩ := hQ28
      have N28 := Fr.app N0 Nq28
      refine Go.step (fun t_ k_ => st28.trans k_) ?_
      show Go p e below _ (T28.setTop (mkF m 24 #[.val (.int p1), .val (.long p2), .second, .val (.long p3), .second, .val (.ref a_SELL), .unset, .unset, .unset, .unset, .unset, .unset] [(.int (1 : Int32))]))
      refine Go.step (fun t_ k_ => XS.istore X28.here hx rfl (hb hby at_24) rfl (l' := #[.val (.int p1), .val (.long p2), .second, .val (.long p3), .second, .val (.ref a_SELL), .val (.int (1 : Int32)), .unset, .unset, .unset, .unset, .unset]) rfl k_) ?_
      show Go p e below _ (T28.setTop (mkF m 26 #[.val (.int p1), .val (.long p2), .second, .val (.long p3), .second, .val (.ref a_SELL), .val (.int (1 : Int32)), .unset, .unset, .unset, .unset, .unset] []))
      refine Go.step (fun t_ k_ => XS.lloadN X28.here hx rfl (hb hby at_26) rfl k_) ?_
      show Go p e below _ (T28.setTop (mkF m 27 #[.val (.int p1), .val (.long p2), .second, .val (.long p3), .second, .val (.ref a_SELL), .val (.int (1 : Int32)), .unset, .unset, .unset, .unset, .unset] [(.long p3)]))
      refine Go.step (fun t_ k_ => XS.lloadN X28.here hx rfl (hb hby at_27) rfl k_) ?_
      show Go p e below _ (T28.setTop (mkF m 28 #[.val (.int p1), .val (.long p2), .second, .val (.long p3), .second, .val (.ref a_SELL), .val (.int (1 : Int32)), .unset, .unset, .unset, .unset, .unset] [(.long p2), (.long p3)]))
      refine Go.step (fun t_ k_ => XS.lcmp X28.here hx rfl (hb hby at_28) rfl k_) ?_
      show Go p e below _ (T28.setTop (mkF m 29 #[.val (.int p1), .val (.long p2), .second, .val (.long p3), .second, .val (.ref a_SELL), .val (.int (1 : Int32)), .unset, .unset, .unset, .unset, .unset] [(.int (lcmpW p3 p2))]))
      have hc29 : ¬ ((lcmpW p3 p2) = (0 : Int32)) := by first | (rw [lw_of_gt h_o]; decide) | rw [lw_of_gt h_o]
      refine Go.step (fun t_ k_ => XS.ifYes X28.here hx rfl (pc0 := 29) (pc' := 38) rfl (hb hby at_29) rfl ((if0 _ _).trans (feq hc29).2) (by decide) (by decide) k_) ?_
      show Go p e below _ (T28.setTop (mkF m 38 #[.val (.int p1), .val (.long p2), .second, .val (.long p3), .second, .val (.ref a_SELL), .val (.int (1 : Int32)), .unset, .unset, .unset, .unset, .unset] []))
      refine Go.step (fun t_ k_ => XS.aload X28.here hx rfl (hb hby at_38) rfl rfl k_) ?_
      show Go p e below _ (T28.setTop (mkF m 40 #[.val (.int p1), .val (.long p2), .second, .val (.long p3), .second, .val (.ref a_SELL), .val (.int (1 : Int32)), .unset, .unset, .unset, .unset, .unset] [(.ref a_SELL)]))
      obtain ⟨T29, X29, e29, st29⟩ := getS2 X28 hx hZ hown (host := "") (Or.inl (hw _ (List.mem_of_getElem? (i := 10) rfl))) Via.refl e28 (S_BUY.ext Ol.2) (g := (mkF m 40 #[.val (.int p1), .val (.long p2), .second, .val (.long p3), .second, .val (.ref a_SELL), .val (.int (1 : Int32)), .unset, .unset, .unset, .unset, .unset] [(.ref a_SELL)])) rfl (hb hby at_40)
      refine Go.step st29 ?_
      show Go p e below _ (T29.setTop (mkF m 43 #[.val (.int p1), .val (.long p2), .second, .val (.long p3), .second, .val (.ref a_SELL), .val (.int (1 : Int32)), .unset, .unset, .unset, .unset, .unset] [(.ref a_BUY), (.ref a_SELL)]))
      have ha43 : ¬ (a_SELL = a_BUY) := (Fld.ne F_SELL_ordinal F_BUY_ordinal (by simp))
      refine Go.step (fun t_ k_ => Jvm.RoadKit.acmp (g := (mkF m 43 #[.val (.int p1), .val (.long p2), .second, .val (.long p3), .second, .val (.ref a_SELL), .val (.int (1 : Int32)), .unset, .unset, .unset, .unset, .unset] [(.ref a_BUY), (.ref a_SELL)])) X29 hx rfl rfl rfl (pc0 := 43) (pc' := 62) (same := false) rfl (hb hby at_43) rfl (decide_eq_false fun q => ha43 (Value.ref.inj q)) (by decide) (by decide) k_) ?_
      show Go p e below _ (T29.setTop (mkF m 62 #[.val (.int p1), .val (.long p2), .second, .val (.long p3), .second, .val (.ref a_SELL), .val (.int (1 : Int32)), .unset, .unset, .unset, .unset, .unset] []))
      refine Go.step (fun t_ k_ => XS.lloadN X29.here hx rfl (hb hby at_62) rfl k_) ?_
      show Go p e below _ (T29.setTop (mkF m 63 #[.val (.int p1), .val (.long p2), .second, .val (.long p3), .second, .val (.ref a_SELL), .val (.int (1 : Int32)), .unset, .unset, .unset, .unset, .unset] [(.long p2)]))
      refine Go.step (fun t_ k_ => XS.lloadN X29.here hx rfl (hb hby at_63) rfl k_) ?_
      show Go p e below _ (T29.setTop (mkF m 64 #[.val (.int p1), .val (.long p2), .second, .val (.long p3), .second, .val (.ref a_SELL), .val (.int (1 : Int32)), .unset, .unset, .unset, .unset, .unset] [(.long p3), (.long p2)]))
      refine Go.step (fun t_ k_ => XS.lcmp X29.here hx rfl (hb hby at_64) rfl k_) ?_
      show Go p e below _ (T29.setTop (mkF m 65 #[.val (.int p1), .val (.long p2), .second, .val (.long p3), .second, .val (.ref a_SELL), .val (.int (1 : Int32)), .unset, .unset, .unset, .unset, .unset] [(.int (lcmpW p2 p3))]))
      have hc65 : (lcmpW p2 p3) < (0 : Int32) := by first | (rw [lw_of_lt h_o]; decide) | rw [lw_of_lt h_o]
      refine Go.step (fun t_ k_ => XS.ifNo X29.here hx rfl (hb hby at_65) rfl ((if0 _ _).trans (tlt hc65).2.1) k_) ?_
      show Go p e below _ (T29.setTop (mkF m 68 #[.val (.int p1), .val (.long p2), .second, .val (.long p3), .second, .val (.ref a_SELL), .val (.int (1 : Int32)), .unset, .unset, .unset, .unset, .unset] []))
      refine Go.step (fun t_ k_ => XS.iconst X29.here hx rfl (hb hby at_68) k_) ?_
      show Go p e below _ (T29.setTop (mkF m 69 #[.val (.int p1), .val (.long p2), .second, .val (.long p3), .second, .val (.ref a_SELL), .val (.int (1 : Int32)), .unset, .unset, .unset, .unset, .unset] [(.int (1 : Int32))]))
      refine Go.step (fun t_ k_ => XS.goto X29.here hx rfl (pc0 := 69) (pc' := 73) rfl (hb hby at_69) (by decide) (by decide) k_) ?_
      show Go p e below _ (T29.setTop (mkF m 73 #[.val (.int p1), .val (.long p2), .second, .val (.long p3), .second, .val (.ref a_SELL), .val (.int (1 : Int32)), .unset, .unset, .unset, .unset, .unset] [(.int (1 : Int32))]))
      refine Go.step (fun t_ k_ => XS.istore X29.here hx rfl (hb hby at_73) rfl (l' := #[.val (.int p1), .val (.long p2), .second, .val (.long p3), .second, .val (.ref a_SELL), .val (.int (1 : Int32)), .val (.int (1 : Int32)), .unset, .unset, .unset, .unset]) rfl k_) ?_
      show Go p e below _ (T29.setTop (mkF m 75 #[.val (.int p1), .val (.long p2), .second, .val (.long p3), .second, .val (.ref a_SELL), .val (.int (1 : Int32)), .val (.int (1 : Int32)), .unset, .unset, .unset, .unset] []))
      refine Go.step (fun t_ k_ => XS.aload X29.here hx rfl (hb hby at_75) rfl rfl k_) ?_
      show Go p e below _ (T29.setTop (mkF m 77 #[.val (.int p1), .val (.long p2), .second, .val (.long p3), .second, .val (.ref a_SELL), .val (.int (1 : Int32)), .val (.int (1 : Int32)), .unset, .unset, .unset, .unset] [(.ref a_SELL)]))
      obtain ⟨cq30, kq30, q30a, q30b, q30c⟩ := isOf hZ e29 (E_SELL.ext Ol.2)
      obtain ⟨_, _, ⟨T30, L30, k30, n30⟩, -, X30, ⟨Lc30, hQ30, l30, y30, z30⟩, st30⟩ := X29.virtualBack hx (y := (⟨"com/example/bracketline/bracketline/Side", "opposite", "()Lcom/example/bracketline/bracketline/Side;"⟩ : MethodName)) (z := (⟨"com/example/bracketline/bracketline/Side", "opposite", "()Lcom/example/bracketline/bracketline/Side;"⟩ : MethodName)) hown (mvT hZ (hw _ (List.mem_of_getElem? (i := 11) rfl))) (mvT hZ (hw _ (List.mem_of_getElem? (i := 12) rfl))) (notFace_of_selects (args := #[]) (mvT hZ (hw _ (List.mem_of_getElem? (i := 14) rfl)))) (mvT hZ (hw _ (List.mem_of_getElem? (i := 14) rfl))) (mvT hZ (hw _ (List.mem_of_getElem? (i := 13) rfl))) (by decide) (backOf (W := 0) (rm2 l Z a0 hw [] a_SELL a_BUY HW a_SELL a_BUY h0 n0 Ol (by simp [(Fld.ne F_SELL_ordinal F_BUY_ordinal (by simp)), (Ne.symm (Fld.ne F_SELL_ordinal F_BUY_ordinal (by simp)))])) hZ (hw _ (List.mem_of_getElem? (i := 15) rfl)) (hw _ (List.mem_of_getElem? (i := 1) rfl)) (by decide) (by decide)) q30a q30c (g := (mkF m 77 #[.val (.int p1), .val (.long p2), .second, .val (.long p3), .second, .val (.ref a_SELL), .val (.int (1 : Int32)), .val (.int (1 : Int32)), .unset, .unset, .unset, .unset] [(.ref a_SELL)])) rfl (by rw [hml]; rfl) (Steps.refl _) (argsL := []) (rest := []) (lenOf pd_1 rfl) rfl (by show 2 * 0 + _ ≤ _; exact Nat.le_of_eq rfl) (hb hby at_77) (fun _ _ => ⟨rfl, e29, (by decide : 0 + 0 ≤ _), (by decide : 0 + 0 ≤ _)⟩)
      dsimp only [Pt.U, Pt.locs, Pt.cells, Pt.slots] at X30 l30 y30 z30 st30 hQ30
      subst l30 y30 z30
      obtain ⟨rfl, Nq30, e30⟩ := hQ30
      have N30 := Fr.app N28 Nq30
      refine Go.step (fun t_ k_ => st30.trans k_) ?_
      show Go p e below _ (T30.setTop (mkF m 80 #[.val (.int p1), .val (.long p2), .second, .val (.long p3), .second, .val (.ref a_SELL), .val (.int (1 : Int32)), .val (.int (1 : Int32)), .unset, .unset, .unset, .unset] [(.ref a_BUY)]))
      refine Go.step (fun t_ k_ => XS.lloadN X30.here hx rfl (hb hby at_80) rfl k_) ?_
      show Go p e below _ (T30.setTop (mkF m 81 #[.val (.int p1), .val (.long p2), .second, .val (.long p3), .second, .val (.ref a_SELL), .val (.int (1 : Int32)), .val (.int (1 : Int32)), .unset, .unset, .unset, .unset] [(.long p3), (.ref a_BUY)]))
      refine Go.step (fun t_ k_ => XS.lloadN X30.here hx rfl (hb hby at_81) rfl k_) ?_
      show Go p e below _ (T30.setTop (mkF m 82 #[.val (.int p1), .val (.long p2), .second, .val (.long p3), .second, .val (.ref a_SELL), .val (.int (1 : Int32)), .val (.int (1 : Int32)), .unset, .unset, .unset, .unset] [(.long p2), (.long p3), (.ref a_BUY)]))
      obtain ⟨cq31, kq31, q31a, q31b, q31c⟩ := isOf hZ e30 (E_BUY.ext Ol.2)
      obtain ⟨_, _, ⟨T31, L31, k31, n31⟩, -, X31, ⟨Lc31, hQ31, l31, y31, z31⟩, st31⟩ := X30.virtualBack hx (y := (⟨"com/example/bracketline/bracketline/Side", "accepts", "(JJ)Z"⟩ : MethodName)) (z := (⟨"com/example/bracketline/bracketline/Side", "accepts", "(JJ)Z"⟩ : MethodName)) hown (mvT hZ (hw _ (List.mem_of_getElem? (i := 3) rfl))) (mvT hZ (hw _ (List.mem_of_getElem? (i := 4) rfl))) (notFace_of_selects (args := #[]) (mvT hZ (hw _ (List.mem_of_getElem? (i := 6) rfl)))) (mvT hZ (hw _ (List.mem_of_getElem? (i := 6) rfl))) (mvT hZ (hw _ (List.mem_of_getElem? (i := 5) rfl))) (by decide) (backOf (W := 0) (rm1 l Z a0 hw [] a_SELL a_BUY HW a_BUY p3 p2 (1 : Int32) h0 n0 Ol (by first | (rw [lw_of_lt h_o]; simp [(Fld.ne F_SELL_ordinal F_BUY_ordinal (by simp)), (Ne.symm (Fld.ne F_SELL_ordinal F_BUY_ordinal (by simp)))]; done) | (rw [lw_of_lt h_o]; done))) hZ (hw _ (List.mem_of_getElem? (i := 7) rfl)) (hw _ (List.mem_of_getElem? (i := 1) rfl)) (by decide) (by decide)) q31a q31c (g := (mkF m 82 #[.val (.int p1), .val (.long p2), .second, .val (.long p3), .second, .val (.ref a_SELL), .val (.int (1 : Int32)), .val (.int (1 : Int32)), .unset, .unset, .unset, .unset] [(.long p2), (.long p3), (.ref a_BUY)])) rfl (by rw [hml]; rfl) (Steps.refl _) (argsL := [(.long p3), (.long p2)]) (rest := []) (lenOf pd_0 rfl) rfl (by show 2 * 0 + _ ≤ _; exact Nat.le_of_eq rfl) (hb hby at_82) (fun _ _ => ⟨rfl, e30, (by decide : 0 + 0 ≤ _), (by decide : 0 + 0 ≤ _)⟩)
      dsimp only [Pt.U, Pt.locs, Pt.cells, Pt.slots] at X31 l31 y31 z31 st31 hQ31
      subst l31 y31 z31
      obtain ⟨rfl, Nq31, e31⟩ := hQ31
      have N31 := Fr.app N30 Nq31
      refine Go.step (fun t_ k_ => st31.trans k_) ?_
      show Go p e below _ (T31.setTop (mkF m 85 #[.val (.int p1), .val (.long p2), .second, .val (.long p3), .second, .val (.ref a_SELL), .val (.int (1 : Int32)), .val (.int (1 : Int32)), .unset, .unset, .unset, .unset] [(.int (1 : Int32))]))
      refine Go.step (fun t_ k_ => XS.iload X31.here hx rfl (hb hby at_85) rfl k_) ?_
      show Go p e below _ (T31.setTop (mkF m 87 #[.val (.int p1), .val (.long p2), .second, .val (.long p3), .second, .val (.ref a_SELL), .val (.int (1 : Int32)), .val (.int (1 : Int32)), .unset, .unset, .unset, .unset] [(.int (1 : Int32)), (.int (1 : Int32))]))
      have hc87 : (1 : Int32) = (1 : Int32) := by decide
      refine Go.step (fun t_ k_ => XS.icmpNo X31.here hx rfl (hb hby at_87) rfl (teq hc87).2 k_) ?_
      show Go p e below _ (T31.setTop (mkF m 90 #[.val (.int p1), .val (.long p2), .second, .val (.long p3), .second, .val (.ref a_SELL), .val (.int (1 : Int32)), .val (.int (1 : Int32)), .unset, .unset, .unset, .unset] []))
      refine Go.step (fun t_ k_ => XS.iconst X31.here hx rfl (hb hby at_90) k_) ?_
      show Go p e below _ (T31.setTop (mkF m 91 #[.val (.int p1), .val (.long p2), .second, .val (.long p3), .second, .val (.ref a_SELL), .val (.int (1 : Int32)), .val (.int (1 : Int32)), .unset, .unset, .unset, .unset] [(.int (1 : Int32))]))
      refine Go.step (fun t_ k_ => XS.goto X31.here hx rfl (pc0 := 91) (pc' := 95) rfl (hb hby at_91) (by decide) (by decide) k_) ?_
      show Go p e below _ (T31.setTop (mkF m 95 #[.val (.int p1), .val (.long p2), .second, .val (.long p3), .second, .val (.ref a_SELL), .val (.int (1 : Int32)), .val (.int (1 : Int32)), .unset, .unset, .unset, .unset] [(.int (1 : Int32))]))
      refine Go.step (fun t_ k_ => XS.istore X31.here hx rfl (hb hby at_95) rfl (l' := #[.val (.int p1), .val (.long p2), .second, .val (.long p3), .second, .val (.ref a_SELL), .val (.int (1 : Int32)), .val (.int (1 : Int32)), .val (.int (1 : Int32)), .unset, .unset, .unset]) rfl k_) ?_
      show Go p e below _ (T31.setTop (mkF m 97 #[.val (.int p1), .val (.long p2), .second, .val (.long p3), .second, .val (.ref a_SELL), .val (.int (1 : Int32)), .val (.int (1 : Int32)), .val (.int (1 : Int32)), .unset, .unset, .unset] []))
      refine Go.step (fun t_ k_ => XS.lloadN X31.here hx rfl (hb hby at_97) rfl k_) ?_
      show Go p e below _ (T31.setTop (mkF m 98 #[.val (.int p1), .val (.long p2), .second, .val (.long p3), .second, .val (.ref a_SELL), .val (.int (1 : Int32)), .val (.int (1 : Int32)), .val (.int (1 : Int32)), .unset, .unset, .unset] [(.long p3)]))
      refine Go.step (fun t_ k_ => X31.ldc2Long hx hown (mvT hZ (hw _ (List.mem_of_getElem? (i := 16) rfl))) (g := (mkF m 98 #[.val (.int p1), .val (.long p2), .second, .val (.long p3), .second, .val (.ref a_SELL), .val (.int (1 : Int32)), .val (.int (1 : Int32)), .val (.int (1 : Int32)), .unset, .unset, .unset] [(.long p3)])) rfl (hb hby at_98) _ k_) ?_
      show Go p e below _ (T31.setTop (mkF m 101 #[.val (.int p1), .val (.long p2), .second, .val (.long p3), .second, .val (.ref a_SELL), .val (.int (1 : Int32)), .val (.int (1 : Int32)), .val (.int (1 : Int32)), .unset, .unset, .unset] [(.long (9223372036854775807 : Int64)), (.long p3)]))
      refine Go.step (fun t_ k_ => XS.land X31.here hx rfl (hb hby at_101) rfl k_) ?_
      show Go p e below _ (T31.setTop (mkF m 102 #[.val (.int p1), .val (.long p2), .second, .val (.long p3), .second, .val (.ref a_SELL), .val (.int (1 : Int32)), .val (.int (1 : Int32)), .val (.int (1 : Int32)), .unset, .unset, .unset] [(.long (p3 &&& (9223372036854775807 : Int64)))]))
      refine Go.step (fun t_ k_ => XS.lstore X31.here hx rfl (hb hby at_102) rfl (l' := #[.val (.int p1), .val (.long p2), .second, .val (.long p3), .second, .val (.ref a_SELL), .val (.int (1 : Int32)), .val (.int (1 : Int32)), .val (.int (1 : Int32)), .val (.long (p3 &&& (9223372036854775807 : Int64))), .second, .unset]) rfl k_) ?_
      show Go p e below _ (T31.setTop (mkF m 104 #[.val (.int p1), .val (.long p2), .second, .val (.long p3), .second, .val (.ref a_SELL), .val (.int (1 : Int32)), .val (.int (1 : Int32)), .val (.int (1 : Int32)), .val (.long (p3 &&& (9223372036854775807 : Int64))), .second, .unset] []))
      refine Go.step (fun t_ k_ => XS.aload X31.here hx rfl (hb hby at_104) rfl rfl k_) ?_
      show Go p e below _ (T31.setTop (mkF m 106 #[.val (.int p1), .val (.long p2), .second, .val (.long p3), .second, .val (.ref a_SELL), .val (.int (1 : Int32)), .val (.int (1 : Int32)), .val (.int (1 : Int32)), .val (.long (p3 &&& (9223372036854775807 : Int64))), .second, .unset] [(.ref a_SELL)]))
      refine Go.step (fun t_ k_ => XS.aload X31.here hx rfl (hb hby at_106) rfl rfl k_) ?_
      show Go p e below _ (T31.setTop (mkF m 108 #[.val (.int p1), .val (.long p2), .second, .val (.long p3), .second, .val (.ref a_SELL), .val (.int (1 : Int32)), .val (.int (1 : Int32)), .val (.int (1 : Int32)), .val (.long (p3 &&& (9223372036854775807 : Int64))), .second, .unset] [(.ref a_SELL), (.ref a_SELL)]))
      obtain ⟨cq32, kq32, q32a, q32b, q32c⟩ := isOf hZ e31 (E_SELL.ext Ol.2)
      obtain ⟨_, _, ⟨T32, L32, k32, n32⟩, -, X32, ⟨Lc32, hQ32, l32, y32, z32⟩, st32⟩ := X31.virtualBack hx (y := (⟨"com/example/bracketline/bracketline/Side", "marketLimit", "()J"⟩ : MethodName)) (z := (⟨"com/example/bracketline/bracketline/Side", "marketLimit", "()J"⟩ : MethodName)) hown (mvT hZ (hw _ (List.mem_of_getElem? (i := 17) rfl))) (mvT hZ (hw _ (List.mem_of_getElem? (i := 18) rfl))) (notFace_of_selects (args := #[]) (mvT hZ (hw _ (List.mem_of_getElem? (i := 20) rfl)))) (mvT hZ (hw _ (List.mem_of_getElem? (i := 20) rfl))) (mvT hZ (hw _ (List.mem_of_getElem? (i := 19) rfl))) (by decide) (backOf (W := 1) (rm3 l Z a0 hw [] a_SELL a_BUY HW a_SELL (0 : Int64) h0 n0 Ol F_SELL_marketLimit rfl) hZ (hw _ (List.mem_of_getElem? (i := 21) rfl)) (hw _ (List.mem_of_getElem? (i := 1) rfl)) (by decide) (by decide)) q32a q32c (g := (mkF m 108 #[.val (.int p1), .val (.long p2), .second, .val (.long p3), .second, .val (.ref a_SELL), .val (.int (1 : Int32)), .val (.int (1 : Int32)), .val (.int (1 : Int32)), .val (.long (p3 &&& (9223372036854775807 : Int64))), .second, .unset] [(.ref a_SELL), (.ref a_SELL)])) rfl (by rw [hml]; rfl) (Steps.refl _) (argsL := []) (rest := [(.ref a_SELL)]) (lenOf pd_2 rfl) rfl (by show 2 * 0 + _ ≤ _; exact Nat.le_of_eq rfl) (hb hby at_108) (fun _ _ => ⟨rfl, e31, (by decide : 0 + 0 ≤ _), (by decide : 0 + 0 ≤ _)⟩)
      dsimp only [Pt.U, Pt.locs, Pt.cells, Pt.slots] at X32 l32 y32 z32 st32 hQ32
      subst l32 y32 z32
      obtain ⟨rfl, Nq32, e32⟩ := hQ32
      have N32 := Fr.app N31 Nq32
      refine Go.step (fun t_ k_ => st32.trans k_) ?_
      show Go p e below _ (T32.setTop (mkF m 111 #[.val (.int p1), .val (.long p2), .second, .val (.long p3), .second, .val (.ref a_SELL), .val (.int (1 : Int32)), .val (.int (1 : Int32)), .val (.int (1 : Int32)), .val (.long (p3 &&& (9223372036854775807 : Int64))), .second, .unset] [(.long (0 : Int64)), (.ref a_SELL)]))
      refine Go.step (fun t_ k_ => XS.lload X32.here hx rfl (hb hby at_111) rfl k_) ?_
      show Go p e below _ (T32.setTop (mkF m 113 #[.val (.int p1), .val (.long p2), .second, .val (.long p3), .second, .val (.ref a_SELL), .val (.int (1 : Int32)), .val (.int (1 : Int32)), .val (.int (1 : Int32)), .val (.long (p3 &&& (9223372036854775807 : Int64))), .second, .unset] [(.long (p3 &&& (9223372036854775807 : Int64))), (.long (0 : Int64)), (.ref a_SELL)]))
      obtain ⟨cq33, kq33, q33a, q33b, q33c⟩ := isOf hZ e32 (E_SELL.ext Ol.2)
      obtain ⟨_, _, ⟨T33, L33, k33, n33⟩, -, X33, ⟨Lc33, hQ33, l33, y33, z33⟩, st33⟩ := X32.virtualBack hx (y := (⟨"com/example/bracketline/bracketline/Side", "accepts", "(JJ)Z"⟩ : MethodName)) (z := (⟨"com/example/bracketline/bracketline/Side", "accepts", "(JJ)Z"⟩ : MethodName)) hown (mvT hZ (hw _ (List.mem_of_getElem? (i := 3) rfl))) (mvT hZ (hw _ (List.mem_of_getElem? (i := 4) rfl))) (notFace_of_selects (args := #[]) (mvT hZ (hw _ (List.mem_of_getElem? (i := 6) rfl)))) (mvT hZ (hw _ (List.mem_of_getElem? (i := 6) rfl))) (mvT hZ (hw _ (List.mem_of_getElem? (i := 5) rfl))) (by decide) (backOf (W := 0) (rm1 l Z a0 hw [] a_SELL a_BUY HW a_SELL (0 : Int64) (p3 &&& (9223372036854775807 : Int64)) (1 : Int32) h0 n0 Ol (by simp [mk_nn, (Fld.ne F_SELL_ordinal F_BUY_ordinal (by simp)), (Ne.symm (Fld.ne F_SELL_ordinal F_BUY_ordinal (by simp)))])) hZ (hw _ (List.mem_of_getElem? (i := 7) rfl)) (hw _ (List.mem_of_getElem? (i := 1) rfl)) (by decide) (by decide)) q33a q33c (g := (mkF m 113 #[.val (.int p1), .val (.long p2), .second, .val (.long p3), .second, .val (.ref a_SELL), .val (.int (1 : Int32)), .val (.int (1 : Int32)), .val (.int (1 : Int32)), .val (.long (p3 &&& (9223372036854775807 : Int64))), .second, .unset] [(.long (p3 &&& (9223372036854775807 : Int64))), (.long (0 : Int64)), (.ref a_SELL)])) rfl (by rw [hml]; rfl) (Steps.refl _) (argsL := [(.long (0 : Int64)), (.long (p3 &&& (9223372036854775807 : Int64)))]) (rest := []) (lenOf pd_0 rfl) rfl (by show 2 * 0 + _ ≤ _; exact Nat.le_of_eq rfl) (hb hby at_113) (fun _ _ => ⟨rfl, e32, (by decide : 0 + 0 ≤ _), (by decide : 0 + 0 ≤ _)⟩)
      dsimp only [Pt.U, Pt.locs, Pt.cells, Pt.slots] at X33 l33 y33 z33 st33 hQ33
      subst l33 y33 z33
      obtain ⟨rfl, Nq33, e33⟩ := hQ33
      have N33 := Fr.app N32 Nq33
      refine Go.step (fun t_ k_ => st33.trans k_) ?_
      show Go p e below _ (T33.setTop (mkF m 116 #[.val (.int p1), .val (.long p2), .second, .val (.long p3), .second, .val (.ref a_SELL), .val (.int (1 : Int32)), .val (.int (1 : Int32)), .val (.int (1 : Int32)), .val (.long (p3 &&& (9223372036854775807 : Int64))), .second, .unset] [(.int (1 : Int32))]))
      refine Go.step (fun t_ k_ => XS.istore X33.here hx rfl (hb hby at_116) rfl (l' := #[.val (.int p1), .val (.long p2), .second, .val (.long p3), .second, .val (.ref a_SELL), .val (.int (1 : Int32)), .val (.int (1 : Int32)), .val (.int (1 : Int32)), .val (.long (p3 &&& (9223372036854775807 : Int64))), .second, .val (.int (1 : Int32))]) rfl k_) ?_
      show Go p e below _ (T33.setTop (mkF m 118 #[.val (.int p1), .val (.long p2), .second, .val (.long p3), .second, .val (.ref a_SELL), .val (.int (1 : Int32)), .val (.int (1 : Int32)), .val (.int (1 : Int32)), .val (.long (p3 &&& (9223372036854775807 : Int64))), .second, .val (.int (1 : Int32))] []))
      refine Go.step (fun t_ k_ => XS.iload X33.here hx rfl (hb hby at_118) rfl k_) ?_
      show Go p e below _ (T33.setTop (mkF m 120 #[.val (.int p1), .val (.long p2), .second, .val (.long p3), .second, .val (.ref a_SELL), .val (.int (1 : Int32)), .val (.int (1 : Int32)), .val (.int (1 : Int32)), .val (.long (p3 &&& (9223372036854775807 : Int64))), .second, .val (.int (1 : Int32))] [(.int (1 : Int32))]))
      refine Go.step (fun t_ k_ => XS.iload X33.here hx rfl (hb hby at_120) rfl k_) ?_
      show Go p e below _ (T33.setTop (mkF m 122 #[.val (.int p1), .val (.long p2), .second, .val (.long p3), .second, .val (.ref a_SELL), .val (.int (1 : Int32)), .val (.int (1 : Int32)), .val (.int (1 : Int32)), .val (.long (p3 &&& (9223372036854775807 : Int64))), .second, .val (.int (1 : Int32))] [(.int (1 : Int32)), (.int (1 : Int32))]))
      have hc122 : (1 : Int32) = (1 : Int32) := by decide
      refine Go.step (fun t_ k_ => XS.icmpNo X33.here hx rfl (hb hby at_122) rfl (teq hc122).2 k_) ?_
      show Go p e below _ (T33.setTop (mkF m 125 #[.val (.int p1), .val (.long p2), .second, .val (.long p3), .second, .val (.ref a_SELL), .val (.int (1 : Int32)), .val (.int (1 : Int32)), .val (.int (1 : Int32)), .val (.long (p3 &&& (9223372036854775807 : Int64))), .second, .val (.int (1 : Int32))] []))
      refine Go.step (fun t_ k_ => XS.iload X33.here hx rfl (hb hby at_125) rfl k_) ?_
      show Go p e below _ (T33.setTop (mkF m 127 #[.val (.int p1), .val (.long p2), .second, .val (.long p3), .second, .val (.ref a_SELL), .val (.int (1 : Int32)), .val (.int (1 : Int32)), .val (.int (1 : Int32)), .val (.long (p3 &&& (9223372036854775807 : Int64))), .second, .val (.int (1 : Int32))] [(.int (1 : Int32))]))
      have hc127 : ¬ ((1 : Int32) = (0 : Int32)) := by decide
      refine Go.step (fun t_ k_ => XS.ifNo X33.here hx rfl (hb hby at_127) rfl ((if0 _ _).trans (feq hc127).1) k_) ?_
      show Go p e below _ (T33.setTop (mkF m 130 #[.val (.int p1), .val (.long p2), .second, .val (.long p3), .second, .val (.ref a_SELL), .val (.int (1 : Int32)), .val (.int (1 : Int32)), .val (.int (1 : Int32)), .val (.long (p3 &&& (9223372036854775807 : Int64))), .second, .val (.int (1 : Int32))] []))
      refine Go.step (fun t_ k_ => XS.iload X33.here hx rfl (hb hby at_130) rfl k_) ?_
      show Go p e below _ (T33.setTop (mkF m 132 #[.val (.int p1), .val (.long p2), .second, .val (.long p3), .second, .val (.ref a_SELL), .val (.int (1 : Int32)), .val (.int (1 : Int32)), .val (.int (1 : Int32)), .val (.long (p3 &&& (9223372036854775807 : Int64))), .second, .val (.int (1 : Int32))] [(.int (1 : Int32))]))
      have hc132 : ¬ ((1 : Int32) = (0 : Int32)) := by decide
      refine Go.step (fun t_ k_ => XS.ifNo X33.here hx rfl (hb hby at_132) rfl ((if0 _ _).trans (feq hc132).1) k_) ?_
      show Go p e below _ (T33.setTop (mkF m 135 #[.val (.int p1), .val (.long p2), .second, .val (.long p3), .second, .val (.ref a_SELL), .val (.int (1 : Int32)), .val (.int (1 : Int32)), .val (.int (1 : Int32)), .val (.long (p3 &&& (9223372036854775807 : Int64))), .second, .val (.int (1 : Int32))] []))
      refine Go.step (fun t_ k_ => XS.iconst X33.here hx rfl (hb hby at_135) k_) ?_
      show Go p e below _ (T33.setTop (mkF m 136 #[.val (.int p1), .val (.long p2), .second, .val (.long p3), .second, .val (.ref a_SELL), .val (.int (1 : Int32)), .val (.int (1 : Int32)), .val (.int (1 : Int32)), .val (.long (p3 &&& (9223372036854775807 : Int64))), .second, .val (.int (1 : Int32))] [(.int (1 : Int32))]))
      refine Go.step (fun t_ k_ => XS.goto X33.here hx rfl (pc0 := 136) (pc' := 140) rfl (hb hby at_136) (by decide) (by decide) k_) ?_
      show Go p e below _ (T33.setTop (mkF m 140 #[.val (.int p1), .val (.long p2), .second, .val (.long p3), .second, .val (.ref a_SELL), .val (.int (1 : Int32)), .val (.int (1 : Int32)), .val (.int (1 : Int32)), .val (.long (p3 &&& (9223372036854775807 : Int64))), .second, .val (.int (1 : Int32))] [(.int (1 : Int32))]))
      refine Go.retZ X33 hx (t := .boolean) Bd.returns (by simp) Bd.notSynchronized (hb hby at_140) (by rw [e33]; exact ⟨rfl, N33⟩) (by decide) (by decide)
    case neg =>
      refine Go.step (fun t_ k_ => XS.ifNo X0.here hx rfl (hb hby at_3) rfl ((if0 _ _).trans (feq hc3).1) k_) ?_
      show Go p e below _ (s₁.setTop (mkF m 6 #[.val (.int p1), .val (.long p2), .second, .val (.long p3), .second, .unset, .unset, .unset, .unset, .unset, .unset, .unset] []))
      obtain ⟨T34, X34, e34, st34⟩ := getS2 X0 hx hZ hown (host := "") (Or.inl (hw _ (List.mem_of_getElem? (i := 10) rfl))) Via.refl e0 (S_BUY.ext Ol.2) (g := (mkF m 6 #[.val (.int p1), .val (.long p2), .second, .val (.long p3), .second, .unset, .unset, .unset, .unset, .unset, .unset, .unset] [])) rfl (hb hby at_6)
      refine Go.step st34 ?_
      show Go p e below _ (T34.setTop (mkF m 9 #[.val (.int p1), .val (.long p2), .second, .val (.long p3), .second, .unset, .unset, .unset, .unset, .unset, .unset, .unset] [(.ref a_BUY)]))
      refine Go.step (fun t_ k_ => XS.goto X34.here hx rfl (pc0 := 9) (pc' := 15) rfl (hb hby at_9) (by decide) (by decide) k_) ?_
      show Go p e below _ (T34.setTop (mkF m 15 #[.val (.int p1), .val (.long p2), .second, .val (.long p3), .second, .unset, .unset, .unset, .unset, .unset, .unset, .unset] [(.ref a_BUY)]))
      refine Go.step (fun t_ k_ => XS.astore X34.here hx rfl (hb hby at_15) rfl rfl (l' := #[.val (.int p1), .val (.long p2), .second, .val (.long p3), .second, .val (.ref a_BUY), .unset, .unset, .unset, .unset, .unset, .unset]) rfl k_) ?_
      show Go p e below _ (T34.setTop (mkF m 17 #[.val (.int p1), .val (.long p2), .second, .val (.long p3), .second, .val (.ref a_BUY), .unset, .unset, .unset, .unset, .unset, .unset] []))
      refine Go.step (fun t_ k_ => XS.aload X34.here hx rfl (hb hby at_17) rfl rfl k_) ?_
      show Go p e below _ (T34.setTop (mkF m 19 #[.val (.int p1), .val (.long p2), .second, .val (.long p3), .second, .val (.ref a_BUY), .unset, .unset, .unset, .unset, .unset, .unset] [(.ref a_BUY)]))
      refine Go.step (fun t_ k_ => XS.lloadN X34.here hx rfl (hb hby at_19) rfl k_) ?_
      show Go p e below _ (T34.setTop (mkF m 20 #[.val (.int p1), .val (.long p2), .second, .val (.long p3), .second, .val (.ref a_BUY), .unset, .unset, .unset, .unset, .unset, .unset] [(.long p2), (.ref a_BUY)]))
      refine Go.step (fun t_ k_ => XS.lloadN X34.here hx rfl (hb hby at_20) rfl k_) ?_
      show Go p e below _ (T34.setTop (mkF m 21 #[.val (.int p1), .val (.long p2), .second, .val (.long p3), .second, .val (.ref a_BUY), .unset, .unset, .unset, .unset, .unset, .unset] [(.long p3), (.long p2), (.ref a_BUY)]))
      obtain ⟨cq35, kq35, q35a, q35b, q35c⟩ := isOf hZ e34 (E_BUY.ext Ol.2)
      obtain ⟨_, _, ⟨T35, L35, k35, n35⟩, -, X35, ⟨Lc35, hQ35, l35, y35, z35⟩, st35⟩ := X34.virtualBack hx (y := (⟨"com/example/bracketline/bracketline/Side", "accepts", "(JJ)Z"⟩ : MethodName)) (z := (⟨"com/example/bracketline/bracketline/Side", "accepts", "(JJ)Z"⟩ : MethodName)) hown (mvT hZ (hw _ (List.mem_of_getElem? (i := 3) rfl))) (mvT hZ (hw _ (List.mem_of_getElem? (i := 4) rfl))) (notFace_of_selects (args := #[]) (mvT hZ (hw _ (List.mem_of_getElem? (i := 6) rfl)))) (mvT hZ (hw _ (List.mem_of_getElem? (i := 6) rfl))) (mvT hZ (hw _ (List.mem_of_getElem? (i := 5) rfl))) (by decide) (backOf (W := 0) (rm1 l Z a0 hw [] a_SELL a_BUY HW a_BUY p2 p3 (0 : Int32) h0 n0 Ol (by first | (rw [lw_of_gt h_o]; simp [(Fld.ne F_SELL_ordinal F_BUY_ordinal (by simp)), (Ne.symm (Fld.ne F_SELL_ordinal F_BUY_ordinal (by simp)))]; done) | (rw [lw_of_gt h_o]; done))) hZ (hw _ (List.mem_of_getElem? (i := 7) rfl)) (hw _ (List.mem_of_getElem? (i := 1) rfl)) (by decide) (by decide)) q35a q35c (g := (mkF m 21 #[.val (.int p1), .val (.long p2), .second, .val (.long p3), .second, .val (.ref a_BUY), .unset, .unset, .unset, .unset, .unset, .unset] [(.long p3), (.long p2), (.ref a_BUY)])) rfl (by rw [hml]; rfl) (Steps.refl _) (argsL := [(.long p2), (.long p3)]) (rest := []) (lenOf pd_0 rfl) rfl (by show 2 * 0 + _ ≤ _; exact Nat.le_of_eq rfl) (hb hby at_21) (fun _ _ => ⟨rfl, e34, (by decide : 0 + 0 ≤ _), (by decide : 0 + 0 ≤ _)⟩)
      dsimp only [Pt.U, Pt.locs, Pt.cells, Pt.slots] at X35 l35 y35 z35 st35 hQ35
      subst l35 y35 z35
      obtain ⟨rfl, Nq35, e35⟩ := hQ35
      have N35 := Fr.app N0 Nq35
      refine Go.step (fun t_ k_ => st35.trans k_) ?_
      show Go p e below _ (T35.setTop (mkF m 24 #[.val (.int p1), .val (.long p2), .second, .val (.long p3), .second, .val (.ref a_BUY), .unset, .unset, .unset, .unset, .unset, .unset] [(.int (0 : Int32))]))
      refine Go.step (fun t_ k_ => XS.istore X35.here hx rfl (hb hby at_24) rfl (l' := #[.val (.int p1), .val (.long p2), .second, .val (.long p3), .second, .val (.ref a_BUY), .val (.int (0 : Int32)), .unset, .unset, .unset, .unset, .unset]) rfl k_) ?_
      show Go p e below _ (T35.setTop (mkF m 26 #[.val (.int p1), .val (.long p2), .second, .val (.long p3), .second, .val (.ref a_BUY), .val (.int (0 : Int32)), .unset, .unset, .unset, .unset, .unset] []))
      refine Go.step (fun t_ k_ => XS.lloadN X35.here hx rfl (hb hby at_26) rfl k_) ?_
      show Go p e below _ (T35.setTop (mkF m 27 #[.val (.int p1), .val (.long p2), .second, .val (.long p3), .second, .val (.ref a_BUY), .val (.int (0 : Int32)), .unset, .unset, .unset, .unset, .unset] [(.long p3)]))
      refine Go.step (fun t_ k_ => XS.lloadN X35.here hx rfl (hb hby at_27) rfl k_) ?_
      show Go p e below _ (T35.setTop (mkF m 28 #[.val (.int p1), .val (.long p2), .second, .val (.long p3), .second, .val (.ref a_BUY), .val (.int (0 : Int32)), .unset, .unset, .unset, .unset, .unset] [(.long p2), (.long p3)]))
      refine Go.step (fun t_ k_ => XS.lcmp X35.here hx rfl (hb hby at_28) rfl k_) ?_
      show Go p e below _ (T35.setTop (mkF m 29 #[.val (.int p1), .val (.long p2), .second, .val (.long p3), .second, .val (.ref a_BUY), .val (.int (0 : Int32)), .unset, .unset, .unset, .unset, .unset] [(.int (lcmpW p3 p2))]))
      have hc29 : ¬ ((lcmpW p3 p2) = (0 : Int32)) := by first | (rw [lw_of_gt h_o]; decide) | rw [lw_of_gt h_o]
      refine Go.step (fun t_ k_ => XS.ifYes X35.here hx rfl (pc0 := 29) (pc' := 38) rfl (hb hby at_29) rfl ((if0 _ _).trans (feq hc29).2) (by decide) (by decide) k_) ?_
      show Go p e below _ (T35.setTop (mkF m 38 #[.val (.int p1), .val (.long p2), .second, .val (.long p3), .second, .val (.ref a_BUY), .val (.int (0 : Int32)), .unset, .unset, .unset, .unset, .unset] []))
      refine Go.step (fun t_ k_ => XS.aload X35.here hx rfl (hb hby at_38) rfl rfl k_) ?_
      show Go p e below _ (T35.setTop (mkF m 40 #[.val (.int p1), .val (.long p2), .second, .val (.long p3), .second, .val (.ref a_BUY), .val (.int (0 : Int32)), .unset, .unset, .unset, .unset, .unset] [(.ref a_BUY)]))
      obtain ⟨T36, X36, e36, st36⟩ := getS2 X35 hx hZ hown (host := "") (Or.inl (hw _ (List.mem_of_getElem? (i := 10) rfl))) Via.refl e35 (S_BUY.ext Ol.2) (g := (mkF m 40 #[.val (.int p1), .val (.long p2), .second, .val (.long p3), .second, .val (.ref a_BUY), .val (.int (0 : Int32)), .unset, .unset, .unset, .unset, .unset] [(.ref a_BUY)])) rfl (hb hby at_40)
      refine Go.step st36 ?_
      show Go p e below _ (T36.setTop (mkF m 43 #[.val (.int p1), .val (.long p2), .second, .val (.long p3), .second, .val (.ref a_BUY), .val (.int (0 : Int32)), .unset, .unset, .unset, .unset, .unset] [(.ref a_BUY), (.ref a_BUY)]))
      refine Go.step (fun t_ k_ => Jvm.RoadKit.acmp (g := (mkF m 43 #[.val (.int p1), .val (.long p2), .second, .val (.long p3), .second, .val (.ref a_BUY), .val (.int (0 : Int32)), .unset, .unset, .unset, .unset, .unset] [(.ref a_BUY), (.ref a_BUY)])) X36 hx rfl rfl rfl (pc0 := 43) (pc' := 46) (same := true) rfl (hb hby at_43) rfl (decide_eq_true rfl) (by decide) (by decide) k_) ?_
      show Go p e below _ (T36.setTop (mkF m 46 #[.val (.int p1), .val (.long p2), .second, .val (.long p3), .second, .val (.ref a_BUY), .val (.int (0 : Int32)), .unset, .unset, .unset, .unset, .unset] []))
      refine Go.step (fun t_ k_ => XS.lloadN X36.here hx rfl (hb hby at_46) rfl k_) ?_
      show Go p e below _ (T36.setTop (mkF m 47 #[.val (.int p1), .val (.long p2), .second, .val (.long p3), .second, .val (.ref a_BUY), .val (.int (0 : Int32)), .unset, .unset, .unset, .unset, .unset] [(.long p3)]))
      refine Go.step (fun t_ k_ => XS.lloadN X36.here hx rfl (hb hby at_47) rfl k_) ?_
      show Go p e below _ (T36.setTop (mkF m 48 #[.val (.int p1), .val (.long p2), .second, .val (.long p3), .second, .val (.ref a_BUY), .val (.int (0 : Int32)), .unset, .unset, .unset, .unset, .unset] [(.long p2), (.long p3)]))
      refine Go.step (fun t_ k_ => XS.lcmp X36.here hx rfl (hb hby at_48) rfl k_) ?_
      show Go p e below _ (T36.setTop (mkF m 49 #[.val (.int p1), .val (.long p2), .second, .val (.long p3), .second, .val (.ref a_BUY), .val (.int (0 : Int32)), .unset, .unset, .unset, .unset, .unset] [(.int (lcmpW p3 p2))]))
      have hc49 : ¬ ((lcmpW p3 p2) < (0 : Int32)) := by first | (rw [lw_of_gt h_o]; decide) | rw [lw_of_gt h_o]
      refine Go.step (fun t_ k_ => XS.ifYes X36.here hx rfl (pc0 := 49) (pc' := 56) rfl (hb hby at_49) rfl ((if0 _ _).trans (flt hc49).2.1) (by decide) (by decide) k_) ?_
      show Go p e below _ (T36.setTop (mkF m 56 #[.val (.int p1), .val (.long p2), .second, .val (.long p3), .second, .val (.ref a_BUY), .val (.int (0 : Int32)), .unset, .unset, .unset, .unset, .unset] []))
      refine Go.step (fun t_ k_ => XS.iconst X36.here hx rfl (hb hby at_56) k_) ?_
      show Go p e below _ (T36.setTop (mkF m 57 #[.val (.int p1), .val (.long p2), .second, .val (.long p3), .second, .val (.ref a_BUY), .val (.int (0 : Int32)), .unset, .unset, .unset, .unset, .unset] [(.int (0 : Int32))]))
      refine Go.step (fun t_ k_ => XS.istore X36.here hx rfl (hb hby at_57) rfl (l' := #[.val (.int p1), .val (.long p2), .second, .val (.long p3), .second, .val (.ref a_BUY), .val (.int (0 : Int32)), .val (.int (0 : Int32)), .unset, .unset, .unset, .unset]) rfl k_) ?_
      show Go p e below _ (T36.setTop (mkF m 59 #[.val (.int p1), .val (.long p2), .second, .val (.long p3), .second, .val (.ref a_BUY), .val (.int (0 : Int32)), .val (.int (0 : Int32)), .unset, .unset, .unset, .unset] []))
      refine Go.step (fun t_ k_ => XS.goto X36.here hx rfl (pc0 := 59) (pc' := 75) rfl (hb hby at_59) (by decide) (by decide) k_) ?_
      show Go p e below _ (T36.setTop (mkF m 75 #[.val (.int p1), .val (.long p2), .second, .val (.long p3), .second, .val (.ref a_BUY), .val (.int (0 : Int32)), .val (.int (0 : Int32)), .unset, .unset, .unset, .unset] []))
      refine Go.step (fun t_ k_ => XS.aload X36.here hx rfl (hb hby at_75) rfl rfl k_) ?_
      show Go p e below _ (T36.setTop (mkF m 77 #[.val (.int p1), .val (.long p2), .second, .val (.long p3), .second, .val (.ref a_BUY), .val (.int (0 : Int32)), .val (.int (0 : Int32)), .unset, .unset, .unset, .unset] [(.ref a_BUY)]))
      obtain ⟨cq37, kq37, q37a, q37b, q37c⟩ := isOf hZ e36 (E_BUY.ext Ol.2)
      obtain ⟨_, _, ⟨T37, L37, k37, n37⟩, -, X37, ⟨Lc37, hQ37, l37, y37, z37⟩, st37⟩ := X36.virtualBack hx (y := (⟨"com/example/bracketline/bracketline/Side", "opposite", "()Lcom/example/bracketline/bracketline/Side;"⟩ : MethodName)) (z := (⟨"com/example/bracketline/bracketline/Side", "opposite", "()Lcom/example/bracketline/bracketline/Side;"⟩ : MethodName)) hown (mvT hZ (hw _ (List.mem_of_getElem? (i := 11) rfl))) (mvT hZ (hw _ (List.mem_of_getElem? (i := 12) rfl))) (notFace_of_selects (args := #[]) (mvT hZ (hw _ (List.mem_of_getElem? (i := 14) rfl)))) (mvT hZ (hw _ (List.mem_of_getElem? (i := 14) rfl))) (mvT hZ (hw _ (List.mem_of_getElem? (i := 13) rfl))) (by decide) (backOf (W := 0) (rm2 l Z a0 hw [] a_SELL a_BUY HW a_BUY a_SELL h0 n0 Ol (by simp [(Fld.ne F_SELL_ordinal F_BUY_ordinal (by simp)), (Ne.symm (Fld.ne F_SELL_ordinal F_BUY_ordinal (by simp)))])) hZ (hw _ (List.mem_of_getElem? (i := 15) rfl)) (hw _ (List.mem_of_getElem? (i := 1) rfl)) (by decide) (by decide)) q37a q37c (g := (mkF m 77 #[.val (.int p1), .val (.long p2), .second, .val (.long p3), .second, .val (.ref a_BUY), .val (.int (0 : Int32)), .val (.int (0 : Int32)), .unset, .unset, .unset, .unset] [(.ref a_BUY)])) rfl (by rw [hml]; rfl) (Steps.refl _) (argsL := []) (rest := []) (lenOf pd_1 rfl) rfl (by show 2 * 0 + _ ≤ _; exact Nat.le_of_eq rfl) (hb hby at_77) (fun _ _ => ⟨rfl, e36, (by decide : 0 + 0 ≤ _), (by decide : 0 + 0 ≤ _)⟩)
      dsimp only [Pt.U, Pt.locs, Pt.cells, Pt.slots] at X37 l37 y37 z37 st37 hQ37
      subst l37 y37 z37
      obtain ⟨rfl, Nq37, e37⟩ := hQ37
      have N37 := Fr.app N35 Nq37
      refine Go.step (fun t_ k_ => st37.trans k_) ?_
      show Go p e below _ (T37.setTop (mkF m 80 #[.val (.int p1), .val (.long p2), .second, .val (.long p3), .second, .val (.ref a_BUY), .val (.int (0 : Int32)), .val (.int (0 : Int32)), .unset, .unset, .unset, .unset] [(.ref a_SELL)]))
      refine Go.step (fun t_ k_ => XS.lloadN X37.here hx rfl (hb hby at_80) rfl k_) ?_
      show Go p e below _ (T37.setTop (mkF m 81 #[.val (.int p1), .val (.long p2), .second, .val (.long p3), .second, .val (.ref a_BUY), .val (.int (0 : Int32)), .val (.int (0 : Int32)), .unset, .unset, .unset, .unset] [(.long p3), (.ref a_SELL)]))
      refine Go.step (fun t_ k_ => XS.lloadN X37.here hx rfl (hb hby at_81) rfl k_) ?_
      show Go p e below _ (T37.setTop (mkF m 82 #[.val (.int p1), .val (.long p2), .second, .val (.long p3), .second, .val (.ref a_BUY), .val (.int (0 : Int32)), .val (.int (0 : Int32)), .unset, .unset, .unset, .unset] [(.long p2), (.long p3), (.ref a_SELL)]))
      obtain ⟨cq38, kq38, q38a, q38b, q38c⟩ := isOf hZ e37 (E_SELL.ext Ol.2)
      obtain ⟨_, _, ⟨T38, L38, k38, n38⟩, -, X38, ⟨Lc38, hQ38, l38, y38, z38⟩, st38⟩ := X37.virtualBack hx (y := (⟨"com/example/bracketline/bracketline/Side", "accepts", "(JJ)Z"⟩ : MethodName)) (z := (⟨"com/example/bracketline/bracketline/Side", "accepts", "(JJ)Z"⟩ : MethodName)) hown (mvT hZ (hw _ (List.mem_of_getElem? (i := 3) rfl))) (mvT hZ (hw _ (List.mem_of_getElem? (i := 4) rfl))) (notFace_of_selects (args := #[]) (mvT hZ (hw _ (List.mem_of_getElem? (i := 6) rfl)))) (mvT hZ (hw _ (List.mem_of_getElem? (i := 6) rfl))) (mvT hZ (hw _ (List.mem_of_getElem? (i := 5) rfl))) (by decide) (backOf (W := 0) (rm1 l Z a0 hw [] a_SELL a_BUY HW a_SELL p3 p2 (0 : Int32) h0 n0 Ol (by first | (rw [lw_of_lt h_o]; simp [(Fld.ne F_SELL_ordinal F_BUY_ordinal (by simp)), (Ne.symm (Fld.ne F_SELL_ordinal F_BUY_ordinal (by simp)))]; done) | (rw [lw_of_lt h_o]; done))) hZ (hw _ (List.mem_of_getElem? (i := 7) rfl)) (hw _ (List.mem_of_getElem? (i := 1) rfl)) (by decide) (by decide)) q38a q38c (g := (mkF m 82 #[.val (.int p1), .val (.long p2), .second, .val (.long p3), .second, .val (.ref a_BUY), .val (.int (0 : Int32)), .val (.int (0 : Int32)), .unset, .unset, .unset, .unset] [(.long p2), (.long p3), (.ref a_SELL)])) rfl (by rw [hml]; rfl) (Steps.refl _) (argsL := [(.long p3), (.long p2)]) (rest := []) (lenOf pd_0 rfl) rfl (by show 2 * 0 + _ ≤ _; exact Nat.le_of_eq rfl) (hb hby at_82) (fun _ _ => ⟨rfl, e37, (by decide : 0 + 0 ≤ _), (by decide : 0 + 0 ≤ _)⟩)
      dsimp only [Pt.U, Pt.locs, Pt.cells, Pt.slots] at X38 l38 y38 z38 st38 hQ38
      subst l38 y38 z38
      obtain ⟨rfl, Nq38, e38⟩ := hQ38
      have N38 := Fr.app N37 Nq38
      refine Go.step (fun t_ k_ => st38.trans k_) ?_
      show Go p e below _ (T38.setTop (mkF m 85 #[.val (.int p1), .val (.long p2), .second, .val (.long p3), .second, .val (.ref a_BUY), .val (.int (0 : Int32)), .val (.int (0 : Int32)), .unset, .unset, .unset, .unset] [(.int (0 : Int32))]))
      refine Go.step (fun t_ k_ => XS.iload X38.here hx rfl (hb hby at_85) rfl k_) ?_
      show Go p e below _ (T38.setTop (mkF m 87 #[.val (.int p1), .val (.long p2), .second, .val (.long p3), .second, .val (.ref a_BUY), .val (.int (0 : Int32)), .val (.int (0 : Int32)), .unset, .unset, .unset, .unset] [(.int (0 : Int32)), (.int (0 : Int32))]))
      have hc87 : (0 : Int32) = (0 : Int32) := by decide
      refine Go.step (fun t_ k_ => XS.icmpNo X38.here hx rfl (hb hby at_87) rfl (teq hc87).2 k_) ?_
      show Go p e below _ (T38.setTop (mkF m 90 #[.val (.int p1), .val (.long p2), .second, .val (.long p3), .second, .val (.ref a_BUY), .val (.int (0 : Int32)), .val (.int (0 : Int32)), .unset, .unset, .unset, .unset] []))
      refine Go.step (fun t_ k_ => XS.iconst X38.here hx rfl (hb hby at_90) k_) ?_
      show Go p e below _ (T38.setTop (mkF m 91 #[.val (.int p1), .val (.long p2), .second, .val (.long p3), .second, .val (.ref a_BUY), .val (.int (0 : Int32)), .val (.int (0 : Int32)), .unset, .unset, .unset, .unset] [(.int (1 : Int32))]))
      refine Go.step (fun t_ k_ => XS.goto X38.here hx rfl (pc0 := 91) (pc' := 95) rfl (hb hby at_91) (by decide) (by decide) k_) ?_
      show Go p e below _ (T38.setTop (mkF m 95 #[.val (.int p1), .val (.long p2), .second, .val (.long p3), .second, .val (.ref a_BUY), .val (.int (0 : Int32)), .val (.int (0 : Int32)), .unset, .unset, .unset, .unset] [(.int (1 : Int32))]))
      refine Go.step (fun t_ k_ => XS.istore X38.here hx rfl (hb hby at_95) rfl (l' := #[.val (.int p1), .val (.long p2), .second, .val (.long p3), .second, .val (.ref a_BUY), .val (.int (0 : Int32)), .val (.int (0 : Int32)), .val (.int (1 : Int32)), .unset, .unset, .unset]) rfl k_) ?_
      show Go p e below _ (T38.setTop (mkF m 97 #[.val (.int p1), .val (.long p2), .second, .val (.long p3), .second, .val (.ref a_BUY), .val (.int (0 : Int32)), .val (.int (0 : Int32)), .val (.int (1 : Int32)), .unset, .unset, .unset] []))
      refine Go.step (fun t_ k_ => XS.lloadN X38.here hx rfl (hb hby at_97) rfl k_) ?_
      show Go p e below _ (T38.setTop (mkF m 98 #[.val (.int p1), .val (.long p2), .second, .val (.long p3), .second, .val (.ref a_BUY), .val (.int (0 : Int32)), .val (.int (0 : Int32)), .val (.int (1 : Int32)), .unset, .unset, .unset] [(.long p3)]))
      refine Go.step (fun t_ k_ => X38.ldc2Long hx hown (mvT hZ (hw _ (List.mem_of_getElem? (i := 16) rfl))) (g := (mkF m 98 #[.val (.int p1), .val (.long p2), .second, .val (.long p3), .second, .val (.ref a_BUY), .val (.int (0 : Int32)), .val (.int (0 : Int32)), .val (.int (1 : Int32)), .unset, .unset, .unset] [(.long p3)])) rfl (hb hby at_98) _ k_) ?_
      show Go p e below _ (T38.setTop (mkF m 101 #[.val (.int p1), .val (.long p2), .second, .val (.long p3), .second, .val (.ref a_BUY), .val (.int (0 : Int32)), .val (.int (0 : Int32)), .val (.int (1 : Int32)), .unset, .unset, .unset] [(.long (9223372036854775807 : Int64)), (.long p3)]))
      refine Go.step (fun t_ k_ => XS.land X38.here hx rfl (hb hby at_101) rfl k_) ?_
      show Go p e below _ (T38.setTop (mkF m 102 #[.val (.int p1), .val (.long p2), .second, .val (.long p3), .second, .val (.ref a_BUY), .val (.int (0 : Int32)), .val (.int (0 : Int32)), .val (.int (1 : Int32)), .unset, .unset, .unset] [(.long (p3 &&& (9223372036854775807 : Int64)))]))
      refine Go.step (fun t_ k_ => XS.lstore X38.here hx rfl (hb hby at_102) rfl (l' := #[.val (.int p1), .val (.long p2), .second, .val (.long p3), .second, .val (.ref a_BUY), .val (.int (0 : Int32)), .val (.int (0 : Int32)), .val (.int (1 : Int32)), .val (.long (p3 &&& (9223372036854775807 : Int64))), .second, .unset]) rfl k_) ?_
      show Go p e below _ (T38.setTop (mkF m 104 #[.val (.int p1), .val (.long p2), .second, .val (.long p3), .second, .val (.ref a_BUY), .val (.int (0 : Int32)), .val (.int (0 : Int32)), .val (.int (1 : Int32)), .val (.long (p3 &&& (9223372036854775807 : Int64))), .second, .unset] []))
      refine Go.step (fun t_ k_ => XS.aload X38.here hx rfl (hb hby at_104) rfl rfl k_) ?_
      show Go p e below _ (T38.setTop (mkF m 106 #[.val (.int p1), .val (.long p2), .second, .val (.long p3), .second, .val (.ref a_BUY), .val (.int (0 : Int32)), .val (.int (0 : Int32)), .val (.int (1 : Int32)), .val (.long (p3 &&& (9223372036854775807 : Int64))), .second, .unset] [(.ref a_BUY)]))
      refine Go.step (fun t_ k_ => XS.aload X38.here hx rfl (hb hby at_106) rfl rfl k_) ?_
      show Go p e below _ (T38.setTop (mkF m 108 #[.val (.int p1), .val (.long p2), .second, .val (.long p3), .second, .val (.ref a_BUY), .val (.int (0 : Int32)), .val (.int (0 : Int32)), .val (.int (1 : Int32)), .val (.long (p3 &&& (9223372036854775807 : Int64))), .second, .unset] [(.ref a_BUY), (.ref a_BUY)]))
      obtain ⟨cq39, kq39, q39a, q39b, q39c⟩ := isOf hZ e38 (E_BUY.ext Ol.2)
      obtain ⟨_, _, ⟨T39, L39, k39, n39⟩, -, X39, ⟨Lc39, hQ39, l39, y39, z39⟩, st39⟩ := X38.virtualBack hx (y := (⟨"com/example/bracketline/bracketline/Side", "marketLimit", "()J"⟩ : MethodName)) (z := (⟨"com/example/bracketline/bracketline/Side", "marketLimit", "()J"⟩ : MethodName)) hown (mvT hZ (hw _ (List.mem_of_getElem? (i := 17) rfl))) (mvT hZ (hw _ (List.mem_of_getElem? (i := 18) rfl))) (notFace_of_selects (args := #[]) (mvT hZ (hw _ (List.mem_of_getElem? (i := 20) rfl)))) (mvT hZ (hw _ (List.mem_of_getElem? (i := 20) rfl))) (mvT hZ (hw _ (List.mem_of_getElem? (i := 19) rfl))) (by decide) (backOf (W := 1) (rm3 l Z a0 hw [] a_SELL a_BUY HW a_BUY (9223372036854775807 : Int64) h0 n0 Ol F_BUY_marketLimit rfl) hZ (hw _ (List.mem_of_getElem? (i := 21) rfl)) (hw _ (List.mem_of_getElem? (i := 1) rfl)) (by decide) (by decide)) q39a q39c (g := (mkF m 108 #[.val (.int p1), .val (.long p2), .second, .val (.long p3), .second, .val (.ref a_BUY), .val (.int (0 : Int32)), .val (.int (0 : Int32)), .val (.int (1 : Int32)), .val (.long (p3 &&& (9223372036854775807 : Int64))), .second, .unset] [(.ref a_BUY), (.ref a_BUY)])) rfl (by rw [hml]; rfl) (Steps.refl _) (argsL := []) (rest := [(.ref a_BUY)]) (lenOf pd_2 rfl) rfl (by show 2 * 0 + _ ≤ _; exact Nat.le_of_eq rfl) (hb hby at_108) (fun _ _ => ⟨rfl, e38, (by decide : 0 + 0 ≤ _), (by decide : 0 + 0 ≤ _)⟩)
      dsimp only [Pt.U, Pt.locs, Pt.cells, Pt.slots] at X39 l39 y39 z39 st39 hQ39
      subst l39 y39 z39
      obtain ⟨rfl, Nq39, e39⟩ := hQ39
      have N39 := Fr.app N38 Nq39
      refine Go.step (fun t_ k_ => st39.trans k_) ?_
      show Go p e below _ (T39.setTop (mkF m 111 #[.val (.int p1), .val (.long p2), .second, .val (.long p3), .second, .val (.ref a_BUY), .val (.int (0 : Int32)), .val (.int (0 : Int32)), .val (.int (1 : Int32)), .val (.long (p3 &&& (9223372036854775807 : Int64))), .second, .unset] [(.long (9223372036854775807 : Int64)), (.ref a_BUY)]))
      refine Go.step (fun t_ k_ => XS.lload X39.here hx rfl (hb hby at_111) rfl k_) ?_
      show Go p e below _ (T39.setTop (mkF m 113 #[.val (.int p1), .val (.long p2), .second, .val (.long p3), .second, .val (.ref a_BUY), .val (.int (0 : Int32)), .val (.int (0 : Int32)), .val (.int (1 : Int32)), .val (.long (p3 &&& (9223372036854775807 : Int64))), .second, .unset] [(.long (p3 &&& (9223372036854775807 : Int64))), (.long (9223372036854775807 : Int64)), (.ref a_BUY)]))
      obtain ⟨cq40, kq40, q40a, q40b, q40c⟩ := isOf hZ e39 (E_BUY.ext Ol.2)
      obtain ⟨_, _, ⟨T40, L40, k40, n40⟩, -, X40, ⟨Lc40, hQ40, l40, y40, z40⟩, st40⟩ := X39.virtualBack hx (y := (⟨"com/example/bracketline/bracketline/Side", "accepts", "(JJ)Z"⟩ : MethodName)) (z := (⟨"com/example/bracketline/bracketline/Side", "accepts", "(JJ)Z"⟩ : MethodName)) hown (mvT hZ (hw _ (List.mem_of_getElem? (i := 3) rfl))) (mvT hZ (hw _ (List.mem_of_getElem? (i := 4) rfl))) (notFace_of_selects (args := #[]) (mvT hZ (hw _ (List.mem_of_getElem? (i := 6) rfl)))) (mvT hZ (hw _ (List.mem_of_getElem? (i := 6) rfl))) (mvT hZ (hw _ (List.mem_of_getElem? (i := 5) rfl))) (by decide) (backOf (W := 0) (rm1 l Z a0 hw [] a_SELL a_BUY HW a_BUY (9223372036854775807 : Int64) (p3 &&& (9223372036854775807 : Int64)) (1 : Int32) h0 n0 Ol (by simp [mk_le, (Fld.ne F_SELL_ordinal F_BUY_ordinal (by simp)), (Ne.symm (Fld.ne F_SELL_ordinal F_BUY_ordinal (by simp)))])) hZ (hw _ (List.mem_of_getElem? (i := 7) rfl)) (hw _ (List.mem_of_getElem? (i := 1) rfl)) (by decide) (by decide)) q40a q40c (g := (mkF m 113 #[.val (.int p1), .val (.long p2), .second, .val (.long p3), .second, .val (.ref a_BUY), .val (.int (0 : Int32)), .val (.int (0 : Int32)), .val (.int (1 : Int32)), .val (.long (p3 &&& (9223372036854775807 : Int64))), .second, .unset] [(.long (p3 &&& (9223372036854775807 : Int64))), (.long (9223372036854775807 : Int64)), (.ref a_BUY)])) rfl (by rw [hml]; rfl) (Steps.refl _) (argsL := [(.long (9223372036854775807 : Int64)), (.long (p3 &&& (9223372036854775807 : Int64)))]) (rest := []) (lenOf pd_0 rfl) rfl (by show 2 * 0 + _ ≤ _; exact Nat.le_of_eq rfl) (hb hby at_113) (fun _ _ => ⟨rfl, e39, (by decide : 0 + 0 ≤ _), (by decide : 0 + 0 ≤ _)⟩)
      dsimp only [Pt.U, Pt.locs, Pt.cells, Pt.slots] at X40 l40 y40 z40 st40 hQ40
      subst l40 y40 z40
      obtain ⟨rfl, Nq40, e40⟩ := hQ40
      have N40 := Fr.app N39 Nq40
      refine Go.step (fun t_ k_ => st40.trans k_) ?_
      show Go p e below _ (T40.setTop (mkF m 116 #[.val (.int p1), .val (.long p2), .second, .val (.long p3), .second, .val (.ref a_BUY), .val (.int (0 : Int32)), .val (.int (0 : Int32)), .val (.int (1 : Int32)), .val (.long (p3 &&& (9223372036854775807 : Int64))), .second, .unset] [(.int (1 : Int32))]))
      refine Go.step (fun t_ k_ => XS.istore X40.here hx rfl (hb hby at_116) rfl (l' := #[.val (.int p1), .val (.long p2), .second, .val (.long p3), .second, .val (.ref a_BUY), .val (.int (0 : Int32)), .val (.int (0 : Int32)), .val (.int (1 : Int32)), .val (.long (p3 &&& (9223372036854775807 : Int64))), .second, .val (.int (1 : Int32))]) rfl k_) ?_
      show Go p e below _ (T40.setTop (mkF m 118 #[.val (.int p1), .val (.long p2), .second, .val (.long p3), .second, .val (.ref a_BUY), .val (.int (0 : Int32)), .val (.int (0 : Int32)), .val (.int (1 : Int32)), .val (.long (p3 &&& (9223372036854775807 : Int64))), .second, .val (.int (1 : Int32))] []))
      refine Go.step (fun t_ k_ => XS.iload X40.here hx rfl (hb hby at_118) rfl k_) ?_
      show Go p e below _ (T40.setTop (mkF m 120 #[.val (.int p1), .val (.long p2), .second, .val (.long p3), .second, .val (.ref a_BUY), .val (.int (0 : Int32)), .val (.int (0 : Int32)), .val (.int (1 : Int32)), .val (.long (p3 &&& (9223372036854775807 : Int64))), .second, .val (.int (1 : Int32))] [(.int (0 : Int32))]))
      refine Go.step (fun t_ k_ => XS.iload X40.here hx rfl (hb hby at_120) rfl k_) ?_
      show Go p e below _ (T40.setTop (mkF m 122 #[.val (.int p1), .val (.long p2), .second, .val (.long p3), .second, .val (.ref a_BUY), .val (.int (0 : Int32)), .val (.int (0 : Int32)), .val (.int (1 : Int32)), .val (.long (p3 &&& (9223372036854775807 : Int64))), .second, .val (.int (1 : Int32))] [(.int (0 : Int32)), (.int (0 : Int32))]))
      have hc122 : (0 : Int32) = (0 : Int32) := by decide
      refine Go.step (fun t_ k_ => XS.icmpNo X40.here hx rfl (hb hby at_122) rfl (teq hc122).2 k_) ?_
      show Go p e below _ (T40.setTop (mkF m 125 #[.val (.int p1), .val (.long p2), .second, .val (.long p3), .second, .val (.ref a_BUY), .val (.int (0 : Int32)), .val (.int (0 : Int32)), .val (.int (1 : Int32)), .val (.long (p3 &&& (9223372036854775807 : Int64))), .second, .val (.int (1 : Int32))] []))
      refine Go.step (fun t_ k_ => XS.iload X40.here hx rfl (hb hby at_125) rfl k_) ?_
      show Go p e below _ (T40.setTop (mkF m 127 #[.val (.int p1), .val (.long p2), .second, .val (.long p3), .second, .val (.ref a_BUY), .val (.int (0 : Int32)), .val (.int (0 : Int32)), .val (.int (1 : Int32)), .val (.long (p3 &&& (9223372036854775807 : Int64))), .second, .val (.int (1 : Int32))] [(.int (1 : Int32))]))
      have hc127 : ¬ ((1 : Int32) = (0 : Int32)) := by decide
      refine Go.step (fun t_ k_ => XS.ifNo X40.here hx rfl (hb hby at_127) rfl ((if0 _ _).trans (feq hc127).1) k_) ?_
      show Go p e below _ (T40.setTop (mkF m 130 #[.val (.int p1), .val (.long p2), .second, .val (.long p3), .second, .val (.ref a_BUY), .val (.int (0 : Int32)), .val (.int (0 : Int32)), .val (.int (1 : Int32)), .val (.long (p3 &&& (9223372036854775807 : Int64))), .second, .val (.int (1 : Int32))] []))
      refine Go.step (fun t_ k_ => XS.iload X40.here hx rfl (hb hby at_130) rfl k_) ?_
      show Go p e below _ (T40.setTop (mkF m 132 #[.val (.int p1), .val (.long p2), .second, .val (.long p3), .second, .val (.ref a_BUY), .val (.int (0 : Int32)), .val (.int (0 : Int32)), .val (.int (1 : Int32)), .val (.long (p3 &&& (9223372036854775807 : Int64))), .second, .val (.int (1 : Int32))] [(.int (1 : Int32))]))
      have hc132 : ¬ ((1 : Int32) = (0 : Int32)) := by decide
      refine Go.step (fun t_ k_ => XS.ifNo X40.here hx rfl (hb hby at_132) rfl ((if0 _ _).trans (feq hc132).1) k_) ?_
      show Go p e below _ (T40.setTop (mkF m 135 #[.val (.int p1), .val (.long p2), .second, .val (.long p3), .second, .val (.ref a_BUY), .val (.int (0 : Int32)), .val (.int (0 : Int32)), .val (.int (1 : Int32)), .val (.long (p3 &&& (9223372036854775807 : Int64))), .second, .val (.int (1 : Int32))] []))
      refine Go.step (fun t_ k_ => XS.iconst X40.here hx rfl (hb hby at_135) k_) ?_
      show Go p e below _ (T40.setTop (mkF m 136 #[.val (.int p1), .val (.long p2), .second, .val (.long p3), .second, .val (.ref a_BUY), .val (.int (0 : Int32)), .val (.int (0 : Int32)), .val (.int (1 : Int32)), .val (.long (p3 &&& (9223372036854775807 : Int64))), .second, .val (.int (1 : Int32))] [(.int (1 : Int32))]))
      refine Go.step (fun t_ k_ => XS.goto X40.here hx rfl (pc0 := 136) (pc' := 140) rfl (hb hby at_136) (by decide) (by decide) k_) ?_
      show Go p e below _ (T40.setTop (mkF m 140 #[.val (.int p1), .val (.long p2), .second, .val (.long p3), .second, .val (.ref a_BUY), .val (.int (0 : Int32)), .val (.int (0 : Int32)), .val (.int (1 : Int32)), .val (.long (p3 &&& (9223372036854775807 : Int64))), .second, .val (.int (1 : Int32))] [(.int (1 : Int32))]))
      refine Go.retZ X40 hx (t := .boolean) Bd.returns (by simp) Bd.notSynchronized (hb hby at_140) (by rw [e40]; exact ⟨rfl, N40⟩) (by decide) (by decide)
set_option maxRecDepth 65536 in
set_option maxHeartbeats 40000000 in
theorem comes_1 {Post : Tables → Env → Array Value → State → Outcome → State → Prop} (hpost : ∀ tb e args s v u, (limb_1_1.after args s (.returned v) u = true ∧ limb_1_2.after args s (.returned v) u = true ∧ True) → FrameEnd s (.returned v) u (Jvm.fieldLocs frame_1_writes args s ++ Jvm.arrayLocs frame_1_arrays args s ++ Jvm.staticLocs frame_1_statics s) 0 0 → Post tb e args s (.returned v) u) :
    ArmFor flags0 classFile x code maxLocals ret World_1 tables_1 room_1 Calls_1 rest_1 Pre_1 Post := by
  intro l hfl _ _ p e ha hc hk s m args below hf hA hF happ hP
  obtain ⟨hcalls, hrest, hpre⟩ := hP
  obtain ⟨-, -, -, hnamed, -, -, -, hat⟩ := (Spec.applies_iff hf).mp happ
  obtain ⟨hg, hn⟩ := and_e (Cond.before_iff.mp (show (Jvm.Cond.and given_1 narrow_1).before args s = true from hpre))
  obtain ⟨hgl, hgr⟩ := and_e hg
  obtain ⟨hgrl, hgrr⟩ := and_e hgr
  obtain ⟨hgrrl, hgrrr⟩ := and_e hgrr
  obtain ⟨w0, w1, w2, rfl⟩ : ∃ w0 w1 w2 : Value, args = #[w0, w1, w2] := by
    have hs : args.size = 3 := by simpa [Cond.value, given_1] using hgl
    obtain ⟨L⟩ := args
    match L, hs with
    | [w0, w1, w2], _ => exact ⟨w0, w1, w2, rfl⟩
  have hw := fun d (hd : d ∈ tables_1) => atoms_spec (ws := Jvm.Cond.code x code maxLocals ret :: tables_1) hat d (List.mem_cons_of_mem _ hd)
  have hfit : Fit s := fun {y c} hc i hi => by
    obtain ⟨ha, rfl⟩ := Array.getElem?_eq_some_iff.mp hc
    have q := List.all_eq_true.mp ((Array.all_eq_true_iff_forall_mem.mp hF) _ (Array.getElem_mem ha)) i (List.mem_range.mpr hi)
    simpa [Array.getElem?_eq_getElem hi] using q
  obtain ⟨i0, ei0⟩ := is_v hgrl
  obtain rfl : w0 = (.int i0) := Option.some.inj ei0
  obtain ⟨i1, ei1⟩ := isL_v hgrrl
  obtain rfl : w1 = (.long i1) := Option.some.inj ei1
  obtain ⟨i2, ei2⟩ := isL_v hgrrr
  obtain rfl : w2 = (.long i2) := Option.some.inj ei2
  obtain ⟨hnl, hnr⟩ := and_e hn
  obtain ⟨hnrl, hnrr⟩ := and_e hnr
  obtain ⟨hnrrl, hnrrr⟩ := and_e hnrr
  obtain ⟨hnrrrl, hnrrrr⟩ := and_e hnrrr
  obtain ⟨hnrrrrl, hnrrrrr⟩ := and_e hnrrrr
  obtain ⟨a_SELL, ev_SELL⟩ := exa_v hnl
  obtain ⟨a_BUY, ev_BUY⟩ := exa_v hnrl
  have HW : Wd s a_SELL a_BUY := ⟨Sta.start ev_SELL (Or.inr ⟨(hw _ (List.mem_of_getElem? (i := 1) rfl)), (hw _ (List.mem_of_getElem? (i := 2) rfl))⟩), Exa.start ev_SELL hnl, Sta.start ev_BUY (Or.inr ⟨(hw _ (List.mem_of_getElem? (i := 1) rfl)), (hw _ (List.mem_of_getElem? (i := 9) rfl))⟩), Exa.start ev_BUY hnrl, Fld.start ((fld_at ev_SELL).symm.trans (eq_int hnrrl)), Fld.start ((fld_at ev_BUY).symm.trans (eq_int hnrrrl)), Fld.start ((fld_at ev_SELL).symm.trans (eq_long hnrrrrl)), Fld.start ((fld_at ev_BUY).symm.trans (eq_long hnrrrrr))⟩
  obtain ⟨n, o, h1, h2, h3, _, L, rfl, ⟨rfl, N⟩, hq⟩ := rm0 l s _ hw tables_1 a_SELL a_BUY HW i0 i1 i2 s.heap s.heap.size (Old.start s)  p e ha hc hk s m _ below hf ((Spec.applies_iff_loose hf).mp happ).1 ⟨rfl, State.Warmed39.refl s, rfl⟩ trivial
  refine ⟨n, _, h1, h2, h3, hpost _ _ _ _ _ _ ⟨Cond.after_iff.mpr rfl, Cond.after_iff.mpr (eq_i res_at (Term.int_eval (1)) rfl), trivial⟩ ⟨hq.1, hq.2.1, (hq.2.2.sift fun y hy => Or.inr (N y hy)).mono (by decide) (by decide)⟩⟩
theorem main_1_1 : Claimed_1_1 := comes_1 fun _ _ _ _ _ _ h hF => ⟨h.1, hF⟩
theorem main_1_2 : Claimed_1_2 := comes_1 fun _ _ _ _ _ _ h hF => ⟨h.2.1, hF⟩
end Jvm.Pilot.@@N@@
namespace Jvm.Pilot.@@N@@
open Jvm Jvm.ClassFile Sem Op Lib Jvm.Free Jvm.Stand Jvm.Pilot.@@N@@.Jvm.D
/-! MADE BY PROGRAM (witnessworld.py) out of the Statement's table words and the real class files: 12 classes; the members and pool entries that the words name. The judged class is class 1, her method 1. -/
namespace start1
open Jvm.ClassFile
def u (s : String) : CpInfo := .utf8 (stringToUtf16 s)
/-- a pool by its gaps: so many unusable entries, then the entry; so many at the end -/
def gap : Nat → List CpInfo → List CpInfo
  | 0, r => r
  | n + 1, r => .unusable :: gap n r
def poolList (es : List (Nat × CpInfo)) (last : Nat) : List CpInfo := es.foldr (fun e r => gap e.1 (e.2 :: r)) (gap last [])
def pool (es : List (Nat × CpInfo)) (last : Nat) : Array CpInfo := ⟨poolList es last⟩
def fileOf (pool : Array CpInfo) (this : Nat) (attrs : Array Attribute := #[]) (ms : Array MethodInfo := #[]) (fl : Nat := 33) (sup : Nat := 0) (ifs : Array Nat := #[]) (fds : Array FieldInfo := #[]) : ClassFile where
  minorVersion := 0
  majorVersion := 65
  constantPool := pool
  accessFlags := fl
  thisClass := this
  superClass := sup
  interfaces := ifs
  fields := fds
  methods := ms
  attributes := attrs
def plain (name : String) (sup : Option ClassId) : Class where
  name := name
  kind := .ordinary
  loader := none
  accessFlags := 33
  super := sup
  interfaces := #[]
  cf := none
  fields := #[]
  methods := #[]
  instanceTypes := #[]
  staticTypes := #[]
  resolved := #[]
  callSites := []
  init := .initialized
  statics := none
  mirror := none

def pool0 : Array CpInfo := pool [(5, u "<init>"), (0, u "()V"), (1, .class_ 10), (1, u "java/lang/Object")] 113

def k0m0 : Method := { name := "<init>", desc := "()V", sig := { parameters := [], returnType := none }, accessFlags := 1, code := none }
/-- java/lang/Object -/
def k0 : Class := { plain "java/lang/Object" none with
  accessFlags := 33
  interfaces := #[]
  cf := some (fileOf pool0 8 #[] #[{ accessFlags := 1, nameIndex := 5, descriptorIndex := 6, attributes := #[] }] 33 0 #[] #[])
  fields := #[]
  methods := #[k0m0]
  instanceTypes := #[]
  staticTypes := #[]
  resolved := Array.replicate 124 none
  statics := none }

def pool1 : Array CpInfo := pool [(2, .class_ 4), (1, u "java/lang/Object"), (0, u "<init>"), (0, u "()V"), (0, .fieldref 8 9), (0, .class_ 10), (0, .nameAndType 11 12), (0, u "com/example/bracketline/bracketline/Side"), (0, u "BUY"), (0, u "Lcom/example/bracketline/bracketline/Side;"), (0, .fieldref 8 14), (0, .nameAndType 15 12), (0, u "SELL"), (0, .methodref 8 17), (0, .nameAndType 18 19), (0, u "accepts"), (0, u "(JJ)Z"), (0, .methodref 8 21), (0, .nameAndType 22 23), (0, u "opposite"), (0, u "()Lcom/example/bracketline/bracketline/Side;"), (2, .long 9223372036854775807), (1, .methodref 8 29), (0, .nameAndType 30 31), (0, u "marketLimit"), (0, u "()J"), (0, .class_ 33), (0, u "com/example/bracketline/bracketline/SideAcceptsPinLaw"), (2, u "law"), (0, u "(IJJ)Z")] 3

def k1m0 : Method := { name := "<init>", desc := "()V", sig := { parameters := [], returnType := none }, accessFlags := 1, code := none }
def k1c1 : Code := { maxStack := 5, maxLocals := 12, code := code, exceptionTable := #[], attributes := #[] }
def k1m1 : Method := { name := "law", desc := "(IJJ)Z", sig := { parameters := [.int, .long, .long], returnType := some .boolean }, accessFlags := 9, code := some k1c1 }
/-- com/example/bracketline/bracketline/SideAcceptsPinLaw -/
def k1 : Class := { plain "com/example/bracketline/bracketline/SideAcceptsPinLaw" (some 0) with
  accessFlags := 49
  interfaces := #[]
  cf := some (fileOf pool1 32 #[] #[{ accessFlags := 1, nameIndex := 5, descriptorIndex := 6, attributes := #[] }, { accessFlags := 9, nameIndex := 36, descriptorIndex := 37, attributes := #[] }] 49 2 #[] #[])
  fields := #[]
  methods := #[k1m0, k1m1]
  instanceTypes := #[]
  staticTypes := #[]
  resolved := Array.replicate 41 none
  statics := none }

def pool2 : Array CpInfo := pool [(1, .class_ 2), (0, u "java/lang/constant/Constable"), (0, .class_ 4), (0, u "java/lang/Object")] 6

/-- java/lang/constant/Constable -/
def k2 : Class := { plain "java/lang/constant/Constable" (some 0) with
  accessFlags := 1537
  interfaces := #[]
  cf := some (fileOf pool2 1 #[] #[] 1537 3 #[] #[])
  fields := #[]
  methods := #[]
  instanceTypes := #[]
  staticTypes := #[]
  resolved := Array.replicate 11 none
  statics := none }

def pool3 : Array CpInfo := pool [(1, .class_ 2), (0, u "java/lang/Comparable"), (0, .class_ 4), (0, u "java/lang/Object")] 7

/-- java/lang/Comparable -/
def k3 : Class := { plain "java/lang/Comparable" (some 0) with
  accessFlags := 1537
  interfaces := #[]
  cf := some (fileOf pool3 1 #[] #[] 1537 3 #[] #[])
  fields := #[]
  methods := #[]
  instanceTypes := #[]
  staticTypes := #[]
  resolved := Array.replicate 12 none
  statics := none }

def pool4 : Array CpInfo := pool [(1, .class_ 2), (0, u "java/io/Serializable"), (0, .class_ 4), (0, u "java/lang/Object")] 2

/-- java/io/Serializable -/
def k4 : Class := { plain "java/io/Serializable" (some 0) with
  accessFlags := 1537
  interfaces := #[]
  cf := some (fileOf pool4 1 #[] #[] 1537 3 #[] #[])
  fields := #[]
  methods := #[]
  instanceTypes := #[]
  staticTypes := #[]
  resolved := Array.replicate 7 none
  statics := none }

def pool5 : Array CpInfo := pool [(2, .class_ 4), (1, u "java/lang/Enum"), (0, u "name"), (0, u "Ljava/lang/String;"), (2, u "ordinal"), (0, u "I"), (1, .class_ 14), (1, u "java/lang/Object"), (4, u "hash"), (86, .class_ 108), (1, u "java/lang/Enum$EnumDesc"), (2, .class_ 112), (0, u "java/lang/constant/Constable"), (0, .class_ 114), (0, u "java/lang/Comparable"), (0, .class_ 116), (0, u "java/io/Serializable")] 87

/-- java/lang/Enum -/
def k5 : Class := { plain "java/lang/Enum" (some 0) with
  accessFlags := 1057
  interfaces := #[2, 3, 4]
  cf := some (fileOf pool5 2 #[.nestMembers #[106]] #[] 1057 12 #[111, 113, 115] #[{ accessFlags := 18, nameIndex := 5, descriptorIndex := 6, attributes := #[] }, { accessFlags := 18, nameIndex := 9, descriptorIndex := 10, attributes := #[] }, { accessFlags := 2, nameIndex := 19, descriptorIndex := 10, attributes := #[] }])
  fields := #[{ name := "name", type := (.object "java/lang/String"), accessFlags := 18, slot := 0, constantValue := 0 }, { name := "ordinal", type := .int, accessFlags := 18, slot := 1, constantValue := 0 }, { name := "hash", type := .int, accessFlags := 2, slot := 2, constantValue := 0 }]
  methods := #[]
  instanceTypes := #[(.object "java/lang/String"), .int, .int]
  staticTypes := #[]
  resolved := Array.replicate 204 none
  statics := none }

def pool6 : Array CpInfo := pool [(1, .class_ 2), (0, u "com/example/bracketline/bracketline/Side"), (0, .fieldref 1 4), (0, .nameAndType 5 6), (0, u "BUY"), (0, u "Lcom/example/bracketline/bracketline/Side;"), (0, .fieldref 1 8), (0, .nameAndType 9 6), (0, u "SELL"), (2, u "$VALUES"), (0, u "[Lcom/example/bracketline/bracketline/Side;"), (6, .class_ 22), (1, u "java/lang/Enum"), (8, u "word"), (0, u "Ljava/lang/String;"), (2, u "restingWord"), (0, .fieldref 1 37), (0, .nameAndType 38 39), (0, u "marketLimit"), (0, u "J"), (59, u "opposite"), (0, u "()Lcom/example/bracketline/bracketline/Side;"), (0, u "accepts"), (0, u "(JJ)Z"), (3, u "()J")] 5

def k6c0 : Code := { maxStack := 2, maxLocals := 1, code := prog_26_method_7_code, exceptionTable := #[], attributes := #[] }
def k6m0 : Method := { name := "opposite", desc := "()Lcom/example/bracketline/bracketline/Side;", sig := { parameters := [], returnType := some (.object "com/example/bracketline/bracketline/Side") }, accessFlags := 0, code := some k6c0 }
def k6c1 : Code := { maxStack := 4, maxLocals := 5, code := prog_26_method_8_code, exceptionTable := #[], attributes := #[] }
def k6m1 : Method := { name := "accepts", desc := "(JJ)Z", sig := { parameters := [.long, .long], returnType := some .boolean }, accessFlags := 0, code := some k6c1 }
def k6c2 : Code := { maxStack := 2, maxLocals := 1, code := prog_26_method_11_code, exceptionTable := #[], attributes := #[] }
def k6m2 : Method := { name := "marketLimit", desc := "()J", sig := { parameters := [], returnType := some .long }, accessFlags := 0, code := some k6c2 }
/-- com/example/bracketline/bracketline/Side -/
def k6 : Class := { plain "com/example/bracketline/bracketline/Side" (some 5) with
  accessFlags := 16432
  interfaces := #[]
  cf := some (fileOf pool6 1 #[] #[{ accessFlags := 0, nameIndex := 99, descriptorIndex := 100, attributes := #[] }, { accessFlags := 0, nameIndex := 101, descriptorIndex := 102, attributes := #[] }, { accessFlags := 0, nameIndex := 38, descriptorIndex := 106, attributes := #[] }] 16432 20 #[] #[{ accessFlags := 16409, nameIndex := 5, descriptorIndex := 6, attributes := #[] }, { accessFlags := 16409, nameIndex := 9, descriptorIndex := 6, attributes := #[] }, { accessFlags := 18, nameIndex := 31, descriptorIndex := 32, attributes := #[] }, { accessFlags := 18, nameIndex := 35, descriptorIndex := 32, attributes := #[] }, { accessFlags := 18, nameIndex := 38, descriptorIndex := 39, attributes := #[] }, { accessFlags := 4122, nameIndex := 12, descriptorIndex := 13, attributes := #[] }])
  fields := #[{ name := "BUY", type := (.object "com/example/bracketline/bracketline/Side"), accessFlags := 16409, slot := 0, constantValue := 0 }, { name := "SELL", type := (.object "com/example/bracketline/bracketline/Side"), accessFlags := 16409, slot := 1, constantValue := 0 }, { name := "word", type := (.object "java/lang/String"), accessFlags := 18, slot := 3, constantValue := 0 }, { name := "restingWord", type := (.object "java/lang/String"), accessFlags := 18, slot := 4, constantValue := 0 }, { name := "marketLimit", type := .long, accessFlags := 18, slot := 5, constantValue := 0 }, { name := "$VALUES", type := (.array (.object "com/example/bracketline/bracketline/Side")), accessFlags := 4122, slot := 2, constantValue := 0 }]
  methods := #[k6m0, k6m1, k6m2]
  instanceTypes := #[(.object "java/lang/String"), .int, .int, (.object "java/lang/String"), (.object "java/lang/String"), .long]
  staticTypes := #[(.object "com/example/bracketline/bracketline/Side"), (.object "com/example/bracketline/bracketline/Side"), (.array (.object "com/example/bracketline/bracketline/Side"))]
  resolved := Array.replicate 112 none
  statics := some 0 }

def pool7 : Array CpInfo := pool [(1, u "java/lang/Cloneable"), (0, .class_ 1), (0, u "java/lang/Object"), (0, .class_ 3)] 3

/-- java/lang/Cloneable -/
def k7 : Class := { plain "java/lang/Cloneable" (some 0) with
  accessFlags := 1537
  interfaces := #[]
  cf := some (fileOf pool7 2 #[] #[] 1537 4 #[] #[])
  fields := #[]
  methods := #[]
  instanceTypes := #[]
  staticTypes := #[]
  resolved := Array.replicate 8 none
  statics := none }

/-- the primitive byte -/
def k8 : Class := { plain "byte" none with kind := .primitive 'B', accessFlags := 0x411 }
/-- [B -/
def k9 : Class := { plain "[B" (some 0) with kind := .array 8 .byte, interfaces := #[7, 4], accessFlags := 1041 }

/-- the primitive int -/
def k10 : Class := { plain "int" none with kind := .primitive 'I', accessFlags := 0x411 }
/-- [I -/
def k11 : Class := { plain "[I" (some 0) with kind := .array 10 .int, interfaces := #[7, 4], accessFlags := 1041 }

def heap : Heap := #[{ cls := 6, slots := #[.ref 2, .ref 1, .null], vm := .statics 6 },
  { cls := 6, slots := #[.null, .int 1, .int 0, .null, .null, .long 0], vm := .none },
  { cls := 6, slots := #[.null, .int 0, .int 0, .null, .null, .long 9223372036854775807], vm := .none }]
def classes : Array Class := #[k0, k1, k2, k3, k4, k5, k6, k7, k8, k9, k10, k11]
def interned : List (Array UInt16 × Addr) := []
def slotsUsed : Nat := 15
def theMethod : MethodId := ⟨1, 1⟩
def args0 : Array Value := #[.int 5, .long 7, .long 9]
def aboutOver (below : List Frame) : State where
  vm := { classes := classes, interned := interned.toArray }
  heap := heap
  slotsUsed := slotsUsed
  threads := #[{ frames := .invoking theMethod args0 :: below }]
def below0 : List Frame := [.native { method := ⟨0, 0⟩, args := #[] }]
def about1 : State := aboutOver below0
def p0 : Program := .bare "" "" ""
def e0 : Env := launch0.env 0 0 0
theorem w_frames : about1.frames = Frame.invoking theMethod args0 :: below0 := rfl
set_option maxRecDepth 65536 in
theorem w_args : argsFit about1.vm theMethod args0 = true := by decide +kernel
set_option maxRecDepth 65536 in
theorem w_heap : heapFits about1 = true := by decide +kernel
set_option maxRecDepth 65536 in
theorem w_runnable : about1.curStatus? = some .runnable := by decide +kernel
set_option maxRecDepth 65536 in
theorem w_alone : about1.alone = true := by decide +kernel
set_option maxRecDepth 65536 in
theorem w_named : about1.methodNamed? x = some theMethod := by decide +kernel
set_option maxRecDepth 65536 in
theorem w_hears : about1.hears theMethod below0 = true := by decide +kernel
set_option maxRecDepth 65536 in
theorem w_ripe : about1.ripe theMethod args0 below0 = true := by decide +kernel
theorem w_running : about1.status = .running := rfl
set_option maxRecDepth 65536 in
theorem w_room : about1.hasRoom e0.platform room_1 = true :=
  launch0.hasRoom_least _ room_1 (by decide +kernel) (by decide +kernel) (by decide +kernel) (by decide +kernel) (by decide +kernel) (by decide +kernel)
theorem allAtoms_all (ts : List Jvm.Cond) (a : Array Jvm.Value) (st : Jvm.State) : (allAtoms ts).before a st = ts.all (fun c => c.before a st) := by
  induction ts with
  | nil => rfl
  | cons c t ih =>
    show (Jvm.Cond.and c (allAtoms t)).before a st = _
    rw [Jvm.Cond.before_and, ih, List.all_cons]
def words1 : List Jvm.Cond := Jvm.Cond.code x code maxLocals ret :: tables_1
/-- a 'code' word, met by the world's own term for the bytes: nothing is compared byte by byte -/
theorem code_word {y : MethodName} {bytes : ByteArray} {mx : Nat} {rt : Option FieldType} {a : Array Value} {s : State} {m : MethodId} {meth : Method} {c : Code} (h1 : s.methodNamed? y = some m) (h2 : s.vm.method? m = some meth) (h3 : meth.code = some c) (h4 : c.code = bytes)
    (h5 : (c.maxLocals == mx && c.exceptionTable.isEmpty && decide (c.maxStack ≤ mostOperands) && decide (meth.sig.returnType = rt) && !meth.locks && decide (parseMethodDescriptor y.desc = some meth.sig)) = true) : (Jvm.Cond.code y bytes mx rt).before a s = true := by
  simp only [Bool.and_eq_true, beq_iff_eq, Bool.not_eq_true', decide_eq_true_eq] at h5
  obtain ⟨⟨⟨⟨⟨g1, g2⟩, g3⟩, g4⟩, g5⟩, g6⟩ := h5
  simp [Cond.before, Cond.holds, Cond.value, h1, h2, h3, h4, g1, g2, g3, g4, g5, g6]
def isCode : Jvm.Cond → Bool
  | .code _ _ _ _ => true
  | _ => false
theorem all_split {L : List Jvm.Cond} {P : Jvm.Cond → Bool} (h1 : L.all (fun c => isCode c || P c) = true) (h2 : ∀ c ∈ L.filter isCode, P c = true) : L.all P = true := by
  refine List.all_eq_true.mpr fun c hc => ?_
  have h := List.all_eq_true.mp h1 c hc
  rcases Bool.eq_false_or_eq_true (isCode c) with hi | hi
  · exact h2 c (List.mem_filter.mpr ⟨hc, hi⟩)
  · simpa [hi] using h
set_option maxRecDepth 65536 in
theorem w_c0 : (Jvm.Cond.code x code maxLocals ret).before args0 about1 = true := code_word (m := ⟨1, 1⟩) (meth := k1m1) (c := k1c1) (by decide +kernel) rfl rfl rfl (by decide +kernel)
set_option maxRecDepth 65536 in
theorem w_c1 : (Jvm.Cond.code ({ cls := "com/example/bracketline/bracketline/Side", name := "accepts", desc := "(JJ)Z" } : Jvm.MethodName) prog_26_method_8_code (5 : Nat) (Option.some Jvm.ClassFile.FieldType.boolean)).before args0 about1 = true := code_word (m := ⟨6, 1⟩) (meth := k6m1) (c := k6c1) (by decide +kernel) rfl rfl rfl (by decide +kernel)
set_option maxRecDepth 65536 in
theorem w_c2 : (Jvm.Cond.code ({ cls := "com/example/bracketline/bracketline/Side", name := "opposite", desc := "()Lcom/example/bracketline/bracketline/Side;" } : Jvm.MethodName) prog_26_method_7_code (1 : Nat) (Option.some (Jvm.ClassFile.FieldType.object "com/example/bracketline/bracketline/Side"))).before args0 about1 = true := code_word (m := ⟨6, 0⟩) (meth := k6m0) (c := k6c0) (by decide +kernel) rfl rfl rfl (by decide +kernel)
set_option maxRecDepth 65536 in
theorem w_c3 : (Jvm.Cond.code ({ cls := "com/example/bracketline/bracketline/Side", name := "marketLimit", desc := "()J" } : Jvm.MethodName) prog_26_method_11_code (1 : Nat) (Option.some Jvm.ClassFile.FieldType.long)).before args0 about1 = true := code_word (m := ⟨6, 2⟩) (meth := k6m2) (c := k6c2) (by decide +kernel) rfl rfl rfl (by decide +kernel)
def codes1 : List Jvm.Cond := [Jvm.Cond.code x code maxLocals ret, Jvm.Cond.code ({ cls := "com/example/bracketline/bracketline/Side", name := "accepts", desc := "(JJ)Z" } : Jvm.MethodName) prog_26_method_8_code (5 : Nat) (Option.some Jvm.ClassFile.FieldType.boolean), Jvm.Cond.code ({ cls := "com/example/bracketline/bracketline/Side", name := "opposite", desc := "()Lcom/example/bracketline/bracketline/Side;" } : Jvm.MethodName) prog_26_method_7_code (1 : Nat) (Option.some (Jvm.ClassFile.FieldType.object "com/example/bracketline/bracketline/Side")), Jvm.Cond.code ({ cls := "com/example/bracketline/bracketline/Side", name := "marketLimit", desc := "()J" } : Jvm.MethodName) prog_26_method_11_code (1 : Nat) (Option.some Jvm.ClassFile.FieldType.long)]
set_option maxRecDepth 65536 in
theorem codes_eq : words1.filter isCode = codes1 := rfl
theorem w_codes : ∀ c ∈ words1.filter isCode, c.before args0 about1 = true := by
  rw [codes_eq]
  intro c hc
  simp only [codes1, List.mem_cons, List.not_mem_nil, or_false] at hc
  rcases hc with rfl | rfl | rfl | rfl
  · exact w_c0
  · exact w_c1
  · exact w_c2
  · exact w_c3
set_option maxRecDepth 65536 in
theorem w_t1 : (words1.take 24).all (fun c => isCode c || c.before args0 about1) = true := by decide +kernel
set_option maxRecDepth 65536 in
theorem w_t2 : (words1.drop 24).all (fun c => isCode c || c.before args0 about1) = true := by decide +kernel
theorem w_tables : (allAtoms (Jvm.Cond.code x code maxLocals ret :: tables_1)).before args0 about1 = true := by
  rw [allAtoms_all]
  show words1.all (fun c => c.before args0 about1) = true
  refine all_split ?_ w_codes
  rw [← List.take_append_drop 24 words1, List.all_append, w_t1, w_t2]
  rfl
set_option maxRecDepth 65536 in
theorem w_case : (Jvm.Cond.and given_1 narrow_1).before args0 about1 = true := by decide +kernel
theorem w_applies : (headSpec (Jvm.Cond.code x code maxLocals ret :: tables_1) room_1).applies x e0.platform about1 = true :=
  (Spec.applies_iff w_frames).mpr ⟨w_running, w_runnable, w_alone, w_named, w_hears, w_ripe, w_room, w_tables⟩
theorem atStart : AtStart classFile x code maxLocals ret World_1 tables_1 room_1 Calls_1 rest_1 Pre_1 launch0 p0 e0 about1 theMethod args0 below0 :=
  ⟨lists_1, trivial, launch0.admits_env _ _ _, launch0.least_env, fairChoices_fair.cas, fairChoices_fair.clock, w_frames, w_args, w_heap, w_applies, trivial, trivial, w_case⟩
end start1
theorem witness_1 : WitnessClaimed_1 := ⟨start1.p0, start1.e0, start1.about1, start1.theMethod, start1.args0, start1.below0, start1.atStart⟩
end Jvm.Pilot.@@N@@
