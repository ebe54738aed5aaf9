import JvmDerived
import JvmDerived.Pilot.@@N@@Statement
import JvmDerived.Pilot.@@N@@Code
set_option linter.unusedVariables false
set_option linter.unusedSimpArgs false
namespace Jvm.RoadKit
open Sem ClassFile Op Lib Jvm.Stand Jvm.Free Jvm.LawKit
section New
variable {p : Program} {l : Launch} {e : Env} {R : Room} {s : State} {m : MethodId} {args : Array Value} {below : List Frame} {meth : Method} {c : Code} {T : State} {locs : List Loc} {cells slots : Nat}
theorem retI (X : Stand p l e R s m args below meth c T locs cells slots) (hx : p.tables.exec = Jvm.exec) {pc : Nat} {Ls : Array Slot} {z : Int32} {rest : List Value} (hret : meth.sig.returnType = some .int) (hd : decode c.code pc = .ok (.ireturn, 1)) {fs : List Frame}
    (hl : ∀ (f : JFrame) (acts : List Action), f.method = m → f.locked = none → f.entered = [] → (doReturn e (T.setTop f) acts (some (.int z))).1 = T.setFrames fs) : Steps p.tables e below (T.setTop (mkF m pc Ls (.int z :: rest))) (T.setFrames fs) := by
  have hm' : T.vm.method? m = some meth := X.method'
  have hn : narrow .int (.int z) = .int z := rfl
  show Steps p.tables e below (T.setTop { method := m, pc := pc, locals := Ls, stack := _ :: rest, locked := none }) _
  jvm_step X.here [X.here.top, hx, hd, hm', hret, hn]
  first | (intro acts; rw [hl _ acts rfl rfl rfl]) | rw [hl _ _ rfl rfl rfl]
  exact Steps.refl _
theorem own_retL (X : Stand p l e R s m args below meth c T locs cells slots) (hx : p.tables.exec = Jvm.exec) {pc : Nat} {Ls : Array Slot} {z : Int64} {rest : List Value} (hret : meth.sig.returnType = some .long) (hd : decode c.code pc = .ok (.lreturn, 1)) {fs : List Frame}
    (hl : ∀ (f : JFrame) (acts : List Action), f.method = m → f.locked = none → f.entered = [] → (doReturn e (T.setTop f) acts (some (.long z))).1 = T.setFrames fs) : Steps p.tables e below (T.setTop (mkF m pc Ls (.long z :: rest))) (T.setFrames fs) := by
  have hm' : T.vm.method? m = some meth := X.method'
  show Steps p.tables e below (T.setTop { method := m, pc := pc, locals := Ls, stack := _ :: rest, locked := none }) _
  jvm_step X.here [X.here.top, hx, hd, hm', hret, narrow]
  first | (intro acts; rw [hl _ acts rfl rfl rfl]) | rw [hl _ _ rfl rfl rfl]
  exact Steps.refl _
theorem own_retA (X : Stand p l e R s m args below meth c T locs cells slots) (hx : p.tables.exec = Jvm.exec) {pc : Nat} {Ls : Array Slot} {v : Value} {t : FieldType} {rest : List Value} (hret : meth.sig.returnType = some t) (ht : t.isReference = true) (hv : v.isRef = true) (hd : decode c.code pc = .ok (.areturn, 1)) {fs : List Frame}
    (hl : ∀ (f : JFrame) (acts : List Action), f.method = m → f.locked = none → f.entered = [] → (doReturn e (T.setTop f) acts (some v)).1 = T.setFrames fs) : Steps p.tables e below (T.setTop (mkF m pc Ls (v :: rest))) (T.setFrames fs) := by
  have hm' : T.vm.method? m = some meth := X.method'
  show Steps p.tables e below (T.setTop { method := m, pc := pc, locals := Ls, stack := v :: rest, locked := none }) _
  rcases ref_cases hv with rfl | ⟨a, rfl⟩
  all_goals
    jvm_step X.here [X.here.top, hx, hd, hm', hret, ht, Value.isRef]
    first | (intro acts; rw [hl _ acts rfl rfl rfl]) | rw [hl _ _ rfl rfl rfl]
    exact Steps.refl _
def Go (p : Program) (e : Env) (below : List Frame) (P : Outcome → State → Prop) (S : State) : Prop := ∃ s₂ o, Steps p.tables e below S s₂ ∧ s₂.status = .running ∧ Ended s₂ below o ∧ P o s₂
variable {P : Outcome → State → Prop}
theorem Go.by {A B : State} (st : ∀ t, Steps p.tables e below B t → Steps p.tables e below A t) (g : Go p e below P B) : Go p e below P A := by
  obtain ⟨u, o, h1, h2⟩ := g; exact ⟨u, o, st _ h1, h2⟩
theorem Go.tr {A B : State} (st : Steps p.tables e below A B) (g : Go p e below P B) : Go p e below P A := by
  obtain ⟨u, o, h1, h2⟩ := g; exact ⟨u, o, st.trans h1, h2⟩
theorem Go.start {f g : JFrame} (q : f = g) (h : Go p e below P (T.setTop g)) : ∃ s₂ o, Steps p.tables e below (T.setTop f) s₂ ∧ s₂.status = .running ∧ Ended s₂ below o ∧ P o s₂ := q ▸ h
variable {Q : Option Value → Heap → List Loc → Prop} {rc rs : Nat}
theorem Go.retI (X : Stand p l e R s m args below meth c T locs cells slots) (hx : p.tables.exec = Jvm.exec) {pc : Nat} {Ls : Array Slot} {z : Int32} {rest : List Value} (hret : meth.sig.returnType = some .int) (hlk : meth.locks = false) (hd : decode c.code pc = .ok (.ireturn, 1)) (hc : cells ≤ rc) (hs : slots ≤ rs) (hq : Q (some (.int z)) T.heap locs) :
    Go p e below (fun o U' => ∃ v L, o = .returned v ∧ Q v U'.heap L ∧ FrameEnd s o U' L rc rs) (T.setTop (mkF m pc Ls (.int z :: rest))) := by
  obtain ⟨fs, hr, hrun, hended, hW, hsame⟩ := X.leave (v := some (.int z)) (fun h => by rw [hret] at h; cases h) hlk
  exact ⟨_, _, RoadKit.retI X hx hret hd hr, hrun, hended, _, _, rfl, hq, ⟨_, rfl⟩, hW, hsame.mono hc hs⟩
theorem Go.retN (X : Stand p l e R s m args below meth c T locs cells slots) (hx : p.tables.exec = Jvm.exec) {pc : Nat} {Ls : Array Slot} {z : Int32} {t : FieldType} {rest : List Value} (hret : meth.sig.returnType = some t) (ht : t = .boolean ∨ t = .byte ∨ t = .char ∨ t = .short) (hlk : meth.locks = false) (hd : decode c.code pc = .ok (.ireturn, 1)) (hc : cells ≤ rc) (hs : slots ≤ rs) (hq : Q (some (.int (nar t z))) T.heap locs) :
    Go p e below (fun o U' => ∃ v L, o = .returned v ∧ Q v U'.heap L ∧ FrameEnd s o U' L rc rs) (T.setTop (mkF m pc Ls (.int z :: rest))) := by
  obtain ⟨fs, hr, hrun, hended, hW, hsame⟩ := X.leave (v := some (.int (nar t z))) (fun h => by rw [hret] at h; cases h) hlk
  exact ⟨_, _, RoadKit.retN X hx hret ht hd hr, hrun, hended, _, _, rfl, hq, ⟨_, rfl⟩, hW, hsame.mono hc hs⟩
theorem Go.retL (X : Stand p l e R s m args below meth c T locs cells slots) (hx : p.tables.exec = Jvm.exec) {pc : Nat} {Ls : Array Slot} {z : Int64} {rest : List Value} (hret : meth.sig.returnType = some .long) (hlk : meth.locks = false) (hd : decode c.code pc = .ok (.lreturn, 1)) (hc : cells ≤ rc) (hs : slots ≤ rs) (hq : Q (some (.long z)) T.heap locs) :
    Go p e below (fun o U' => ∃ v L, o = .returned v ∧ Q v U'.heap L ∧ FrameEnd s o U' L rc rs) (T.setTop (mkF m pc Ls (.long z :: rest))) := by
  obtain ⟨fs, hr, hrun, hended, hW, hsame⟩ := X.leave (v := some (.long z)) (fun h => by rw [hret] at h; cases h) hlk
  exact ⟨_, _, own_retL X hx hret hd hr, hrun, hended, _, _, rfl, hq, ⟨_, rfl⟩, hW, hsame.mono hc hs⟩
theorem Go.retA (X : Stand p l e R s m args below meth c T locs cells slots) (hx : p.tables.exec = Jvm.exec) {pc : Nat} {Ls : Array Slot} {v : Value} {t : FieldType} {rest : List Value} (hret : meth.sig.returnType = some t) (ht : t.isReference = true) (hv : v.isRef = true) (hlk : meth.locks = false) (hd : decode c.code pc = .ok (.areturn, 1)) (hc : cells ≤ rc) (hs : slots ≤ rs) (hq : Q (some v) T.heap locs) :
    Go p e below (fun o U' => ∃ v L, o = .returned v ∧ Q v U'.heap L ∧ FrameEnd s o U' L rc rs) (T.setTop (mkF m pc Ls (v :: rest))) := by
  obtain ⟨fs, hr, hrun, hended, hW, hsame⟩ := X.leave (v := some v) (fun h => by rw [hret] at h; cases h) hlk
  exact ⟨_, _, own_retA X hx hret ht hv hd hr, hrun, hended, _, _, rfl, hq, ⟨_, rfl⟩, hW, hsame.mono hc hs⟩
theorem Go.ret0 (X : Stand p l e R s m args below meth c T locs cells slots) (hx : p.tables.exec = Jvm.exec) {pc : Nat} {Ls : Array Slot} (hret : meth.sig.returnType = none) (hlk : meth.locks = false) (hd : decode c.code pc = .ok (.return_, 1)) (hc : cells ≤ rc) (hs : slots ≤ rs) (hq : Q none T.heap locs) :
    Go p e below (fun o U' => ∃ v L, o = .returned v ∧ Q v U'.heap L ∧ FrameEnd s o U' L rc rs) (T.setTop (mkF m pc Ls [])) := by
  obtain ⟨fs, hr, hrun, hended, hW, hsame⟩ := X.leave (v := none) (fun _ => rfl) hlk
  exact ⟨_, _, X.returnOut hx hret hd hr, hrun, hended, _, _, rfl, hq, ⟨_, rfl⟩, hW, hsame.mono hc hs⟩
section Wide
variable {vm₁ : Vm} {kS : Nat}
theorem Go.retIW (hS : s.Since vm₁ kS) (hn : kS ≤ T.heap.size) (X : Stand p l e R (s.setVm vm₁) m args below meth c T locs cells slots) (hx : p.tables.exec = Jvm.exec) {pc : Nat} {Ls : Array Slot} {z : Int32} {rest : List Value} (hret : meth.sig.returnType = some .int) (hlk : meth.locks = false) (hd : decode c.code pc = .ok (.ireturn, 1)) (hc : cells ≤ rc) (hs : slots ≤ rs) (hq : Q (some (.int z)) T.heap locs) :
    Go p e below (fun o U' => ∃ v L, o = .returned v ∧ Q v U'.heap L ∧ ReturnedEndW s o U' L rc rs) (T.setTop (mkF m pc Ls (.int z :: rest))) := by
  obtain ⟨fs, hr, hrun, hended, w1, w2, w3, w4⟩ := X.leaveW hS hn (v := some (.int z)) (fun h => by rw [hret] at h; cases h) hlk
  exact ⟨_, _, RoadKit.retI X hx hret hd hr, hrun, hended, _, _, rfl, hq, w1, w2, w3, w4.mono hc hs⟩
theorem Go.retNW (hS : s.Since vm₁ kS) (hn : kS ≤ T.heap.size) (X : Stand p l e R (s.setVm vm₁) m args below meth c T locs cells slots) (hx : p.tables.exec = Jvm.exec) {pc : Nat} {Ls : Array Slot} {z : Int32} {t : FieldType} {rest : List Value} (hret : meth.sig.returnType = some t) (ht : t = .boolean ∨ t = .byte ∨ t = .char ∨ t = .short) (hlk : meth.locks = false) (hd : decode c.code pc = .ok (.ireturn, 1)) (hc : cells ≤ rc) (hs : slots ≤ rs) (hq : Q (some (.int (nar t z))) T.heap locs) :
    Go p e below (fun o U' => ∃ v L, o = .returned v ∧ Q v U'.heap L ∧ ReturnedEndW s o U' L rc rs) (T.setTop (mkF m pc Ls (.int z :: rest))) := by
  obtain ⟨fs, hr, hrun, hended, w1, w2, w3, w4⟩ := X.leaveW hS hn (v := some (.int (nar t z))) (fun h => by rw [hret] at h; cases h) hlk
  exact ⟨_, _, RoadKit.retN X hx hret ht hd hr, hrun, hended, _, _, rfl, hq, w1, w2, w3, w4.mono hc hs⟩
theorem Go.retAW (hS : s.Since vm₁ kS) (hn : kS ≤ T.heap.size) (X : Stand p l e R (s.setVm vm₁) m args below meth c T locs cells slots) (hx : p.tables.exec = Jvm.exec) {pc : Nat} {Ls : Array Slot} {v : Value} {t : FieldType} {rest : List Value} (hret : meth.sig.returnType = some t) (ht : t.isReference = true) (hv : v.isRef = true) (hlk : meth.locks = false) (hd : decode c.code pc = .ok (.areturn, 1)) (hc : cells ≤ rc) (hs : slots ≤ rs) (hq : Q (some v) T.heap locs) :
    Go p e below (fun o U' => ∃ v L, o = .returned v ∧ Q v U'.heap L ∧ ReturnedEndW s o U' L rc rs) (T.setTop (mkF m pc Ls (v :: rest))) := by
  obtain ⟨fs, hr, hrun, hended, w1, w2, w3, w4⟩ := X.leaveW hS hn (v := some v) (fun h => by rw [hret] at h; cases h) hlk
  exact ⟨_, _, own_retA X hx hret ht hv hd hr, hrun, hended, _, _, rfl, hq, w1, w2, w3, w4.mono hc hs⟩
theorem Go.ret0W (hS : s.Since vm₁ kS) (hn : kS ≤ T.heap.size) (X : Stand p l e R (s.setVm vm₁) m args below meth c T locs cells slots) (hx : p.tables.exec = Jvm.exec) {pc : Nat} {Ls : Array Slot} (hret : meth.sig.returnType = none) (hlk : meth.locks = false) (hd : decode c.code pc = .ok (.return_, 1)) (hc : cells ≤ rc) (hs : slots ≤ rs) (hq : Q none T.heap locs) :
    Go p e below (fun o U' => ∃ v L, o = .returned v ∧ Q v U'.heap L ∧ ReturnedEndW s o U' L rc rs) (T.setTop (mkF m pc Ls [])) := by
  obtain ⟨fs, hr, hrun, hended, w1, w2, w3, w4⟩ := X.leaveW hS hn (v := none) (fun _ => rfl) hlk
  exact ⟨_, _, X.returnOut hx hret hd hr, hrun, hended, _, _, rfl, hq, w1, w2, w3, w4.mono hc hs⟩
end Wide
section Held
variable {vm₁ : Vm} {kS : Nat} {Z : State} {a0 : Array Value} {EL : List (String × Nat)} {h0 h h' : Heap} {vm0 : Vm}
theorem own_chE (A : CHr Z EL vm₁ h0 vm0 h) (E : Ext h h') : CHr Z EL vm₁ h0 vm0 h' := A.trans (CHr.ext E A.1)
theorem own_chW {a : Addr} {sl : Nat} {v : Value} (A : CHr Z EL vm₁ h0 vm0 h) (W : Wr h h' a sl v) (S : Safe Z EL vm0 h a) : CHr Z EL vm₁ h0 vm0 h' := A.trans (CHr.wr W S A.1)
theorem own_chK {ws : List Addr} (A : CHr Z EL vm₁ h0 vm0 h) (K : Keep h h' ws) (S : ∀ x ∈ ws, Safe Z EL vm0 h x) : CHr Z EL vm₁ h0 vm0 h' := A.trans (CHr.keep K S A.1)
theorem own_chEnd (X : Stand p l e R (s.setVm vm₁) m args below meth c T locs cells slots) (eT : T.heap = h) (hZ : Z.Warmed39 vm₁) (hEL : EW Z a0 EL) (A : CHr Z EL s.vm h0 vm₁ h) (hh : s.heap = h0) : CHr Z EL s.vm s.heap T.vm T.heap := by
  rw [eT, hh]; exact A.trans (CHv.at X hZ hEL A.1)
theorem Go.retNH (hS : s.Since vm₁ kS) (hn : kS ≤ T.heap.size) (hC : CHr Z EL s.vm s.heap T.vm T.heap) (X : Stand p l e R (s.setVm vm₁) m args below meth c T locs cells slots) (hx : p.tables.exec = Jvm.exec) {pc : Nat} {Ls : Array Slot} {z : Int32} {t : FieldType} {rest : List Value} (hret : meth.sig.returnType = some t) (ht : t = .boolean ∨ t = .byte ∨ t = .char ∨ t = .short) (hlk : meth.locks = false) (hd : decode c.code pc = .ok (.ireturn, 1)) (hc : cells ≤ rc) (hs : slots ≤ rs) (hq : Q (some (.int (nar t z))) T.heap locs) :
    Go p e below (fun o U' => ∃ v L, o = .returned v ∧ Q v U'.heap L ∧ CHr Z EL s.vm s.heap U'.vm U'.heap ∧ ReturnedEndW s o U' L rc rs) (T.setTop (mkF m pc Ls (.int z :: rest))) := by
  obtain ⟨fs, hr, hrun, hended, w1, w2, w3, w4⟩ := X.leaveW hS hn (v := some (.int (nar t z))) (fun h => by rw [hret] at h; cases h) hlk
  exact ⟨_, _, RoadKit.retN X hx hret ht hd hr, hrun, hended, _, _, rfl, hq, hC, w1, w2, w3, w4.mono hc hs⟩
theorem Go.retAH (hS : s.Since vm₁ kS) (hn : kS ≤ T.heap.size) (hC : CHr Z EL s.vm s.heap T.vm T.heap) (X : Stand p l e R (s.setVm vm₁) m args below meth c T locs cells slots) (hx : p.tables.exec = Jvm.exec) {pc : Nat} {Ls : Array Slot} {v : Value} {t : FieldType} {rest : List Value} (hret : meth.sig.returnType = some t) (ht : t.isReference = true) (hv : v.isRef = true) (hlk : meth.locks = false) (hd : decode c.code pc = .ok (.areturn, 1)) (hc : cells ≤ rc) (hs : slots ≤ rs) (hq : Q (some v) T.heap locs) :
    Go p e below (fun o U' => ∃ v L, o = .returned v ∧ Q v U'.heap L ∧ CHr Z EL s.vm s.heap U'.vm U'.heap ∧ ReturnedEndW s o U' L rc rs) (T.setTop (mkF m pc Ls (v :: rest))) := by
  obtain ⟨fs, hr, hrun, hended, w1, w2, w3, w4⟩ := X.leaveW hS hn (v := some v) (fun h => by rw [hret] at h; cases h) hlk
  exact ⟨_, _, own_retA X hx hret ht hv hd hr, hrun, hended, _, _, rfl, hq, hC, w1, w2, w3, w4.mono hc hs⟩
theorem Go.ret0H (hS : s.Since vm₁ kS) (hn : kS ≤ T.heap.size) (hC : CHr Z EL s.vm s.heap T.vm T.heap) (X : Stand p l e R (s.setVm vm₁) m args below meth c T locs cells slots) (hx : p.tables.exec = Jvm.exec) {pc : Nat} {Ls : Array Slot} (hret : meth.sig.returnType = none) (hlk : meth.locks = false) (hd : decode c.code pc = .ok (.return_, 1)) (hc : cells ≤ rc) (hs : slots ≤ rs) (hq : Q none T.heap locs) :
    Go p e below (fun o U' => ∃ v L, o = .returned v ∧ Q v U'.heap L ∧ CHr Z EL s.vm s.heap U'.vm U'.heap ∧ ReturnedEndW s o U' L rc rs) (T.setTop (mkF m pc Ls [])) := by
  obtain ⟨fs, hr, hrun, hended, w1, w2, w3, w4⟩ := X.leaveW hS hn (v := none) (fun _ => rfl) hlk
  exact ⟨_, _, X.returnOut hx hret hd hr, hrun, hended, _, _, rfl, hq, hC, w1, w2, w3, w4.mono hc hs⟩
end Held
theorem own_selP {Z : State} {a0 : Array Value} {y : MethodName} {n : Nat} (hZ : Z.Warmed39 s.vm) (wi : (Cond.instantiable y.cls n).before a0 Z = true) (wp : (Cond.privateMethod y).before a0 Z = true) (wm : (Cond.instanceMethod y).before a0 Z = true) (hy : y.cls ≠ "java/lang/invoke/MethodHandle" ∧ y.cls ≠ "java/lang/invoke/VarHandle") : (Cond.selects y.cls y y).before args s = true := by
  obtain ⟨c, k, h1, h2, h3, h4, -⟩ := Cond.instantiable_spec (show (Cond.instantiable y.cls n).before args s = true from mv hZ wi)
  refine selects_self_of_private h1 h2 ?_ (Cond.privateMethod_at (mvP (args := args) hZ wp)) (mvT hZ wm) hy
  simp only [Bool.or_eq_false_iff] at h4; exact h4.1
theorem own_NSroot {Z : State} {a0 : Array Value} {O K : String} {n : Nat} (w : (Cond.noSuperclass O).before a0 Z = true) (wk : (Cond.instantiable K n).before a0 Z = true) (hn : O ≠ K) : NS Z O K := by
  obtain ⟨c, k, h1, h2, h3, -, -⟩ := Cond.noSuperclass_spec w
  obtain ⟨t, -, g1, -⟩ := Cond.instantiable_spec wk
  have ne := ids_ne h1 g1 hn
  refine ⟨c, t, h1, g1, fun fuel => ?_⟩
  cases fuel with
  | zero => rfl
  | succ f => simp [Vm.isSubclassAux, ne, h2, h3]
theorem own_NSno {Z : State} {a0 : Array Value} {C S K : String} {n : Nat} (w : (Cond.superclass C S).before a0 Z = true) (wk : (Cond.instantiable K n).before a0 Z = true) (ns : NS Z C K) (hn : C ≠ K) : ∃ c t, Z.vm.findClass C = some c ∧ Z.vm.findClass K = some t ∧ Z.vm.assignable c t = false := by
  obtain ⟨c, t, h0, g0, n3⟩ := ns
  obtain ⟨p, k, kp, h1, h2, h3, h4, h5, -, h7⟩ := Cond.superclass_spec h0 w
  obtain ⟨t', kt, g1, g2, g3, g4, -⟩ := Cond.instantiable_spec wk
  cases g0.symm.trans g1
  simp only [Bool.or_eq_false_iff] at g4
  have ne := ids_ne h0 g0 hn
  refine ⟨c, t, h0, g0, ?_⟩
  show Z.vm.assignableAux (255 + 1) c t = false
  simp [Vm.assignableAux, ne, h2, g2, h5, g3, g4.1, Vm.isSubclass, n3]
theorem own_old_size {Z : State} {n0 : Nat} {h : Heap} (O : Old Z n0 h) : n0 ≤ h.size := by rw [← O.1]; exact O.2.1
theorem own_cat1 {v : Value} (h : v.isRef = true) : v.category = 1 := by rcases ref_cases h with rfl | ⟨_, rfl⟩ <;> rfl
end New
end Jvm.RoadKit
namespace Jvm.Pilot.@@N@@
open Jvm Jvm.ClassFile Sem Op Lib Jvm.Free Jvm.Stand Jvm.LawKit Jvm.RoadKit Bundle Jvm.Pilot.@@N@@.Jvm.D
theorem pn_0 : plainName "com/example/queue_manager_rpc/queuemanagerrpc/Cursor" = true := by first | (simp [plainName, overriddenIn]; done) | decide +kernel
theorem d1_0 : decode prog_5_method_1_code 0 = .ok (.aload_n 0, 1) := by decide +kernel
theorem d1_1 : decode prog_5_method_1_code 1 = .ok (.invokespecial 1, 3) := by decide +kernel
theorem d1_4 : decode prog_5_method_1_code 4 = .ok (.return_, 1) := by decide +kernel
theorem ef_cinit (m : MethodId) (ob : Addr) : entryFrame m #[(.ref ob)] 1 = mkF m 0 #[.val (.ref ob)] [] := by first | (simp [entryFrame, mkF, argsToLocals, Value.category]; done) | rfl
def Q_cinit (Z : State) (ob : Addr) (h0 : Heap) (n0 : Nat) (v : Option Value) (h : Heap) (L : List Loc) : Prop := v = none ∧ Fr n0 L ∧ h = h0
set_option maxRecDepth 65536 in
set_option maxHeartbeats 40000000 in
theorem cinit (l : Launch) (Z : State) (a0 : Array Value) (hw : ∀ d ∈ tables_1, d.before a0 Z = true) (ws : List Jvm.Cond) (ob : Addr) (h0 : Heap) (n0 : Nat) (O0 : Old Z n0 h0) :
    MetFree l (⟨"com/example/queue_manager_rpc/queuemanagerrpc/Cursor", "<init>", "()V"⟩ : MethodName) (head1 (Jvm.Cond.code (⟨"com/example/queue_manager_rpc/queuemanagerrpc/Cursor", "<init>", "()V"⟩ : MethodName) prog_5_method_1_code 1 none :: ws) ({ frames := 1, cells := 0, slots := 0, locals := 12 } : Room)) (fun a U => a = #[(.ref ob)] ∧ Z.Warmed39 U.vm ∧ U.heap = h0) (fun _ _ _ _ _ => True) (fun _ U o U' => ∃ v L, o = .returned v ∧ Q_cinit Z ob h0 n0 v U'.heap L ∧ FrameEnd U o U' L ({ frames := 1, cells := 0, slots := 0, locals := 12 } : Room).cells ({ frames := 1, cells := 0, slots := 0, locals := 12 } : Room).slots) := by
  refine MetFree.of_bodySF (plainFor_of_name pn_0) hisR ?_
  intro p e s m args below meth c s₁ Bd hml0 hP hK
  obtain ⟨rfl, hZ, hh⟩ := hP
  have hx := Bd.exec
  have hby := Bd.bytes
  have hml : c.maxLocals = 1 := hml0
  have hown : s.vm.findClass "com/example/queue_manager_rpc/queuemanagerrpc/Cursor" = some m.cls := findClass_of_methodNamed Bd.named
  have hnm := (name_of_methodNamed Bd.named Bd.method).1
  have hlk := BodyLoose.notSynchronized Bd
  have X0 : Stand p l e ({ frames := 1, cells := 0, slots := 0, locals := 12 } : Room) s m #[(.ref ob)] below meth c s₁ [] 0 0 := Stand.of_body Bd
  have e0 : s₁.heap = h0 := by rw [← hh, Bd.state]; rfl
  have N0 := Fr.nil n0
  refine Go.start (P := fun o U' => ∃ v L, o = .returned v ∧ Q_cinit Z ob h0 n0 v U'.heap L ∧ FrameEnd s o U' L ({ frames := 1, cells := 0, slots := 0, locals := 12 } : Room).cells ({ frames := 1, cells := 0, slots := 0, locals := 12 } : Room).slots) (ef_cinit m ob) ?_
  show Go p e below _ (s₁.setTop (mkF m 0 #[.val (.ref ob)] []))
  refine Go.by (fun t k => XS.aloadN X0.here hx rfl (hb hby d1_0) rfl rfl k) ?_
  show Go p e below _ (s₁.setTop (mkF m 1 #[.val (.ref ob)] [(.ref ob)]))
  obtain ⟨T1, X1, e1, st1⟩ := initO X0 hx hZ hown (hw _ (List.mem_of_getElem? (i := 6) rfl)) (hw _ (List.mem_of_getElem? (i := 7) rfl)) (hw _ (List.mem_of_getElem? (i := 8) rfl)) e0 (g := (mkF m 1 #[.val (.ref ob)] [(.ref ob)])) rfl (by rw [hml]; rfl) rfl (hb hby d1_1) (by decide) (W := 0) (by show 2 * 0 + _ ≤ _; exact Nat.le_of_eq rfl) (by decide)
  refine Go.by st1 ?_
  show Go p e below _ (T1.setTop (mkF m 4 #[.val (.ref ob)] []))
  have hq : Q_cinit Z ob h0 n0 none h0 _ := ⟨rfl, N0, rfl⟩
  exact Go.ret0 X1 hx Bd.returns hlk (hb hby d1_4) (by decide) (by decide) (by rw [e1]; exact hq)
theorem d3_0 : decode prog_5_method_5_code 0 = .ok (.aload_n 0, 1) := by decide +kernel
theorem d3_1 : decode prog_5_method_5_code 1 = .ok (.lload_n 1, 1) := by decide +kernel
theorem d3_2 : decode prog_5_method_5_code 2 = .ok (.putfield 13, 3) := by decide +kernel
theorem d3_5 : decode prog_5_method_5_code 5 = .ok (.aload_n 0, 1) := by decide +kernel
theorem d3_6 : decode prog_5_method_5_code 6 = .ok (.iload_n 3, 1) := by decide +kernel
theorem d3_7 : decode prog_5_method_5_code 7 = .ok (.ifCond .ne 7, 3) := by decide +kernel
theorem d3_14 : decode prog_5_method_5_code 14 = .ok (.iconst 0, 1) := by decide +kernel
theorem d3_15 : decode prog_5_method_5_code 15 = .ok (.putfield 7, 3) := by decide +kernel
theorem d3_18 : decode prog_5_method_5_code 18 = .ok (.return_, 1) := by decide +kernel
theorem ef_move1 (m : MethodId) (ob : Addr) (vd : Int64) : entryFrame m #[(.ref ob), (.long vd), (.int (1 : Int32))] 4 = mkF m 0 #[.val (.ref ob), .val (.long vd), .second, .val (.int (1 : Int32))] [] := by first | (simp [entryFrame, mkF, argsToLocals, Value.category]; done) | rfl
def Q_move1 (Z : State) (ob : Addr) (vd : Int64) (ud : Int64) (uo : Int32) (h0 : Heap) (n0 : Nat) (v : Option Value) (h : Heap) (L : List Loc) : Prop := v = none ∧ Fr n0 L ∧ Keep h0 h [ob] ∧ Exa Z h ob "com/example/queue_manager_rpc/queuemanagerrpc/Cursor" ∧ Fld Z h ob "com/example/queue_manager_rpc/queuemanagerrpc/Cursor" "lookupId" "J" (.long vd) ∧ Fld Z h ob "com/example/queue_manager_rpc/queuemanagerrpc/Cursor" "onMessage" "Z" (.int (0 : Int32))
set_option maxRecDepth 65536 in
set_option maxHeartbeats 40000000 in
theorem move1 (l : Launch) (Z : State) (a0 : Array Value) (hw : ∀ d ∈ tables_1, d.before a0 Z = true) (ws : List Jvm.Cond) (ob : Addr) (vd : Int64) (ud : Int64) (uo : Int32) (h0 : Heap) (n0 : Nat) (O0 : Old Z n0 h0) (P0 : Exa Z h0 ob "com/example/queue_manager_rpc/queuemanagerrpc/Cursor") (P1 : Fld Z h0 ob "com/example/queue_manager_rpc/queuemanagerrpc/Cursor" "lookupId" "J" (.long ud)) (P2 : Fld Z h0 ob "com/example/queue_manager_rpc/queuemanagerrpc/Cursor" "onMessage" "Z" (.int uo)) (gob : n0 ≤ ob) :
    MetFree l (⟨"com/example/queue_manager_rpc/queuemanagerrpc/Cursor", "moveTo", "(JZ)V"⟩ : MethodName) (head1 (Jvm.Cond.code (⟨"com/example/queue_manager_rpc/queuemanagerrpc/Cursor", "moveTo", "(JZ)V"⟩ : MethodName) prog_5_method_5_code 4 none :: ws) ({ frames := 0, cells := 0, slots := 0, locals := 0 } : Room)) (fun a U => a = #[(.ref ob), (.long vd), (.int (1 : Int32))] ∧ Z.Warmed39 U.vm ∧ U.heap = h0) (fun _ _ _ _ _ => True) (fun _ U o U' => ∃ v L, o = .returned v ∧ Q_move1 Z ob vd ud uo h0 n0 v U'.heap L ∧ FrameEnd U o U' L ({ frames := 0, cells := 0, slots := 0, locals := 0 } : Room).cells ({ frames := 0, cells := 0, slots := 0, locals := 0 } : Room).slots) := by
  refine MetFree.of_bodySF (plainFor_of_name pn_0) hisR ?_
  intro p e s m args below meth c s₁ Bd hml0 hP hK
  obtain ⟨rfl, hZ, hh⟩ := hP
  have hx := Bd.exec
  have hby := Bd.bytes
  have hml : c.maxLocals = 4 := hml0
  have hown : s.vm.findClass "com/example/queue_manager_rpc/queuemanagerrpc/Cursor" = some m.cls := findClass_of_methodNamed Bd.named
  have hnm := (name_of_methodNamed Bd.named Bd.method).1
  have hlk := BodyLoose.notSynchronized Bd
  have X0 : Stand p l e ({ frames := 0, cells := 0, slots := 0, locals := 0 } : Room) s m #[(.ref ob), (.long vd), (.int (1 : Int32))] below meth c s₁ [] 0 0 := Stand.of_body Bd
  have e0 : s₁.heap = h0 := by rw [← hh, Bd.state]; rfl
  have N0 := Fr.nil n0
  refine Go.start (P := fun o U' => ∃ v L, o = .returned v ∧ Q_move1 Z ob vd ud uo h0 n0 v U'.heap L ∧ FrameEnd s o U' L ({ frames := 0, cells := 0, slots := 0, locals := 0 } : Room).cells ({ frames := 0, cells := 0, slots := 0, locals := 0 } : Room).slots) (ef_move1 m ob vd) ?_
  show Go p e below _ (s₁.setTop (mkF m 0 #[.val (.ref ob), .val (.long vd), .second, .val (.int (1 : Int32))] []))
  refine Go.by (fun t k => XS.aloadN X0.here hx rfl (hb hby d3_0) rfl rfl k) ?_
  show Go p e below _ (s₁.setTop (mkF m 1 #[.val (.ref ob), .val (.long vd), .second, .val (.int (1 : Int32))] [(.ref ob)]))
  refine Go.by (fun t k => XS.lloadN X0.here hx rfl (hb hby d3_1) rfl k) ?_
  show Go p e below _ (s₁.setTop (mkF m 2 #[.val (.ref ob), .val (.long vd), .second, .val (.int (1 : Int32))] [(.long vd), (.ref ob)]))
  obtain ⟨T1, h1, X1, e1, W1, st1⟩ := putF X0 hx hZ hown (host := "") (Or.inl (hw _ (List.mem_of_getElem? (i := 14) rfl))) Via.refl e0 P1 P0 (Or.inl (hw _ (List.mem_of_getElem? (i := 15) rfl))) (hw _ (List.mem_of_getElem? (i := 1) rfl)) (ty := .long) (by decide) rfl rfl (g := (mkF m 2 #[.val (.ref ob), .val (.long vd), .second, .val (.int (1 : Int32))] [(.long vd), (.ref ob)])) rfl rfl (hb hby d3_2)
  have N1 := Fr.snoc X1 N0 gob
  have F2 : Fld Z h1 ob "com/example/queue_manager_rpc/queuemanagerrpc/Cursor" "lookupId" "J" (.long vd) := P1.same W1
  refine Go.by st1 ?_
  show Go p e below _ (T1.setTop (mkF m 5 #[.val (.ref ob), .val (.long vd), .second, .val (.int (1 : Int32))] []))
  refine Go.by (fun t k => XS.aloadN X1.here hx rfl (hb hby d3_5) rfl rfl k) ?_
  show Go p e below _ (T1.setTop (mkF m 6 #[.val (.ref ob), .val (.long vd), .second, .val (.int (1 : Int32))] [(.ref ob)]))
  refine Go.by (fun t k => XS.iloadN X1.here hx rfl (hb hby d3_6) rfl k) ?_
  show Go p e below _ (T1.setTop (mkF m 7 #[.val (.ref ob), .val (.long vd), .second, .val (.int (1 : Int32))] [(.int (1 : Int32)), (.ref ob)]))
  refine Go.by (fun t k => XS.ifYes X1.here hx rfl (pc0 := 7) (pc' := 14) rfl (hb hby d3_7) rfl ((if0 _ _).trans (feq (by decide : ¬ ((1 : Int32) = (0 : Int32)))).2) (by decide) (by decide) k) ?_
  show Go p e below _ (T1.setTop (mkF m 14 #[.val (.ref ob), .val (.long vd), .second, .val (.int (1 : Int32))] [(.ref ob)]))
  refine Go.by (fun t k => XS.iconst X1.here hx rfl (hb hby d3_14) k) ?_
  show Go p e below _ (T1.setTop (mkF m 15 #[.val (.ref ob), .val (.long vd), .second, .val (.int (1 : Int32))] [(.int (0 : Int32)), (.ref ob)]))
  have F3 : Fld Z h1 ob "com/example/queue_manager_rpc/queuemanagerrpc/Cursor" "onMessage" "Z" (.int uo) := (P2.other W1 (Or.inr (slot_ne (Or.inl (hw _ (List.mem_of_getElem? (i := 17) rfl))) (Or.inl (hw _ (List.mem_of_getElem? (i := 15) rfl))) (by decide) (t := .boolean) (t' := .long) (by decide) (by decide))))
  have F4 : Exa Z h1 ob "com/example/queue_manager_rpc/queuemanagerrpc/Cursor" := (P0.wr W1)
  obtain ⟨T5, h5, X5, e5, W5, st5⟩ := putFN X1 hx hZ hown (hw _ (List.mem_of_getElem? (i := 16) rfl)) Via.refl e1 F3 F4 (Or.inl (hw _ (List.mem_of_getElem? (i := 17) rfl))) (hw _ (List.mem_of_getElem? (i := 1) rfl)) (ty := .boolean) (v' := (.int (0 : Int32))) (by decide) rfl rfl (g := (mkF m 15 #[.val (.ref ob), .val (.long vd), .second, .val (.int (1 : Int32))] [(.int (0 : Int32)), (.ref ob)])) rfl rfl (hb hby d3_15)
  have N5 := Fr.snoc X5 N1 gob
  have F6 : Fld Z h5 ob "com/example/queue_manager_rpc/queuemanagerrpc/Cursor" "onMessage" "Z" (.int (0 : Int32)) := F3.same W5
  refine Go.by st5 ?_
  show Go p e below _ (T5.setTop (mkF m 18 #[.val (.ref ob), .val (.long vd), .second, .val (.int (1 : Int32))] []))
  have F7 : Keep h0 h5 [ob] := (((Keep.refl h0 [ob]).wr W1 (Or.inl (List.mem_of_getElem? (i := 0) rfl))).wr W5 (Or.inl (List.mem_of_getElem? (i := 0) rfl)))
  have F8 : Exa Z h5 ob "com/example/queue_manager_rpc/queuemanagerrpc/Cursor" := (F4.wr W5)
  have F9 : Fld Z h5 ob "com/example/queue_manager_rpc/queuemanagerrpc/Cursor" "lookupId" "J" (.long vd) := (F2.other W5 (Or.inr (slot_ne (Or.inl (hw _ (List.mem_of_getElem? (i := 15) rfl))) (Or.inl (hw _ (List.mem_of_getElem? (i := 17) rfl))) (by decide) (t := .long) (t' := .boolean) (by decide) (by decide))))
  have hq : Q_move1 Z ob vd ud uo h0 n0 none h5 _ := ⟨rfl, N5, F7, F8, F9, F6⟩
  exact Go.ret0 X5 hx Bd.returns hlk (hb hby d3_18) (by decide) (by decide) (by rw [e5]; exact hq)
theorem d3_10 : decode prog_5_method_5_code 10 = .ok (.iconst 1, 1) := by decide +kernel
theorem d3_11 : decode prog_5_method_5_code 11 = .ok (.goto 4, 3) := by decide +kernel
theorem ef_move0 (m : MethodId) (ob : Addr) (vd : Int64) : entryFrame m #[(.ref ob), (.long vd), (.int (0 : Int32))] 4 = mkF m 0 #[.val (.ref ob), .val (.long vd), .second, .val (.int (0 : Int32))] [] := by first | (simp [entryFrame, mkF, argsToLocals, Value.category]; done) | rfl
def Q_move0 (Z : State) (ob : Addr) (vd : Int64) (ud : Int64) (uo : Int32) (h0 : Heap) (n0 : Nat) (v : Option Value) (h : Heap) (L : List Loc) : Prop := v = none ∧ Fr n0 L ∧ Keep h0 h [ob] ∧ Exa Z h ob "com/example/queue_manager_rpc/queuemanagerrpc/Cursor" ∧ Fld Z h ob "com/example/queue_manager_rpc/queuemanagerrpc/Cursor" "lookupId" "J" (.long vd) ∧ Fld Z h ob "com/example/queue_manager_rpc/queuemanagerrpc/Cursor" "onMessage" "Z" (.int (1 : Int32))
set_option maxRecDepth 65536 in
set_option maxHeartbeats 40000000 in
theorem move0 (l : Launch) (Z : State) (a0 : Array Value) (hw : ∀ d ∈ tables_1, d.before a0 Z = true) (ws : List Jvm.Cond) (ob : Addr) (vd : Int64) (ud : Int64) (uo : Int32) (h0 : Heap) (n0 : Nat) (O0 : Old Z n0 h0) (P0 : Exa Z h0 ob "com/example/queue_manager_rpc/queuemanagerrpc/Cursor") (P1 : Fld Z h0 ob "com/example/queue_manager_rpc/queuemanagerrpc/Cursor" "lookupId" "J" (.long ud)) (P2 : Fld Z h0 ob "com/example/queue_manager_rpc/queuemanagerrpc/Cursor" "onMessage" "Z" (.int uo)) (gob : n0 ≤ ob) :
    MetFree l (⟨"com/example/queue_manager_rpc/queuemanagerrpc/Cursor", "moveTo", "(JZ)V"⟩ : MethodName) (head1 (Jvm.Cond.code (⟨"com/example/queue_manager_rpc/queuemanagerrpc/Cursor", "moveTo", "(JZ)V"⟩ : MethodName) prog_5_method_5_code 4 none :: ws) ({ frames := 0, cells := 0, slots := 0, locals := 0 } : Room)) (fun a U => a = #[(.ref ob), (.long vd), (.int (0 : Int32))] ∧ Z.Warmed39 U.vm ∧ U.heap = h0) (fun _ _ _ _ _ => True) (fun _ U o U' => ∃ v L, o = .returned v ∧ Q_move0 Z ob vd ud uo h0 n0 v U'.heap L ∧ FrameEnd U o U' L ({ frames := 0, cells := 0, slots := 0, locals := 0 } : Room).cells ({ frames := 0, cells := 0, slots := 0, locals := 0 } : Room).slots) := by
  refine MetFree.of_bodySF (plainFor_of_name pn_0) hisR ?_
  intro p e s m args below meth c s₁ Bd hml0 hP hK
  obtain ⟨rfl, hZ, hh⟩ := hP
  have hx := Bd.exec
  have hby := Bd.bytes
  have hml : c.maxLocals = 4 := hml0
  have hown : s.vm.findClass "com/example/queue_manager_rpc/queuemanagerrpc/Cursor" = some m.cls := findClass_of_methodNamed Bd.named
  have hnm := (name_of_methodNamed Bd.named Bd.method).1
  have hlk := BodyLoose.notSynchronized Bd
  have X0 : Stand p l e ({ frames := 0, cells := 0, slots := 0, locals := 0 } : Room) s m #[(.ref ob), (.long vd), (.int (0 : Int32))] below meth c s₁ [] 0 0 := Stand.of_body Bd
  have e0 : s₁.heap = h0 := by rw [← hh, Bd.state]; rfl
  have N0 := Fr.nil n0
  refine Go.start (P := fun o U' => ∃ v L, o = .returned v ∧ Q_move0 Z ob vd ud uo h0 n0 v U'.heap L ∧ FrameEnd s o U' L ({ frames := 0, cells := 0, slots := 0, locals := 0 } : Room).cells ({ frames := 0, cells := 0, slots := 0, locals := 0 } : Room).slots) (ef_move0 m ob vd) ?_
  show Go p e below _ (s₁.setTop (mkF m 0 #[.val (.ref ob), .val (.long vd), .second, .val (.int (0 : Int32))] []))
  refine Go.by (fun t k => XS.aloadN X0.here hx rfl (hb hby d3_0) rfl rfl k) ?_
  show Go p e below _ (s₁.setTop (mkF m 1 #[.val (.ref ob), .val (.long vd), .second, .val (.int (0 : Int32))] [(.ref ob)]))
  refine Go.by (fun t k => XS.lloadN X0.here hx rfl (hb hby d3_1) rfl k) ?_
  show Go p e below _ (s₁.setTop (mkF m 2 #[.val (.ref ob), .val (.long vd), .second, .val (.int (0 : Int32))] [(.long vd), (.ref ob)]))
  obtain ⟨T1, h1, X1, e1, W1, st1⟩ := putF X0 hx hZ hown (host := "") (Or.inl (hw _ (List.mem_of_getElem? (i := 14) rfl))) Via.refl e0 P1 P0 (Or.inl (hw _ (List.mem_of_getElem? (i := 15) rfl))) (hw _ (List.mem_of_getElem? (i := 1) rfl)) (ty := .long) (by decide) rfl rfl (g := (mkF m 2 #[.val (.ref ob), .val (.long vd), .second, .val (.int (0 : Int32))] [(.long vd), (.ref ob)])) rfl rfl (hb hby d3_2)
  have N1 := Fr.snoc X1 N0 gob
  have F2 : Fld Z h1 ob "com/example/queue_manager_rpc/queuemanagerrpc/Cursor" "lookupId" "J" (.long vd) := P1.same W1
  refine Go.by st1 ?_
  show Go p e below _ (T1.setTop (mkF m 5 #[.val (.ref ob), .val (.long vd), .second, .val (.int (0 : Int32))] []))
  refine Go.by (fun t k => XS.aloadN X1.here hx rfl (hb hby d3_5) rfl rfl k) ?_
  show Go p e below _ (T1.setTop (mkF m 6 #[.val (.ref ob), .val (.long vd), .second, .val (.int (0 : Int32))] [(.ref ob)]))
  refine Go.by (fun t k => XS.iloadN X1.here hx rfl (hb hby d3_6) rfl k) ?_
  show Go p e below _ (T1.setTop (mkF m 7 #[.val (.ref ob), .val (.long vd), .second, .val (.int (0 : Int32))] [(.int (0 : Int32)), (.ref ob)]))
  refine Go.by (fun t k => XS.ifNo X1.here hx rfl (hb hby d3_7) rfl ((if0 _ _).trans (teq rfl).2) k) ?_
  show Go p e below _ (T1.setTop (mkF m 10 #[.val (.ref ob), .val (.long vd), .second, .val (.int (0 : Int32))] [(.ref ob)]))
  refine Go.by (fun t k => XS.iconst X1.here hx rfl (hb hby d3_10) k) ?_
  show Go p e below _ (T1.setTop (mkF m 11 #[.val (.ref ob), .val (.long vd), .second, .val (.int (0 : Int32))] [(.int (1 : Int32)), (.ref ob)]))
  refine Go.by (fun t k => XS.goto X1.here hx rfl (pc0 := 11) (pc' := 15) rfl (hb hby d3_11) (by decide) (by decide) k) ?_
  show Go p e below _ (T1.setTop (mkF m 15 #[.val (.ref ob), .val (.long vd), .second, .val (.int (0 : Int32))] [(.int (1 : Int32)), (.ref ob)]))
  have F3 : Fld Z h1 ob "com/example/queue_manager_rpc/queuemanagerrpc/Cursor" "onMessage" "Z" (.int uo) := (P2.other W1 (Or.inr (slot_ne (Or.inl (hw _ (List.mem_of_getElem? (i := 17) rfl))) (Or.inl (hw _ (List.mem_of_getElem? (i := 15) rfl))) (by decide) (t := .boolean) (t' := .long) (by decide) (by decide))))
  have F4 : Exa Z h1 ob "com/example/queue_manager_rpc/queuemanagerrpc/Cursor" := (P0.wr W1)
  obtain ⟨T5, h5, X5, e5, W5, st5⟩ := putFN X1 hx hZ hown (hw _ (List.mem_of_getElem? (i := 16) rfl)) Via.refl e1 F3 F4 (Or.inl (hw _ (List.mem_of_getElem? (i := 17) rfl))) (hw _ (List.mem_of_getElem? (i := 1) rfl)) (ty := .boolean) (v' := (.int (1 : Int32))) (by decide) rfl rfl (g := (mkF m 15 #[.val (.ref ob), .val (.long vd), .second, .val (.int (0 : Int32))] [(.int (1 : Int32)), (.ref ob)])) rfl rfl (hb hby d3_15)
  have N5 := Fr.snoc X5 N1 gob
  have F6 : Fld Z h5 ob "com/example/queue_manager_rpc/queuemanagerrpc/Cursor" "onMessage" "Z" (.int (1 : Int32)) := F3.same W5
  refine Go.by st5 ?_
  show Go p e below _ (T5.setTop (mkF m 18 #[.val (.ref ob), .val (.long vd), .second, .val (.int (0 : Int32))] []))
  have F7 : Keep h0 h5 [ob] := (((Keep.refl h0 [ob]).wr W1 (Or.inl (List.mem_of_getElem? (i := 0) rfl))).wr W5 (Or.inl (List.mem_of_getElem? (i := 0) rfl)))
  have F8 : Exa Z h5 ob "com/example/queue_manager_rpc/queuemanagerrpc/Cursor" := (F4.wr W5)
  have F9 : Fld Z h5 ob "com/example/queue_manager_rpc/queuemanagerrpc/Cursor" "lookupId" "J" (.long vd) := (F2.other W5 (Or.inr (slot_ne (Or.inl (hw _ (List.mem_of_getElem? (i := 15) rfl))) (Or.inl (hw _ (List.mem_of_getElem? (i := 17) rfl))) (by decide) (t := .long) (t' := .boolean) (by decide) (by decide))))
  have hq : Q_move0 Z ob vd ud uo h0 n0 none h5 _ := ⟨rfl, N5, F7, F8, F9, F6⟩
  exact Go.ret0 X5 hx Bd.returns hlk (hb hby d3_18) (by decide) (by decide) (by rw [e5]; exact hq)
theorem d4_0 : decode prog_5_method_4_code 0 = .ok (.aload_n 0, 1) := by decide +kernel
theorem d4_1 : decode prog_5_method_4_code 1 = .ok (.getfield 7, 3) := by decide +kernel
theorem d4_4 : decode prog_5_method_4_code 4 = .ok (.ireturn, 1) := by decide +kernel
theorem ef_isOn1 (m : MethodId) (ob : Addr) : entryFrame m #[(.ref ob)] 1 = mkF m 0 #[.val (.ref ob)] [] := by first | (simp [entryFrame, mkF, argsToLocals, Value.category]; done) | rfl
def Q_isOn1 (Z : State) (ob : Addr) (h0 : Heap) (n0 : Nat) (v : Option Value) (h : Heap) (L : List Loc) : Prop := v = some (.int (1 : Int32)) ∧ Fr n0 L ∧ h = h0
set_option maxRecDepth 65536 in
set_option maxHeartbeats 40000000 in
theorem isOn1 (l : Launch) (Z : State) (a0 : Array Value) (hw : ∀ d ∈ tables_1, d.before a0 Z = true) (ws : List Jvm.Cond) (ob : Addr) (h0 : Heap) (n0 : Nat) (O0 : Old Z n0 h0) (P0 : Fld Z h0 ob "com/example/queue_manager_rpc/queuemanagerrpc/Cursor" "onMessage" "Z" (.int (1 : Int32))) :
    MetFree l (⟨"com/example/queue_manager_rpc/queuemanagerrpc/Cursor", "isOnMessage", "()Z"⟩ : MethodName) (head1 (Jvm.Cond.code (⟨"com/example/queue_manager_rpc/queuemanagerrpc/Cursor", "isOnMessage", "()Z"⟩ : MethodName) prog_5_method_4_code 1 (some .boolean) :: ws) ({ frames := 0, cells := 0, slots := 0, locals := 0 } : Room)) (fun a U => a = #[(.ref ob)] ∧ Z.Warmed39 U.vm ∧ U.heap = h0) (fun _ _ _ _ _ => True) (fun _ U o U' => ∃ v L, o = .returned v ∧ Q_isOn1 Z ob h0 n0 v U'.heap L ∧ FrameEnd U o U' L ({ frames := 0, cells := 0, slots := 0, locals := 0 } : Room).cells ({ frames := 0, cells := 0, slots := 0, locals := 0 } : Room).slots) := by
  refine MetFree.of_bodySF (plainFor_of_name pn_0) hisR ?_
  intro p e s m args below meth c s₁ Bd hml0 hP hK
  obtain ⟨rfl, hZ, hh⟩ := hP
  have hx := Bd.exec
  have hby := Bd.bytes
  have hml : c.maxLocals = 1 := hml0
  have hown : s.vm.findClass "com/example/queue_manager_rpc/queuemanagerrpc/Cursor" = some m.cls := findClass_of_methodNamed Bd.named
  have hnm := (name_of_methodNamed Bd.named Bd.method).1
  have hlk := BodyLoose.notSynchronized Bd
  have X0 : Stand p l e ({ frames := 0, cells := 0, slots := 0, locals := 0 } : Room) s m #[(.ref ob)] below meth c s₁ [] 0 0 := Stand.of_body Bd
  have e0 : s₁.heap = h0 := by rw [← hh, Bd.state]; rfl
  have N0 := Fr.nil n0
  refine Go.start (P := fun o U' => ∃ v L, o = .returned v ∧ Q_isOn1 Z ob h0 n0 v U'.heap L ∧ FrameEnd s o U' L ({ frames := 0, cells := 0, slots := 0, locals := 0 } : Room).cells ({ frames := 0, cells := 0, slots := 0, locals := 0 } : Room).slots) (ef_isOn1 m ob) ?_
  show Go p e below _ (s₁.setTop (mkF m 0 #[.val (.ref ob)] []))
  refine Go.by (fun t k => XS.aloadN X0.here hx rfl (hb hby d4_0) rfl rfl k) ?_
  show Go p e below _ (s₁.setTop (mkF m 1 #[.val (.ref ob)] [(.ref ob)]))
  obtain ⟨T1, X1, e1, st1⟩ := getF X0 hx hZ hown (host := "") (Or.inl (hw _ (List.mem_of_getElem? (i := 16) rfl))) Via.refl e0 P0 (g := (mkF m 1 #[.val (.ref ob)] [(.ref ob)])) rfl rfl (hb hby d4_1)
  refine Go.by st1 ?_
  show Go p e below _ (T1.setTop (mkF m 4 #[.val (.ref ob)] [(.int (1 : Int32))]))
  have hq : Q_isOn1 Z ob h0 n0 (some (.int (nar .boolean (1 : Int32)))) h0 _ := ⟨rfl, N0, rfl⟩
  exact Go.retN X1 hx (t := .boolean) Bd.returns (by simp) hlk (hb hby d4_4) (by decide) (by decide) (by rw [e1]; exact hq)
theorem ef_isOn0 (m : MethodId) (ob : Addr) : entryFrame m #[(.ref ob)] 1 = mkF m 0 #[.val (.ref ob)] [] := by first | (simp [entryFrame, mkF, argsToLocals, Value.category]; done) | rfl
def Q_isOn0 (Z : State) (ob : Addr) (h0 : Heap) (n0 : Nat) (v : Option Value) (h : Heap) (L : List Loc) : Prop := v = some (.int (0 : Int32)) ∧ Fr n0 L ∧ h = h0
set_option maxRecDepth 65536 in
set_option maxHeartbeats 40000000 in
theorem isOn0 (l : Launch) (Z : State) (a0 : Array Value) (hw : ∀ d ∈ tables_1, d.before a0 Z = true) (ws : List Jvm.Cond) (ob : Addr) (h0 : Heap) (n0 : Nat) (O0 : Old Z n0 h0) (P0 : Fld Z h0 ob "com/example/queue_manager_rpc/queuemanagerrpc/Cursor" "onMessage" "Z" (.int (0 : Int32))) :
    MetFree l (⟨"com/example/queue_manager_rpc/queuemanagerrpc/Cursor", "isOnMessage", "()Z"⟩ : MethodName) (head1 (Jvm.Cond.code (⟨"com/example/queue_manager_rpc/queuemanagerrpc/Cursor", "isOnMessage", "()Z"⟩ : MethodName) prog_5_method_4_code 1 (some .boolean) :: ws) ({ frames := 0, cells := 0, slots := 0, locals := 0 } : Room)) (fun a U => a = #[(.ref ob)] ∧ Z.Warmed39 U.vm ∧ U.heap = h0) (fun _ _ _ _ _ => True) (fun _ U o U' => ∃ v L, o = .returned v ∧ Q_isOn0 Z ob h0 n0 v U'.heap L ∧ FrameEnd U o U' L ({ frames := 0, cells := 0, slots := 0, locals := 0 } : Room).cells ({ frames := 0, cells := 0, slots := 0, locals := 0 } : Room).slots) := by
  refine MetFree.of_bodySF (plainFor_of_name pn_0) hisR ?_
  intro p e s m args below meth c s₁ Bd hml0 hP hK
  obtain ⟨rfl, hZ, hh⟩ := hP
  have hx := Bd.exec
  have hby := Bd.bytes
  have hml : c.maxLocals = 1 := hml0
  have hown : s.vm.findClass "com/example/queue_manager_rpc/queuemanagerrpc/Cursor" = some m.cls := findClass_of_methodNamed Bd.named
  have hnm := (name_of_methodNamed Bd.named Bd.method).1
  have hlk := BodyLoose.notSynchronized Bd
  have X0 : Stand p l e ({ frames := 0, cells := 0, slots := 0, locals := 0 } : Room) s m #[(.ref ob)] below meth c s₁ [] 0 0 := Stand.of_body Bd
  have e0 : s₁.heap = h0 := by rw [← hh, Bd.state]; rfl
  have N0 := Fr.nil n0
  refine Go.start (P := fun o U' => ∃ v L, o = .returned v ∧ Q_isOn0 Z ob h0 n0 v U'.heap L ∧ FrameEnd s o U' L ({ frames := 0, cells := 0, slots := 0, locals := 0 } : Room).cells ({ frames := 0, cells := 0, slots := 0, locals := 0 } : Room).slots) (ef_isOn0 m ob) ?_
  show Go p e below _ (s₁.setTop (mkF m 0 #[.val (.ref ob)] []))
  refine Go.by (fun t k => XS.aloadN X0.here hx rfl (hb hby d4_0) rfl rfl k) ?_
  show Go p e below _ (s₁.setTop (mkF m 1 #[.val (.ref ob)] [(.ref ob)]))
  obtain ⟨T1, X1, e1, st1⟩ := getF X0 hx hZ hown (host := "") (Or.inl (hw _ (List.mem_of_getElem? (i := 16) rfl))) Via.refl e0 P0 (g := (mkF m 1 #[.val (.ref ob)] [(.ref ob)])) rfl rfl (hb hby d4_1)
  refine Go.by st1 ?_
  show Go p e below _ (T1.setTop (mkF m 4 #[.val (.ref ob)] [(.int (0 : Int32))]))
  have hq : Q_isOn0 Z ob h0 n0 (some (.int (nar .boolean (0 : Int32)))) h0 _ := ⟨rfl, N0, rfl⟩
  exact Go.retN X1 hx (t := .boolean) Bd.returns (by simp) hlk (hb hby d4_4) (by decide) (by decide) (by rw [e1]; exact hq)
theorem pn_1 : plainName "com/example/queue_manager_rpc/queuemanagerrpc/Position" = true := by first | (simp [plainName, overriddenIn]; done) | decide +kernel
theorem d7_0 : decode prog_10_method_1_code 0 = .ok (.aload_n 0, 1) := by decide +kernel
theorem d7_1 : decode prog_10_method_1_code 1 = .ok (.invokespecial 1, 3) := by decide +kernel
theorem d7_4 : decode prog_10_method_1_code 4 = .ok (.aload_n 0, 1) := by decide +kernel
theorem d7_5 : decode prog_10_method_1_code 5 = .ok (.aload_n 1, 1) := by decide +kernel
theorem d7_6 : decode prog_10_method_1_code 6 = .ok (.putfield 7, 3) := by decide +kernel
theorem d7_9 : decode prog_10_method_1_code 9 = .ok (.aload_n 0, 1) := by decide +kernel
theorem d7_10 : decode prog_10_method_1_code 10 = .ok (.lload_n 2, 1) := by decide +kernel
theorem d7_11 : decode prog_10_method_1_code 11 = .ok (.putfield 13, 3) := by decide +kernel
theorem d7_14 : decode prog_10_method_1_code 14 = .ok (.return_, 1) := by decide +kernel
theorem ef_pinit (m : MethodId) (ob : Addr) (kk : Addr) (vd : Int64) : entryFrame m #[(.ref ob), (.ref kk), (.long vd)] 4 = mkF m 0 #[.val (.ref ob), .val (.ref kk), .val (.long vd), .second] [] := by first | (simp [entryFrame, mkF, argsToLocals, Value.category]; done) | rfl
def Q_pinit (Z : State) (ob : Addr) (kk : Addr) (vd : Int64) (h0 : Heap) (n0 : Nat) (v : Option Value) (h : Heap) (L : List Loc) : Prop := v = none ∧ Fr n0 L ∧ Keep h0 h [ob] ∧ Exa Z h ob "com/example/queue_manager_rpc/queuemanagerrpc/Position" ∧ Fld Z h ob "com/example/queue_manager_rpc/queuemanagerrpc/Position" "kind" "Lcom/example/queue_manager_rpc/queuemanagerrpc/Position$Kind;" (.ref kk) ∧ Fld Z h ob "com/example/queue_manager_rpc/queuemanagerrpc/Position" "lookupId" "J" (.long vd)
set_option maxRecDepth 65536 in
set_option maxHeartbeats 40000000 in
theorem pinit (l : Launch) (Z : State) (a0 : Array Value) (hw : ∀ d ∈ tables_1, d.before a0 Z = true) (ws : List Jvm.Cond) (ob : Addr) (kk : Addr) (vd : Int64) (h0 : Heap) (n0 : Nat) (O0 : Old Z n0 h0) (P0 : Exa Z h0 ob "com/example/queue_manager_rpc/queuemanagerrpc/Position") (P1 : Fld Z h0 ob "com/example/queue_manager_rpc/queuemanagerrpc/Position" "kind" "Lcom/example/queue_manager_rpc/queuemanagerrpc/Position$Kind;" .null) (P2 : Fld Z h0 ob "com/example/queue_manager_rpc/queuemanagerrpc/Position" "lookupId" "J" (.long (0 : Int64))) (gob : n0 ≤ ob) :
    MetFree l (⟨"com/example/queue_manager_rpc/queuemanagerrpc/Position", "<init>", "(Lcom/example/queue_manager_rpc/queuemanagerrpc/Position$Kind;J)V"⟩ : MethodName) (head1 (Jvm.Cond.code (⟨"com/example/queue_manager_rpc/queuemanagerrpc/Position", "<init>", "(Lcom/example/queue_manager_rpc/queuemanagerrpc/Position$Kind;J)V"⟩ : MethodName) prog_10_method_1_code 4 none :: ws) ({ frames := 1, cells := 0, slots := 0, locals := 12 } : Room)) (fun a U => a = #[(.ref ob), (.ref kk), (.long vd)] ∧ Z.Warmed39 U.vm ∧ U.heap = h0) (fun _ _ _ _ _ => True) (fun _ U o U' => ∃ v L, o = .returned v ∧ Q_pinit Z ob kk vd h0 n0 v U'.heap L ∧ FrameEnd U o U' L ({ frames := 1, cells := 0, slots := 0, locals := 12 } : Room).cells ({ frames := 1, cells := 0, slots := 0, locals := 12 } : Room).slots) := by
  refine MetFree.of_bodySF (plainFor_of_name pn_1) hisR ?_
  intro p e s m args below meth c s₁ Bd hml0 hP hK
  obtain ⟨rfl, hZ, hh⟩ := hP
  have hx := Bd.exec
  have hby := Bd.bytes
  have hml : c.maxLocals = 4 := hml0
  have hown : s.vm.findClass "com/example/queue_manager_rpc/queuemanagerrpc/Position" = some m.cls := findClass_of_methodNamed Bd.named
  have hnm := (name_of_methodNamed Bd.named Bd.method).1
  have hlk := BodyLoose.notSynchronized Bd
  have X0 : Stand p l e ({ frames := 1, cells := 0, slots := 0, locals := 12 } : Room) s m #[(.ref ob), (.ref kk), (.long vd)] below meth c s₁ [] 0 0 := Stand.of_body Bd
  have e0 : s₁.heap = h0 := by rw [← hh, Bd.state]; rfl
  have N0 := Fr.nil n0
  refine Go.start (P := fun o U' => ∃ v L, o = .returned v ∧ Q_pinit Z ob kk vd h0 n0 v U'.heap L ∧ FrameEnd s o U' L ({ frames := 1, cells := 0, slots := 0, locals := 12 } : Room).cells ({ frames := 1, cells := 0, slots := 0, locals := 12 } : Room).slots) (ef_pinit m ob kk vd) ?_
  show Go p e below _ (s₁.setTop (mkF m 0 #[.val (.ref ob), .val (.ref kk), .val (.long vd), .second] []))
  refine Go.by (fun t k => XS.aloadN X0.here hx rfl (hb hby d7_0) rfl rfl k) ?_
  show Go p e below _ (s₁.setTop (mkF m 1 #[.val (.ref ob), .val (.ref kk), .val (.long vd), .second] [(.ref ob)]))
  obtain ⟨T1, X1, e1, st1⟩ := initO X0 hx hZ hown (hw _ (List.mem_of_getElem? (i := 40) rfl)) (hw _ (List.mem_of_getElem? (i := 7) rfl)) (hw _ (List.mem_of_getElem? (i := 8) rfl)) e0 (g := (mkF m 1 #[.val (.ref ob), .val (.ref kk), .val (.long vd), .second] [(.ref ob)])) rfl (by rw [hml]; rfl) rfl (hb hby d7_1) (by decide) (W := 0) (by show 2 * 0 + _ ≤ _; exact Nat.le_of_eq rfl) (by decide)
  refine Go.by st1 ?_
  show Go p e below _ (T1.setTop (mkF m 4 #[.val (.ref ob), .val (.ref kk), .val (.long vd), .second] []))
  refine Go.by (fun t k => XS.aloadN X1.here hx rfl (hb hby d7_4) rfl rfl k) ?_
  show Go p e below _ (T1.setTop (mkF m 5 #[.val (.ref ob), .val (.ref kk), .val (.long vd), .second] [(.ref ob)]))
  refine Go.by (fun t k => XS.aloadN X1.here hx rfl (hb hby d7_5) rfl rfl k) ?_
  show Go p e below _ (T1.setTop (mkF m 6 #[.val (.ref ob), .val (.ref kk), .val (.long vd), .second] [(.ref kk), (.ref ob)]))
  obtain ⟨T2, h2, X2, e2, W2, st2⟩ := putF X1 hx hZ hown (host := "") (Or.inl (hw _ (List.mem_of_getElem? (i := 41) rfl))) Via.refl e1 P1 P0 (Or.inr ⟨(hw _ (List.mem_of_getElem? (i := 42) rfl)), rfl, hnm⟩) (hw _ (List.mem_of_getElem? (i := 33) rfl)) (ty := (.object "com/example/queue_manager_rpc/queuemanagerrpc/Position$Kind")) (by decide) rfl rfl (g := (mkF m 6 #[.val (.ref ob), .val (.ref kk), .val (.long vd), .second] [(.ref kk), (.ref ob)])) rfl rfl (hb hby d7_6)
  have N2 := Fr.snoc X2 N0 gob
  have F3 : Fld Z h2 ob "com/example/queue_manager_rpc/queuemanagerrpc/Position" "kind" "Lcom/example/queue_manager_rpc/queuemanagerrpc/Position$Kind;" (.ref kk) := P1.same W2
  refine Go.by st2 ?_
  show Go p e below _ (T2.setTop (mkF m 9 #[.val (.ref ob), .val (.ref kk), .val (.long vd), .second] []))
  refine Go.by (fun t k => XS.aloadN X2.here hx rfl (hb hby d7_9) rfl rfl k) ?_
  show Go p e below _ (T2.setTop (mkF m 10 #[.val (.ref ob), .val (.ref kk), .val (.long vd), .second] [(.ref ob)]))
  refine Go.by (fun t k => XS.lloadN X2.here hx rfl (hb hby d7_10) rfl k) ?_
  show Go p e below _ (T2.setTop (mkF m 11 #[.val (.ref ob), .val (.ref kk), .val (.long vd), .second] [(.long vd), (.ref ob)]))
  have F4 : Fld Z h2 ob "com/example/queue_manager_rpc/queuemanagerrpc/Position" "lookupId" "J" (.long (0 : Int64)) := (P2.other W2 (Or.inr (slot_ne (Or.inr (hw _ (List.mem_of_getElem? (i := 44) rfl))) (Or.inr (hw _ (List.mem_of_getElem? (i := 42) rfl))) (by decide) (t := .long) (t' := (.object "com/example/queue_manager_rpc/queuemanagerrpc/Position$Kind")) (by decide) (by decide))))
  have F5 : Exa Z h2 ob "com/example/queue_manager_rpc/queuemanagerrpc/Position" := (P0.wr W2)
  obtain ⟨T6, h6, X6, e6, W6, st6⟩ := putF X2 hx hZ hown (host := "") (Or.inl (hw _ (List.mem_of_getElem? (i := 43) rfl))) Via.refl e2 F4 F5 (Or.inr ⟨(hw _ (List.mem_of_getElem? (i := 44) rfl)), rfl, hnm⟩) (hw _ (List.mem_of_getElem? (i := 33) rfl)) (ty := .long) (by decide) rfl rfl (g := (mkF m 11 #[.val (.ref ob), .val (.ref kk), .val (.long vd), .second] [(.long vd), (.ref ob)])) rfl rfl (hb hby d7_11)
  have N6 := Fr.snoc X6 N2 gob
  have F7 : Fld Z h6 ob "com/example/queue_manager_rpc/queuemanagerrpc/Position" "lookupId" "J" (.long vd) := F4.same W6
  refine Go.by st6 ?_
  show Go p e below _ (T6.setTop (mkF m 14 #[.val (.ref ob), .val (.ref kk), .val (.long vd), .second] []))
  have F8 : Keep h0 h6 [ob] := (((Keep.refl h0 [ob]).wr W2 (Or.inl (List.mem_of_getElem? (i := 0) rfl))).wr W6 (Or.inl (List.mem_of_getElem? (i := 0) rfl)))
  have F9 : Exa Z h6 ob "com/example/queue_manager_rpc/queuemanagerrpc/Position" := (F5.wr W6)
  have F10 : Fld Z h6 ob "com/example/queue_manager_rpc/queuemanagerrpc/Position" "kind" "Lcom/example/queue_manager_rpc/queuemanagerrpc/Position$Kind;" (.ref kk) := (F3.other W6 (Or.inr (slot_ne (Or.inr (hw _ (List.mem_of_getElem? (i := 42) rfl))) (Or.inr (hw _ (List.mem_of_getElem? (i := 44) rfl))) (by decide) (t := (.object "com/example/queue_manager_rpc/queuemanagerrpc/Position$Kind")) (t' := .long) (by decide) (by decide))))
  have hq : Q_pinit Z ob kk vd h0 n0 none h6 _ := ⟨rfl, N6, F8, F9, F10, F7⟩
  exact Go.ret0 X6 hx Bd.returns hlk (hb hby d7_14) (by decide) (by decide) (by rw [e6]; exact hq)
theorem d6_0 : decode prog_10_method_2_code 0 = .ok (.new 8, 3) := by decide +kernel
theorem d6_3 : decode prog_10_method_2_code 3 = .ok (.dup, 1) := by decide +kernel
theorem d6_4 : decode prog_10_method_2_code 4 = .ok (.getstatic 17, 3) := by decide +kernel
theorem d6_7 : decode prog_10_method_2_code 7 = .ok (.lload_n 0, 1) := by decide +kernel
theorem d6_8 : decode prog_10_method_2_code 8 = .ok (.invokespecial 22, 3) := by decide +kernel
theorem pd_0 : parseMethodDescriptor "(Lcom/example/queue_manager_rpc/queuemanagerrpc/Position$Kind;J)V" = some ⟨[(.object "com/example/queue_manager_rpc/queuemanagerrpc/Position$Kind"), .long], none⟩ := by decide +kernel
theorem d6_11 : decode prog_10_method_2_code 11 = .ok (.areturn, 1) := by decide +kernel
theorem ef_p_at (m : MethodId) (vd : Int64) : entryFrame m #[(.long vd)] 2 = mkF m 0 #[.val (.long vd), .second] [] := by first | (simp [entryFrame, mkF, argsToLocals, Value.category]; done) | rfl
def Q_p_at (Z : State) (vd : Int64) (kat : Addr) (h0 : Heap) (n0 : Nat) (v : Option Value) (h : Heap) (L : List Loc) : Prop := ∃ ob : Addr, v = some (.ref ob) ∧ Fr n0 L ∧ Keep h0 h [] ∧ h0.size ≤ ob ∧ Exa Z h ob "com/example/queue_manager_rpc/queuemanagerrpc/Position" ∧ Fld Z h ob "com/example/queue_manager_rpc/queuemanagerrpc/Position" "kind" "Lcom/example/queue_manager_rpc/queuemanagerrpc/Position$Kind;" (.ref kat) ∧ Fld Z h ob "com/example/queue_manager_rpc/queuemanagerrpc/Position" "lookupId" "J" (.long vd)
set_option maxRecDepth 65536 in
set_option maxHeartbeats 40000000 in
theorem p_at (l : Launch) (Z : State) (a0 : Array Value) (hw : ∀ d ∈ tables_1, d.before a0 Z = true) (ws : List Jvm.Cond) (vd : Int64) (kat : Addr) (h0 : Heap) (n0 : Nat) (O0 : Old Z n0 h0) (P0 : Sta Z Z.heap "com/example/queue_manager_rpc/queuemanagerrpc/Position$Kind" "AT" "Lcom/example/queue_manager_rpc/queuemanagerrpc/Position$Kind;" (.ref kat)) :
    MetFree l (⟨"com/example/queue_manager_rpc/queuemanagerrpc/Position", "at", "(J)Lcom/example/queue_manager_rpc/queuemanagerrpc/Position;"⟩ : MethodName) (head1 (Jvm.Cond.code (⟨"com/example/queue_manager_rpc/queuemanagerrpc/Position", "at", "(J)Lcom/example/queue_manager_rpc/queuemanagerrpc/Position;"⟩ : MethodName) prog_10_method_2_code 2 (some (.object "com/example/queue_manager_rpc/queuemanagerrpc/Position")) :: ws) ({ frames := 2, cells := 1, slots := 2, locals := 28 } : Room)) (fun a U => a = #[(.long vd)] ∧ Z.Warmed39 U.vm ∧ U.heap = h0) (fun _ _ _ _ _ => True) (fun _ U o U' => ∃ v L, o = .returned v ∧ Q_p_at Z vd kat h0 n0 v U'.heap L ∧ FrameEnd U o U' L ({ frames := 2, cells := 1, slots := 2, locals := 28 } : Room).cells ({ frames := 2, cells := 1, slots := 2, locals := 28 } : Room).slots) := by
  refine MetFree.of_bodySF (plainFor_of_name pn_1) hisR ?_
  intro p e s m args below meth c s₁ Bd hml0 hP hK
  obtain ⟨rfl, hZ, hh⟩ := hP
  have hx := Bd.exec
  have hby := Bd.bytes
  have hml : c.maxLocals = 2 := hml0
  have hown : s.vm.findClass "com/example/queue_manager_rpc/queuemanagerrpc/Position" = some m.cls := findClass_of_methodNamed Bd.named
  have hnm := (name_of_methodNamed Bd.named Bd.method).1
  have hlk := BodyLoose.notSynchronized Bd
  have X0 : Stand p l e ({ frames := 2, cells := 1, slots := 2, locals := 28 } : Room) s m #[(.long vd)] below meth c s₁ [] 0 0 := Stand.of_body Bd
  have e0 : s₁.heap = h0 := by rw [← hh, Bd.state]; rfl
  have N0 := Fr.nil n0
  refine Go.start (P := fun o U' => ∃ v L, o = .returned v ∧ Q_p_at Z vd kat h0 n0 v U'.heap L ∧ FrameEnd s o U' L ({ frames := 2, cells := 1, slots := 2, locals := 28 } : Room).cells ({ frames := 2, cells := 1, slots := 2, locals := 28 } : Room).slots) (ef_p_at m vd) ?_
  show Go p e below _ (s₁.setTop (mkF m 0 #[.val (.long vd), .second] []))
  obtain ⟨T1, h1, X1, e1, E1, A1, D1, -, st1⟩ := newO X0 hx hZ hown (hw _ (List.mem_of_getElem? (i := 32) rfl)) (hw _ (List.mem_of_getElem? (i := 33) rfl)) (hw _ (List.mem_of_getElem? (i := 30) rfl)) e0 (g := (mkF m 0 #[.val (.long vd), .second] [])) rfl (hb hby d6_0) (by decide) (by decide)
  obtain ⟨b1, g1⟩ : ∃ z, z = h0.size := ⟨_, rfl⟩
  rw [← g1] at A1 D1 st1
  have gl1 : h0.size ≤ b1 := Nat.le_of_eq g1.symm
  have ge1 : n0 ≤ b1 := Nat.le_trans (own_old_size O0) gl1
  have sz1 : h0.size ≤ b1 := Nat.le_trans (Keep.refl h0 []).1 gl1
  have F2 : Fld Z h1 b1 "com/example/queue_manager_rpc/queuemanagerrpc/Position" "kind" "Lcom/example/queue_manager_rpc/queuemanagerrpc/Position$Kind;" .null := D1 (Or.inr (hw _ (List.mem_of_getElem? (i := 42) rfl))) (ty := (.object "com/example/queue_manager_rpc/queuemanagerrpc/Position$Kind")) (by decide)
  have F3 : Fld Z h1 b1 "com/example/queue_manager_rpc/queuemanagerrpc/Position" "lookupId" "J" (.long (0 : Int64)) := D1 (Or.inr (hw _ (List.mem_of_getElem? (i := 44) rfl))) (ty := .long) (by decide)
  refine Go.by st1 ?_
  show Go p e below _ (T1.setTop (mkF m 3 #[.val (.long vd), .second] [(.ref b1)]))
  refine Go.by (fun t k => XS.dup X1.here hx rfl (hb hby d6_3) rfl rfl k) ?_
  show Go p e below _ (T1.setTop (mkF m 4 #[.val (.long vd), .second] [(.ref b1), (.ref b1)]))
  have F5 : Old Z n0 h1 := (O0.ext E1)
  have F4 : Sta Z h1 "com/example/queue_manager_rpc/queuemanagerrpc/Position$Kind" "AT" "Lcom/example/queue_manager_rpc/queuemanagerrpc/Position$Kind;" (.ref kat) := P0.ext F5.2
  obtain ⟨T6, X6, e6, st6⟩ := getS2 X1 hx hZ hown (host := "") (Or.inl (hw _ (List.mem_of_getElem? (i := 34) rfl))) Via.refl e1 F4 (g := (mkF m 4 #[.val (.long vd), .second] [(.ref b1), (.ref b1)])) rfl (hb hby d6_4)
  refine Go.by st6 ?_
  show Go p e below _ (T6.setTop (mkF m 7 #[.val (.long vd), .second] [(.ref kat), (.ref b1), (.ref b1)]))
  refine Go.by (fun t k => XS.lloadN X6.here hx rfl (hb hby d6_7) rfl k) ?_
  show Go p e below _ (T6.setTop (mkF m 8 #[.val (.long vd), .second] [(.long vd), (.ref kat), (.ref b1), (.ref b1)]))
  have F8 : Keep h0 h1 [] := ((Keep.refl h0 []).ext E1)
  obtain ⟨_, _, ⟨T7, L7, k7, n7⟩, -, X7, ⟨Lc7, hQ7, l7, y7, z7⟩, st7⟩ := X6.specialBack hx (y := (⟨"com/example/queue_manager_rpc/queuemanagerrpc/Position", "<init>", "(Lcom/example/queue_manager_rpc/queuemanagerrpc/Position$Kind;J)V"⟩ : MethodName)) rfl hown (mvT hZ (hw _ (List.mem_of_getElem? (i := 37) rfl))) (mvT hZ (hw _ (List.mem_of_getElem? (i := 38) rfl))) (mvT hZ (hw _ (List.mem_of_getElem? (i := 39) rfl))) (by decide) (backOf (W := 1) (pinit l Z a0 hw [] b1 kat vd h1 n0 F5 A1 F2 F3 ge1) hZ (hw _ (List.mem_of_getElem? (i := 39) rfl)) (hw _ (List.mem_of_getElem? (i := 30) rfl)) (by decide) (by decide)) (g := (mkF m 8 #[.val (.long vd), .second] [(.long vd), (.ref kat), (.ref b1), (.ref b1)])) rfl (by rw [hml]; rfl) (Steps.refl _) (a := b1) (argsL := [(.ref kat), (.long vd)]) (rest := [(.ref b1)]) (lenOf pd_0 rfl) rfl (by show 2 * 0 + _ ≤ _; exact Nat.le_of_eq rfl) (hb hby d6_8) (fun _ _ => ⟨rfl, e6, (by decide : 1 + 0 ≤ _), (by decide : 2 + 0 ≤ _)⟩)
  dsimp only [Pt.U, Pt.locs, Pt.cells, Pt.slots] at X7 l7 y7 z7 st7 hQ7
  subst l7 y7 z7
  obtain ⟨rfl, N7q, K7, F7_0, F7_1, F7_2⟩ := hQ7
  have N7 := Fr.app N0 N7q
  refine Go.tr st7 ?_
  show Go p e below _ (T7.setTop (mkF m 11 #[.val (.long vd), .second] [(.ref b1)]))
  have F9 : Keep h0 T7.heap [] := (F8.trans K7 (allS (Or.inr sz1) all0))
  have hq : Q_p_at Z vd kat h0 n0 (some (.ref b1)) T7.heap _ := ⟨b1, rfl, N7, F9, sz1, F7_0, F7_1, F7_2⟩
  exact Go.retA X7 hx Bd.returns rfl rfl hlk (hb hby d6_11) (by decide) (by decide) hq
theorem d11_0 : decode prog_10_method_3_code 0 = .ok (.new 8, 3) := by decide +kernel
theorem d11_3 : decode prog_10_method_3_code 3 = .ok (.dup, 1) := by decide +kernel
theorem d11_4 : decode prog_10_method_3_code 4 = .ok (.getstatic 25, 3) := by decide +kernel
theorem d11_7 : decode prog_10_method_3_code 7 = .ok (.lload_n 0, 1) := by decide +kernel
theorem d11_8 : decode prog_10_method_3_code 8 = .ok (.invokespecial 22, 3) := by decide +kernel
theorem d11_11 : decode prog_10_method_3_code 11 = .ok (.areturn, 1) := by decide +kernel
theorem ef_p_after (m : MethodId) (vd : Int64) : entryFrame m #[(.long vd)] 2 = mkF m 0 #[.val (.long vd), .second] [] := by first | (simp [entryFrame, mkF, argsToLocals, Value.category]; done) | rfl
def Q_p_after (Z : State) (vd : Int64) (kaf : Addr) (h0 : Heap) (n0 : Nat) (v : Option Value) (h : Heap) (L : List Loc) : Prop := ∃ ob : Addr, v = some (.ref ob) ∧ Fr n0 L ∧ Keep h0 h [] ∧ h0.size ≤ ob ∧ Exa Z h ob "com/example/queue_manager_rpc/queuemanagerrpc/Position" ∧ Fld Z h ob "com/example/queue_manager_rpc/queuemanagerrpc/Position" "kind" "Lcom/example/queue_manager_rpc/queuemanagerrpc/Position$Kind;" (.ref kaf) ∧ Fld Z h ob "com/example/queue_manager_rpc/queuemanagerrpc/Position" "lookupId" "J" (.long vd)
set_option maxRecDepth 65536 in
set_option maxHeartbeats 40000000 in
theorem p_after (l : Launch) (Z : State) (a0 : Array Value) (hw : ∀ d ∈ tables_1, d.before a0 Z = true) (ws : List Jvm.Cond) (vd : Int64) (kaf : Addr) (h0 : Heap) (n0 : Nat) (O0 : Old Z n0 h0) (P0 : Sta Z Z.heap "com/example/queue_manager_rpc/queuemanagerrpc/Position$Kind" "AFTER" "Lcom/example/queue_manager_rpc/queuemanagerrpc/Position$Kind;" (.ref kaf)) :
    MetFree l (⟨"com/example/queue_manager_rpc/queuemanagerrpc/Position", "after", "(J)Lcom/example/queue_manager_rpc/queuemanagerrpc/Position;"⟩ : MethodName) (head1 (Jvm.Cond.code (⟨"com/example/queue_manager_rpc/queuemanagerrpc/Position", "after", "(J)Lcom/example/queue_manager_rpc/queuemanagerrpc/Position;"⟩ : MethodName) prog_10_method_3_code 2 (some (.object "com/example/queue_manager_rpc/queuemanagerrpc/Position")) :: ws) ({ frames := 2, cells := 1, slots := 2, locals := 28 } : Room)) (fun a U => a = #[(.long vd)] ∧ Z.Warmed39 U.vm ∧ U.heap = h0) (fun _ _ _ _ _ => True) (fun _ U o U' => ∃ v L, o = .returned v ∧ Q_p_after Z vd kaf h0 n0 v U'.heap L ∧ FrameEnd U o U' L ({ frames := 2, cells := 1, slots := 2, locals := 28 } : Room).cells ({ frames := 2, cells := 1, slots := 2, locals := 28 } : Room).slots) := by
  refine MetFree.of_bodySF (plainFor_of_name pn_1) hisR ?_
  intro p e s m args below meth c s₁ Bd hml0 hP hK
  obtain ⟨rfl, hZ, hh⟩ := hP
  have hx := Bd.exec
  have hby := Bd.bytes
  have hml : c.maxLocals = 2 := hml0
  have hown : s.vm.findClass "com/example/queue_manager_rpc/queuemanagerrpc/Position" = some m.cls := findClass_of_methodNamed Bd.named
  have hnm := (name_of_methodNamed Bd.named Bd.method).1
  have hlk := BodyLoose.notSynchronized Bd
  have X0 : Stand p l e ({ frames := 2, cells := 1, slots := 2, locals := 28 } : Room) s m #[(.long vd)] below meth c s₁ [] 0 0 := Stand.of_body Bd
  have e0 : s₁.heap = h0 := by rw [← hh, Bd.state]; rfl
  have N0 := Fr.nil n0
  refine Go.start (P := fun o U' => ∃ v L, o = .returned v ∧ Q_p_after Z vd kaf h0 n0 v U'.heap L ∧ FrameEnd s o U' L ({ frames := 2, cells := 1, slots := 2, locals := 28 } : Room).cells ({ frames := 2, cells := 1, slots := 2, locals := 28 } : Room).slots) (ef_p_after m vd) ?_
  show Go p e below _ (s₁.setTop (mkF m 0 #[.val (.long vd), .second] []))
  obtain ⟨T1, h1, X1, e1, E1, A1, D1, -, st1⟩ := newO X0 hx hZ hown (hw _ (List.mem_of_getElem? (i := 32) rfl)) (hw _ (List.mem_of_getElem? (i := 33) rfl)) (hw _ (List.mem_of_getElem? (i := 30) rfl)) e0 (g := (mkF m 0 #[.val (.long vd), .second] [])) rfl (hb hby d11_0) (by decide) (by decide)
  obtain ⟨b1, g1⟩ : ∃ z, z = h0.size := ⟨_, rfl⟩
  rw [← g1] at A1 D1 st1
  have gl1 : h0.size ≤ b1 := Nat.le_of_eq g1.symm
  have ge1 : n0 ≤ b1 := Nat.le_trans (own_old_size O0) gl1
  have sz1 : h0.size ≤ b1 := Nat.le_trans (Keep.refl h0 []).1 gl1
  have F2 : Fld Z h1 b1 "com/example/queue_manager_rpc/queuemanagerrpc/Position" "kind" "Lcom/example/queue_manager_rpc/queuemanagerrpc/Position$Kind;" .null := D1 (Or.inr (hw _ (List.mem_of_getElem? (i := 42) rfl))) (ty := (.object "com/example/queue_manager_rpc/queuemanagerrpc/Position$Kind")) (by decide)
  have F3 : Fld Z h1 b1 "com/example/queue_manager_rpc/queuemanagerrpc/Position" "lookupId" "J" (.long (0 : Int64)) := D1 (Or.inr (hw _ (List.mem_of_getElem? (i := 44) rfl))) (ty := .long) (by decide)
  refine Go.by st1 ?_
  show Go p e below _ (T1.setTop (mkF m 3 #[.val (.long vd), .second] [(.ref b1)]))
  refine Go.by (fun t k => XS.dup X1.here hx rfl (hb hby d11_3) rfl rfl k) ?_
  show Go p e below _ (T1.setTop (mkF m 4 #[.val (.long vd), .second] [(.ref b1), (.ref b1)]))
  have F5 : Old Z n0 h1 := (O0.ext E1)
  have F4 : Sta Z h1 "com/example/queue_manager_rpc/queuemanagerrpc/Position$Kind" "AFTER" "Lcom/example/queue_manager_rpc/queuemanagerrpc/Position$Kind;" (.ref kaf) := P0.ext F5.2
  obtain ⟨T6, X6, e6, st6⟩ := getS2 X1 hx hZ hown (host := "") (Or.inl (hw _ (List.mem_of_getElem? (i := 63) rfl))) Via.refl e1 F4 (g := (mkF m 4 #[.val (.long vd), .second] [(.ref b1), (.ref b1)])) rfl (hb hby d11_4)
  refine Go.by st6 ?_
  show Go p e below _ (T6.setTop (mkF m 7 #[.val (.long vd), .second] [(.ref kaf), (.ref b1), (.ref b1)]))
  refine Go.by (fun t k => XS.lloadN X6.here hx rfl (hb hby d11_7) rfl k) ?_
  show Go p e below _ (T6.setTop (mkF m 8 #[.val (.long vd), .second] [(.long vd), (.ref kaf), (.ref b1), (.ref b1)]))
  have F8 : Keep h0 h1 [] := ((Keep.refl h0 []).ext E1)
  obtain ⟨_, _, ⟨T7, L7, k7, n7⟩, -, X7, ⟨Lc7, hQ7, l7, y7, z7⟩, st7⟩ := X6.specialBack hx (y := (⟨"com/example/queue_manager_rpc/queuemanagerrpc/Position", "<init>", "(Lcom/example/queue_manager_rpc/queuemanagerrpc/Position$Kind;J)V"⟩ : MethodName)) rfl hown (mvT hZ (hw _ (List.mem_of_getElem? (i := 37) rfl))) (mvT hZ (hw _ (List.mem_of_getElem? (i := 38) rfl))) (mvT hZ (hw _ (List.mem_of_getElem? (i := 39) rfl))) (by decide) (backOf (W := 1) (pinit l Z a0 hw [] b1 kaf vd h1 n0 F5 A1 F2 F3 ge1) hZ (hw _ (List.mem_of_getElem? (i := 39) rfl)) (hw _ (List.mem_of_getElem? (i := 30) rfl)) (by decide) (by decide)) (g := (mkF m 8 #[.val (.long vd), .second] [(.long vd), (.ref kaf), (.ref b1), (.ref b1)])) rfl (by rw [hml]; rfl) (Steps.refl _) (a := b1) (argsL := [(.ref kaf), (.long vd)]) (rest := [(.ref b1)]) (lenOf pd_0 rfl) rfl (by show 2 * 0 + _ ≤ _; exact Nat.le_of_eq rfl) (hb hby d11_8) (fun _ _ => ⟨rfl, e6, (by decide : 1 + 0 ≤ _), (by decide : 2 + 0 ≤ _)⟩)
  dsimp only [Pt.U, Pt.locs, Pt.cells, Pt.slots] at X7 l7 y7 z7 st7 hQ7
  subst l7 y7 z7
  obtain ⟨rfl, N7q, K7, F7_0, F7_1, F7_2⟩ := hQ7
  have N7 := Fr.app N0 N7q
  refine Go.tr st7 ?_
  show Go p e below _ (T7.setTop (mkF m 11 #[.val (.long vd), .second] [(.ref b1)]))
  have F9 : Keep h0 T7.heap [] := (F8.trans K7 (allS (Or.inr sz1) all0))
  have hq : Q_p_after Z vd kaf h0 n0 (some (.ref b1)) T7.heap _ := ⟨b1, rfl, N7, F9, sz1, F7_0, F7_1, F7_2⟩
  exact Go.retA X7 hx Bd.returns rfl rfl hlk (hb hby d11_11) (by decide) (by decide) hq
theorem d5_0 : decode prog_5_method_2_code 0 = .ok (.aload_n 0, 1) := by decide +kernel
theorem d5_1 : decode prog_5_method_2_code 1 = .ok (.getfield 7, 3) := by decide +kernel
theorem d5_4 : decode prog_5_method_2_code 4 = .ok (.ifCond .eq 13, 3) := by decide +kernel
theorem d5_7 : decode prog_5_method_2_code 7 = .ok (.aload_n 0, 1) := by decide +kernel
theorem d5_8 : decode prog_5_method_2_code 8 = .ok (.getfield 13, 3) := by decide +kernel
theorem d5_11 : decode prog_5_method_2_code 11 = .ok (.invokestatic 17, 3) := by decide +kernel
theorem pd_1 : parseMethodDescriptor "(J)Lcom/example/queue_manager_rpc/queuemanagerrpc/Position;" = some ⟨[.long], some (.object "com/example/queue_manager_rpc/queuemanagerrpc/Position")⟩ := by decide +kernel
theorem d5_14 : decode prog_5_method_2_code 14 = .ok (.goto 10, 3) := by decide +kernel
theorem d5_24 : decode prog_5_method_2_code 24 = .ok (.areturn, 1) := by decide +kernel
theorem ef_cur1 (m : MethodId) (cu : Addr) : entryFrame m #[(.ref cu)] 1 = mkF m 0 #[.val (.ref cu)] [] := by first | (simp [entryFrame, mkF, argsToLocals, Value.category]; done) | rfl
def Q_cur1 (Z : State) (cu : Addr) (vd : Int64) (kat : Addr) (h0 : Heap) (n0 : Nat) (v : Option Value) (h : Heap) (L : List Loc) : Prop := ∃ ob : Addr, v = some (.ref ob) ∧ Fr n0 L ∧ Keep h0 h [] ∧ h0.size ≤ ob ∧ Exa Z h ob "com/example/queue_manager_rpc/queuemanagerrpc/Position" ∧ Fld Z h ob "com/example/queue_manager_rpc/queuemanagerrpc/Position" "kind" "Lcom/example/queue_manager_rpc/queuemanagerrpc/Position$Kind;" (.ref kat) ∧ Fld Z h ob "com/example/queue_manager_rpc/queuemanagerrpc/Position" "lookupId" "J" (.long vd)
set_option maxRecDepth 65536 in
set_option maxHeartbeats 40000000 in
theorem cur1 (l : Launch) (Z : State) (a0 : Array Value) (hw : ∀ d ∈ tables_1, d.before a0 Z = true) (ws : List Jvm.Cond) (cu : Addr) (vd : Int64) (kat : Addr) (h0 : Heap) (n0 : Nat) (O0 : Old Z n0 h0) (P0 : Sta Z Z.heap "com/example/queue_manager_rpc/queuemanagerrpc/Position$Kind" "AT" "Lcom/example/queue_manager_rpc/queuemanagerrpc/Position$Kind;" (.ref kat)) (P1 : Fld Z h0 cu "com/example/queue_manager_rpc/queuemanagerrpc/Cursor" "onMessage" "Z" (.int (1 : Int32))) (P2 : Fld Z h0 cu "com/example/queue_manager_rpc/queuemanagerrpc/Cursor" "lookupId" "J" (.long vd)) :
    MetFree l (⟨"com/example/queue_manager_rpc/queuemanagerrpc/Cursor", "current", "()Lcom/example/queue_manager_rpc/queuemanagerrpc/Position;"⟩ : MethodName) (head1 (Jvm.Cond.code (⟨"com/example/queue_manager_rpc/queuemanagerrpc/Cursor", "current", "()Lcom/example/queue_manager_rpc/queuemanagerrpc/Position;"⟩ : MethodName) prog_5_method_2_code 1 (some (.object "com/example/queue_manager_rpc/queuemanagerrpc/Position")) :: ws) ({ frames := 3, cells := 1, slots := 2, locals := 41 } : Room)) (fun a U => a = #[(.ref cu)] ∧ Z.Warmed39 U.vm ∧ U.heap = h0) (fun _ _ _ _ _ => True) (fun _ U o U' => ∃ v L, o = .returned v ∧ Q_cur1 Z cu vd kat h0 n0 v U'.heap L ∧ FrameEnd U o U' L ({ frames := 3, cells := 1, slots := 2, locals := 41 } : Room).cells ({ frames := 3, cells := 1, slots := 2, locals := 41 } : Room).slots) := by
  refine MetFree.of_bodySF (plainFor_of_name pn_0) hisR ?_
  intro p e s m args below meth c s₁ Bd hml0 hP hK
  obtain ⟨rfl, hZ, hh⟩ := hP
  have hx := Bd.exec
  have hby := Bd.bytes
  have hml : c.maxLocals = 1 := hml0
  have hown : s.vm.findClass "com/example/queue_manager_rpc/queuemanagerrpc/Cursor" = some m.cls := findClass_of_methodNamed Bd.named
  have hnm := (name_of_methodNamed Bd.named Bd.method).1
  have hlk := BodyLoose.notSynchronized Bd
  have X0 : Stand p l e ({ frames := 3, cells := 1, slots := 2, locals := 41 } : Room) s m #[(.ref cu)] below meth c s₁ [] 0 0 := Stand.of_body Bd
  have e0 : s₁.heap = h0 := by rw [← hh, Bd.state]; rfl
  have N0 := Fr.nil n0
  refine Go.start (P := fun o U' => ∃ v L, o = .returned v ∧ Q_cur1 Z cu vd kat h0 n0 v U'.heap L ∧ FrameEnd s o U' L ({ frames := 3, cells := 1, slots := 2, locals := 41 } : Room).cells ({ frames := 3, cells := 1, slots := 2, locals := 41 } : Room).slots) (ef_cur1 m cu) ?_
  show Go p e below _ (s₁.setTop (mkF m 0 #[.val (.ref cu)] []))
  refine Go.by (fun t k => XS.aloadN X0.here hx rfl (hb hby d5_0) rfl rfl k) ?_
  show Go p e below _ (s₁.setTop (mkF m 1 #[.val (.ref cu)] [(.ref cu)]))
  obtain ⟨T1, X1, e1, st1⟩ := getF X0 hx hZ hown (host := "") (Or.inl (hw _ (List.mem_of_getElem? (i := 16) rfl))) Via.refl e0 P1 (g := (mkF m 1 #[.val (.ref cu)] [(.ref cu)])) rfl rfl (hb hby d5_1)
  refine Go.by st1 ?_
  show Go p e below _ (T1.setTop (mkF m 4 #[.val (.ref cu)] [(.int (1 : Int32))]))
  refine Go.by (fun t k => XS.ifNo X1.here hx rfl (hb hby d5_4) rfl ((if0 _ _).trans (feq (by decide : ¬ ((1 : Int32) = (0 : Int32)))).1) k) ?_
  show Go p e below _ (T1.setTop (mkF m 7 #[.val (.ref cu)] []))
  refine Go.by (fun t k => XS.aloadN X1.here hx rfl (hb hby d5_7) rfl rfl k) ?_
  show Go p e below _ (T1.setTop (mkF m 8 #[.val (.ref cu)] [(.ref cu)]))
  obtain ⟨T2, X2, e2, st2⟩ := getF X1 hx hZ hown (host := "") (Or.inl (hw _ (List.mem_of_getElem? (i := 14) rfl))) Via.refl e1 P2 (g := (mkF m 8 #[.val (.ref cu)] [(.ref cu)])) rfl rfl (hb hby d5_8)
  refine Go.by st2 ?_
  show Go p e below _ (T2.setTop (mkF m 11 #[.val (.ref cu)] [(.long vd)]))
  obtain ⟨_, _, ⟨T3, L3, k3, n3⟩, -, X3, ⟨Lc3, hQ3, l3, y3, z3⟩, st3⟩ := Jvm.LawKit.callS X2 hx (y := (⟨"com/example/queue_manager_rpc/queuemanagerrpc/Position", "at", "(J)Lcom/example/queue_manager_rpc/queuemanagerrpc/Position;"⟩ : MethodName)) hown (mvT hZ (hw _ (List.mem_of_getElem? (i := 28) rfl))) (mvT hZ (hw _ (List.mem_of_getElem? (i := 29) rfl))) (mvT hZ (hw _ (List.mem_of_getElem? (i := 30) rfl))) (mvT hZ (hw _ (List.mem_of_getElem? (i := 31) rfl))) (by decide) (backOf (W := 0) (p_at l Z a0 hw [] vd kat h0 n0 O0 P0) hZ (hw _ (List.mem_of_getElem? (i := 31) rfl)) (hw _ (List.mem_of_getElem? (i := 30) rfl)) (by decide) (by decide)) (g := (mkF m 11 #[.val (.ref cu)] [(.long vd)])) rfl (by rw [hml]; rfl) (argsL := [(.long vd)]) (rest := []) (lenOf pd_1 rfl) rfl (by show 2 * 0 + _ ≤ _; exact Nat.le_of_eq rfl) (hb hby d5_11) (fun _ _ => ⟨rfl, e2, (by decide : 0 + 1 ≤ _), (by decide : 0 + 2 ≤ _)⟩)
  dsimp only [Pt.U, Pt.locs, Pt.cells, Pt.slots] at X3 l3 y3 z3 st3 hQ3
  subst l3 y3 z3
  obtain ⟨ob_3, rfl, N3q, K3, fz3_ob, F3_0, F3_1, F3_2⟩ := hQ3
  have N3 := Fr.app N0 N3q
  have ge_ob_3 : n0 ≤ ob_3 := Nat.le_trans (own_old_size O0) fz3_ob
  have sz_ob_3 : h0.size ≤ ob_3 := Nat.le_trans (Keep.refl h0 []).1 fz3_ob
  have ne4 : cu ≠ ob_3 := Nat.ne_of_lt (Nat.lt_of_lt_of_le P1.lt fz3_ob)
  refine Go.by st3 ?_
  show Go p e below _ (T3.setTop (mkF m 14 #[.val (.ref cu)] [(.ref ob_3)]))
  refine Go.by (fun t k => XS.goto X3.here hx rfl (pc0 := 14) (pc' := 24) rfl (hb hby d5_14) (by decide) (by decide) k) ?_
  show Go p e below _ (T3.setTop (mkF m 24 #[.val (.ref cu)] [(.ref ob_3)]))
  have F5 : Keep h0 T3.heap [] := ((Keep.refl h0 []).trans K3 all0)
  have hq : Q_cur1 Z cu vd kat h0 n0 (some (.ref ob_3)) T3.heap _ := ⟨ob_3, rfl, N3, F5, sz_ob_3, F3_0, F3_1, F3_2⟩
  exact Go.retA X3 hx Bd.returns rfl rfl hlk (hb hby d5_24) (by decide) (by decide) hq
theorem d5_17 : decode prog_5_method_2_code 17 = .ok (.aload_n 0, 1) := by decide +kernel
theorem d5_18 : decode prog_5_method_2_code 18 = .ok (.getfield 13, 3) := by decide +kernel
theorem d5_21 : decode prog_5_method_2_code 21 = .ok (.invokestatic 23, 3) := by decide +kernel
theorem ef_cur0 (m : MethodId) (cu : Addr) : entryFrame m #[(.ref cu)] 1 = mkF m 0 #[.val (.ref cu)] [] := by first | (simp [entryFrame, mkF, argsToLocals, Value.category]; done) | rfl
def Q_cur0 (Z : State) (cu : Addr) (vd : Int64) (kaf : Addr) (h0 : Heap) (n0 : Nat) (v : Option Value) (h : Heap) (L : List Loc) : Prop := ∃ ob : Addr, v = some (.ref ob) ∧ Fr n0 L ∧ Keep h0 h [] ∧ h0.size ≤ ob ∧ Exa Z h ob "com/example/queue_manager_rpc/queuemanagerrpc/Position" ∧ Fld Z h ob "com/example/queue_manager_rpc/queuemanagerrpc/Position" "kind" "Lcom/example/queue_manager_rpc/queuemanagerrpc/Position$Kind;" (.ref kaf) ∧ Fld Z h ob "com/example/queue_manager_rpc/queuemanagerrpc/Position" "lookupId" "J" (.long vd)
set_option maxRecDepth 65536 in
set_option maxHeartbeats 40000000 in
theorem cur0 (l : Launch) (Z : State) (a0 : Array Value) (hw : ∀ d ∈ tables_1, d.before a0 Z = true) (ws : List Jvm.Cond) (cu : Addr) (vd : Int64) (kaf : Addr) (h0 : Heap) (n0 : Nat) (O0 : Old Z n0 h0) (P0 : Sta Z Z.heap "com/example/queue_manager_rpc/queuemanagerrpc/Position$Kind" "AFTER" "Lcom/example/queue_manager_rpc/queuemanagerrpc/Position$Kind;" (.ref kaf)) (P1 : Fld Z h0 cu "com/example/queue_manager_rpc/queuemanagerrpc/Cursor" "onMessage" "Z" (.int (0 : Int32))) (P2 : Fld Z h0 cu "com/example/queue_manager_rpc/queuemanagerrpc/Cursor" "lookupId" "J" (.long vd)) :
    MetFree l (⟨"com/example/queue_manager_rpc/queuemanagerrpc/Cursor", "current", "()Lcom/example/queue_manager_rpc/queuemanagerrpc/Position;"⟩ : MethodName) (head1 (Jvm.Cond.code (⟨"com/example/queue_manager_rpc/queuemanagerrpc/Cursor", "current", "()Lcom/example/queue_manager_rpc/queuemanagerrpc/Position;"⟩ : MethodName) prog_5_method_2_code 1 (some (.object "com/example/queue_manager_rpc/queuemanagerrpc/Position")) :: ws) ({ frames := 3, cells := 1, slots := 2, locals := 41 } : Room)) (fun a U => a = #[(.ref cu)] ∧ Z.Warmed39 U.vm ∧ U.heap = h0) (fun _ _ _ _ _ => True) (fun _ U o U' => ∃ v L, o = .returned v ∧ Q_cur0 Z cu vd kaf h0 n0 v U'.heap L ∧ FrameEnd U o U' L ({ frames := 3, cells := 1, slots := 2, locals := 41 } : Room).cells ({ frames := 3, cells := 1, slots := 2, locals := 41 } : Room).slots) := by
  refine MetFree.of_bodySF (plainFor_of_name pn_0) hisR ?_
  intro p e s m args below meth c s₁ Bd hml0 hP hK
  obtain ⟨rfl, hZ, hh⟩ := hP
  have hx := Bd.exec
  have hby := Bd.bytes
  have hml : c.maxLocals = 1 := hml0
  have hown : s.vm.findClass "com/example/queue_manager_rpc/queuemanagerrpc/Cursor" = some m.cls := findClass_of_methodNamed Bd.named
  have hnm := (name_of_methodNamed Bd.named Bd.method).1
  have hlk := BodyLoose.notSynchronized Bd
  have X0 : Stand p l e ({ frames := 3, cells := 1, slots := 2, locals := 41 } : Room) s m #[(.ref cu)] below meth c s₁ [] 0 0 := Stand.of_body Bd
  have e0 : s₁.heap = h0 := by rw [← hh, Bd.state]; rfl
  have N0 := Fr.nil n0
  refine Go.start (P := fun o U' => ∃ v L, o = .returned v ∧ Q_cur0 Z cu vd kaf h0 n0 v U'.heap L ∧ FrameEnd s o U' L ({ frames := 3, cells := 1, slots := 2, locals := 41 } : Room).cells ({ frames := 3, cells := 1, slots := 2, locals := 41 } : Room).slots) (ef_cur0 m cu) ?_
  show Go p e below _ (s₁.setTop (mkF m 0 #[.val (.ref cu)] []))
  refine Go.by (fun t k => XS.aloadN X0.here hx rfl (hb hby d5_0) rfl rfl k) ?_
  show Go p e below _ (s₁.setTop (mkF m 1 #[.val (.ref cu)] [(.ref cu)]))
  obtain ⟨T1, X1, e1, st1⟩ := getF X0 hx hZ hown (host := "") (Or.inl (hw _ (List.mem_of_getElem? (i := 16) rfl))) Via.refl e0 P1 (g := (mkF m 1 #[.val (.ref cu)] [(.ref cu)])) rfl rfl (hb hby d5_1)
  refine Go.by st1 ?_
  show Go p e below _ (T1.setTop (mkF m 4 #[.val (.ref cu)] [(.int (0 : Int32))]))
  refine Go.by (fun t k => XS.ifYes X1.here hx rfl (pc0 := 4) (pc' := 17) rfl (hb hby d5_4) rfl ((if0 _ _).trans (teq rfl).1) (by decide) (by decide) k) ?_
  show Go p e below _ (T1.setTop (mkF m 17 #[.val (.ref cu)] []))
  refine Go.by (fun t k => XS.aloadN X1.here hx rfl (hb hby d5_17) rfl rfl k) ?_
  show Go p e below _ (T1.setTop (mkF m 18 #[.val (.ref cu)] [(.ref cu)]))
  obtain ⟨T2, X2, e2, st2⟩ := getF X1 hx hZ hown (host := "") (Or.inl (hw _ (List.mem_of_getElem? (i := 14) rfl))) Via.refl e1 P2 (g := (mkF m 18 #[.val (.ref cu)] [(.ref cu)])) rfl rfl (hb hby d5_18)
  refine Go.by st2 ?_
  show Go p e below _ (T2.setTop (mkF m 21 #[.val (.ref cu)] [(.long vd)]))
  obtain ⟨_, _, ⟨T3, L3, k3, n3⟩, -, X3, ⟨Lc3, hQ3, l3, y3, z3⟩, st3⟩ := Jvm.LawKit.callS X2 hx (y := (⟨"com/example/queue_manager_rpc/queuemanagerrpc/Position", "after", "(J)Lcom/example/queue_manager_rpc/queuemanagerrpc/Position;"⟩ : MethodName)) hown (mvT hZ (hw _ (List.mem_of_getElem? (i := 60) rfl))) (mvT hZ (hw _ (List.mem_of_getElem? (i := 61) rfl))) (mvT hZ (hw _ (List.mem_of_getElem? (i := 30) rfl))) (mvT hZ (hw _ (List.mem_of_getElem? (i := 62) rfl))) (by decide) (backOf (W := 0) (p_after l Z a0 hw [] vd kaf h0 n0 O0 P0) hZ (hw _ (List.mem_of_getElem? (i := 62) rfl)) (hw _ (List.mem_of_getElem? (i := 30) rfl)) (by decide) (by decide)) (g := (mkF m 21 #[.val (.ref cu)] [(.long vd)])) rfl (by rw [hml]; rfl) (argsL := [(.long vd)]) (rest := []) (lenOf pd_1 rfl) rfl (by show 2 * 0 + _ ≤ _; exact Nat.le_of_eq rfl) (hb hby d5_21) (fun _ _ => ⟨rfl, e2, (by decide : 0 + 1 ≤ _), (by decide : 0 + 2 ≤ _)⟩)
  dsimp only [Pt.U, Pt.locs, Pt.cells, Pt.slots] at X3 l3 y3 z3 st3 hQ3
  subst l3 y3 z3
  obtain ⟨ob_3, rfl, N3q, K3, fz3_ob, F3_0, F3_1, F3_2⟩ := hQ3
  have N3 := Fr.app N0 N3q
  have ge_ob_3 : n0 ≤ ob_3 := Nat.le_trans (own_old_size O0) fz3_ob
  have sz_ob_3 : h0.size ≤ ob_3 := Nat.le_trans (Keep.refl h0 []).1 fz3_ob
  have ne4 : cu ≠ ob_3 := Nat.ne_of_lt (Nat.lt_of_lt_of_le P1.lt fz3_ob)
  refine Go.by st3 ?_
  show Go p e below _ (T3.setTop (mkF m 24 #[.val (.ref cu)] [(.ref ob_3)]))
  have F5 : Keep h0 T3.heap [] := ((Keep.refl h0 []).trans K3 all0)
  have hq : Q_cur0 Z cu vd kaf h0 n0 (some (.ref ob_3)) T3.heap _ := ⟨ob_3, rfl, N3, F5, sz_ob_3, F3_0, F3_1, F3_2⟩
  exact Go.retA X3 hx Bd.returns rfl rfl hlk (hb hby d5_24) (by decide) (by decide) hq
theorem d10_0 : decode prog_5_method_3_code 0 = .ok (.aload_n 0, 1) := by decide +kernel
theorem d10_1 : decode prog_5_method_3_code 1 = .ok (.getfield 13, 3) := by decide +kernel
theorem d10_4 : decode prog_5_method_3_code 4 = .ok (.invokestatic 23, 3) := by decide +kernel
theorem d10_7 : decode prog_5_method_3_code 7 = .ok (.areturn, 1) := by decide +kernel
theorem ef_next (m : MethodId) (cu : Addr) : entryFrame m #[(.ref cu)] 1 = mkF m 0 #[.val (.ref cu)] [] := by first | (simp [entryFrame, mkF, argsToLocals, Value.category]; done) | rfl
def Q_next (Z : State) (cu : Addr) (vd : Int64) (kaf : Addr) (h0 : Heap) (n0 : Nat) (v : Option Value) (h : Heap) (L : List Loc) : Prop := ∃ ob : Addr, v = some (.ref ob) ∧ Fr n0 L ∧ Keep h0 h [] ∧ h0.size ≤ ob ∧ Exa Z h ob "com/example/queue_manager_rpc/queuemanagerrpc/Position" ∧ Fld Z h ob "com/example/queue_manager_rpc/queuemanagerrpc/Position" "kind" "Lcom/example/queue_manager_rpc/queuemanagerrpc/Position$Kind;" (.ref kaf) ∧ Fld Z h ob "com/example/queue_manager_rpc/queuemanagerrpc/Position" "lookupId" "J" (.long vd)
set_option maxRecDepth 65536 in
set_option maxHeartbeats 40000000 in
theorem next (l : Launch) (Z : State) (a0 : Array Value) (hw : ∀ d ∈ tables_1, d.before a0 Z = true) (ws : List Jvm.Cond) (cu : Addr) (vd : Int64) (kaf : Addr) (h0 : Heap) (n0 : Nat) (O0 : Old Z n0 h0) (P0 : Sta Z Z.heap "com/example/queue_manager_rpc/queuemanagerrpc/Position$Kind" "AFTER" "Lcom/example/queue_manager_rpc/queuemanagerrpc/Position$Kind;" (.ref kaf)) (P1 : Fld Z h0 cu "com/example/queue_manager_rpc/queuemanagerrpc/Cursor" "lookupId" "J" (.long vd)) :
    MetFree l (⟨"com/example/queue_manager_rpc/queuemanagerrpc/Cursor", "next", "()Lcom/example/queue_manager_rpc/queuemanagerrpc/Position;"⟩ : MethodName) (head1 (Jvm.Cond.code (⟨"com/example/queue_manager_rpc/queuemanagerrpc/Cursor", "next", "()Lcom/example/queue_manager_rpc/queuemanagerrpc/Position;"⟩ : MethodName) prog_5_method_3_code 1 (some (.object "com/example/queue_manager_rpc/queuemanagerrpc/Position")) :: ws) ({ frames := 3, cells := 1, slots := 2, locals := 41 } : Room)) (fun a U => a = #[(.ref cu)] ∧ Z.Warmed39 U.vm ∧ U.heap = h0) (fun _ _ _ _ _ => True) (fun _ U o U' => ∃ v L, o = .returned v ∧ Q_next Z cu vd kaf h0 n0 v U'.heap L ∧ FrameEnd U o U' L ({ frames := 3, cells := 1, slots := 2, locals := 41 } : Room).cells ({ frames := 3, cells := 1, slots := 2, locals := 41 } : Room).slots) := by
  refine MetFree.of_bodySF (plainFor_of_name pn_0) hisR ?_
  intro p e s m args below meth c s₁ Bd hml0 hP hK
  obtain ⟨rfl, hZ, hh⟩ := hP
  have hx := Bd.exec
  have hby := Bd.bytes
  have hml : c.maxLocals = 1 := hml0
  have hown : s.vm.findClass "com/example/queue_manager_rpc/queuemanagerrpc/Cursor" = some m.cls := findClass_of_methodNamed Bd.named
  have hnm := (name_of_methodNamed Bd.named Bd.method).1
  have hlk := BodyLoose.notSynchronized Bd
  have X0 : Stand p l e ({ frames := 3, cells := 1, slots := 2, locals := 41 } : Room) s m #[(.ref cu)] below meth c s₁ [] 0 0 := Stand.of_body Bd
  have e0 : s₁.heap = h0 := by rw [← hh, Bd.state]; rfl
  have N0 := Fr.nil n0
  refine Go.start (P := fun o U' => ∃ v L, o = .returned v ∧ Q_next Z cu vd kaf h0 n0 v U'.heap L ∧ FrameEnd s o U' L ({ frames := 3, cells := 1, slots := 2, locals := 41 } : Room).cells ({ frames := 3, cells := 1, slots := 2, locals := 41 } : Room).slots) (ef_next m cu) ?_
  show Go p e below _ (s₁.setTop (mkF m 0 #[.val (.ref cu)] []))
  refine Go.by (fun t k => XS.aloadN X0.here hx rfl (hb hby d10_0) rfl rfl k) ?_
  show Go p e below _ (s₁.setTop (mkF m 1 #[.val (.ref cu)] [(.ref cu)]))
  obtain ⟨T1, X1, e1, st1⟩ := getF X0 hx hZ hown (host := "") (Or.inl (hw _ (List.mem_of_getElem? (i := 14) rfl))) Via.refl e0 P1 (g := (mkF m 1 #[.val (.ref cu)] [(.ref cu)])) rfl rfl (hb hby d10_1)
  refine Go.by st1 ?_
  show Go p e below _ (T1.setTop (mkF m 4 #[.val (.ref cu)] [(.long vd)]))
  obtain ⟨_, _, ⟨T2, L2, k2, n2⟩, -, X2, ⟨Lc2, hQ2, l2, y2, z2⟩, st2⟩ := Jvm.LawKit.callS X1 hx (y := (⟨"com/example/queue_manager_rpc/queuemanagerrpc/Position", "after", "(J)Lcom/example/queue_manager_rpc/queuemanagerrpc/Position;"⟩ : MethodName)) hown (mvT hZ (hw _ (List.mem_of_getElem? (i := 60) rfl))) (mvT hZ (hw _ (List.mem_of_getElem? (i := 61) rfl))) (mvT hZ (hw _ (List.mem_of_getElem? (i := 30) rfl))) (mvT hZ (hw _ (List.mem_of_getElem? (i := 62) rfl))) (by decide) (backOf (W := 0) (p_after l Z a0 hw [] vd kaf h0 n0 O0 P0) hZ (hw _ (List.mem_of_getElem? (i := 62) rfl)) (hw _ (List.mem_of_getElem? (i := 30) rfl)) (by decide) (by decide)) (g := (mkF m 4 #[.val (.ref cu)] [(.long vd)])) rfl (by rw [hml]; rfl) (argsL := [(.long vd)]) (rest := []) (lenOf pd_1 rfl) rfl (by show 2 * 0 + _ ≤ _; exact Nat.le_of_eq rfl) (hb hby d10_4) (fun _ _ => ⟨rfl, e1, (by decide : 0 + 1 ≤ _), (by decide : 0 + 2 ≤ _)⟩)
  dsimp only [Pt.U, Pt.locs, Pt.cells, Pt.slots] at X2 l2 y2 z2 st2 hQ2
  subst l2 y2 z2
  obtain ⟨ob_2, rfl, N2q, K2, fz2_ob, F2_0, F2_1, F2_2⟩ := hQ2
  have N2 := Fr.app N0 N2q
  have ge_ob_2 : n0 ≤ ob_2 := Nat.le_trans (own_old_size O0) fz2_ob
  have sz_ob_2 : h0.size ≤ ob_2 := Nat.le_trans (Keep.refl h0 []).1 fz2_ob
  have ne3 : cu ≠ ob_2 := Nat.ne_of_lt (Nat.lt_of_lt_of_le P1.lt fz2_ob)
  refine Go.by st2 ?_
  show Go p e below _ (T2.setTop (mkF m 7 #[.val (.ref cu)] [(.ref ob_2)]))
  have F4 : Keep h0 T2.heap [] := ((Keep.refl h0 []).trans K2 all0)
  have hq : Q_next Z cu vd kaf h0 n0 (some (.ref ob_2)) T2.heap _ := ⟨ob_2, rfl, N2, F4, sz_ob_2, F2_0, F2_1, F2_2⟩
  exact Go.retA X2 hx Bd.returns rfl rfl hlk (hb hby d10_7) (by decide) (by decide) hq
theorem d8_0 : decode prog_10_method_6_code 0 = .ok (.aload_n 0, 1) := by decide +kernel
theorem d8_1 : decode prog_10_method_6_code 1 = .ok (.getfield 7, 3) := by decide +kernel
theorem d8_4 : decode prog_10_method_6_code 4 = .ok (.areturn, 1) := by decide +kernel
theorem ef_kind (m : MethodId) (ob : Addr) : entryFrame m #[(.ref ob)] 1 = mkF m 0 #[.val (.ref ob)] [] := by first | (simp [entryFrame, mkF, argsToLocals, Value.category]; done) | rfl
def Q_kind (Z : State) (ob : Addr) (kk : Addr) (h0 : Heap) (n0 : Nat) (v : Option Value) (h : Heap) (L : List Loc) : Prop := v = some (.ref kk) ∧ Fr n0 L ∧ h = h0
set_option maxRecDepth 65536 in
set_option maxHeartbeats 40000000 in
theorem kind (l : Launch) (Z : State) (a0 : Array Value) (hw : ∀ d ∈ tables_1, d.before a0 Z = true) (ws : List Jvm.Cond) (ob : Addr) (kk : Addr) (h0 : Heap) (n0 : Nat) (O0 : Old Z n0 h0) (P0 : Fld Z h0 ob "com/example/queue_manager_rpc/queuemanagerrpc/Position" "kind" "Lcom/example/queue_manager_rpc/queuemanagerrpc/Position$Kind;" (.ref kk)) :
    MetFree l (⟨"com/example/queue_manager_rpc/queuemanagerrpc/Position", "kind", "()Lcom/example/queue_manager_rpc/queuemanagerrpc/Position$Kind;"⟩ : MethodName) (head1 (Jvm.Cond.code (⟨"com/example/queue_manager_rpc/queuemanagerrpc/Position", "kind", "()Lcom/example/queue_manager_rpc/queuemanagerrpc/Position$Kind;"⟩ : MethodName) prog_10_method_6_code 1 (some (.object "com/example/queue_manager_rpc/queuemanagerrpc/Position$Kind")) :: ws) ({ frames := 0, cells := 0, slots := 0, locals := 0 } : Room)) (fun a U => a = #[(.ref ob)] ∧ Z.Warmed39 U.vm ∧ U.heap = h0) (fun _ _ _ _ _ => True) (fun _ U o U' => ∃ v L, o = .returned v ∧ Q_kind Z ob kk h0 n0 v U'.heap L ∧ FrameEnd U o U' L ({ frames := 0, cells := 0, slots := 0, locals := 0 } : Room).cells ({ frames := 0, cells := 0, slots := 0, locals := 0 } : Room).slots) := by
  refine MetFree.of_bodySF (plainFor_of_name pn_1) hisR ?_
  intro p e s m args below meth c s₁ Bd hml0 hP hK
  obtain ⟨rfl, hZ, hh⟩ := hP
  have hx := Bd.exec
  have hby := Bd.bytes
  have hml : c.maxLocals = 1 := hml0
  have hown : s.vm.findClass "com/example/queue_manager_rpc/queuemanagerrpc/Position" = some m.cls := findClass_of_methodNamed Bd.named
  have hnm := (name_of_methodNamed Bd.named Bd.method).1
  have hlk := BodyLoose.notSynchronized Bd
  have X0 : Stand p l e ({ frames := 0, cells := 0, slots := 0, locals := 0 } : Room) s m #[(.ref ob)] below meth c s₁ [] 0 0 := Stand.of_body Bd
  have e0 : s₁.heap = h0 := by rw [← hh, Bd.state]; rfl
  have N0 := Fr.nil n0
  refine Go.start (P := fun o U' => ∃ v L, o = .returned v ∧ Q_kind Z ob kk h0 n0 v U'.heap L ∧ FrameEnd s o U' L ({ frames := 0, cells := 0, slots := 0, locals := 0 } : Room).cells ({ frames := 0, cells := 0, slots := 0, locals := 0 } : Room).slots) (ef_kind m ob) ?_
  show Go p e below _ (s₁.setTop (mkF m 0 #[.val (.ref ob)] []))
  refine Go.by (fun t k => XS.aloadN X0.here hx rfl (hb hby d8_0) rfl rfl k) ?_
  show Go p e below _ (s₁.setTop (mkF m 1 #[.val (.ref ob)] [(.ref ob)]))
  obtain ⟨T1, X1, e1, st1⟩ := getF X0 hx hZ hown (host := "") (Or.inl (hw _ (List.mem_of_getElem? (i := 41) rfl))) Via.refl e0 P0 (g := (mkF m 1 #[.val (.ref ob)] [(.ref ob)])) rfl rfl (hb hby d8_1)
  refine Go.by st1 ?_
  show Go p e below _ (T1.setTop (mkF m 4 #[.val (.ref ob)] [(.ref kk)]))
  have hq : Q_kind Z ob kk h0 n0 (some (.ref kk)) h0 _ := ⟨rfl, N0, rfl⟩
  exact Go.retA X1 hx Bd.returns rfl rfl hlk (hb hby d8_4) (by decide) (by decide) (by rw [e1]; exact hq)
theorem d9_0 : decode prog_10_method_7_code 0 = .ok (.aload_n 0, 1) := by decide +kernel
theorem d9_1 : decode prog_10_method_7_code 1 = .ok (.getfield 13, 3) := by decide +kernel
theorem d9_4 : decode prog_10_method_7_code 4 = .ok (.lreturn, 1) := by decide +kernel
theorem ef_lookupId (m : MethodId) (ob : Addr) : entryFrame m #[(.ref ob)] 1 = mkF m 0 #[.val (.ref ob)] [] := by first | (simp [entryFrame, mkF, argsToLocals, Value.category]; done) | rfl
def Q_lookupId (Z : State) (ob : Addr) (vd : Int64) (h0 : Heap) (n0 : Nat) (v : Option Value) (h : Heap) (L : List Loc) : Prop := v = some (.long vd) ∧ Fr n0 L ∧ h = h0
set_option maxRecDepth 65536 in
set_option maxHeartbeats 40000000 in
theorem lookupId (l : Launch) (Z : State) (a0 : Array Value) (hw : ∀ d ∈ tables_1, d.before a0 Z = true) (ws : List Jvm.Cond) (ob : Addr) (vd : Int64) (h0 : Heap) (n0 : Nat) (O0 : Old Z n0 h0) (P0 : Fld Z h0 ob "com/example/queue_manager_rpc/queuemanagerrpc/Position" "lookupId" "J" (.long vd)) :
    MetFree l (⟨"com/example/queue_manager_rpc/queuemanagerrpc/Position", "lookupId", "()J"⟩ : MethodName) (head1 (Jvm.Cond.code (⟨"com/example/queue_manager_rpc/queuemanagerrpc/Position", "lookupId", "()J"⟩ : MethodName) prog_10_method_7_code 1 (some .long) :: ws) ({ frames := 0, cells := 0, slots := 0, locals := 0 } : Room)) (fun a U => a = #[(.ref ob)] ∧ Z.Warmed39 U.vm ∧ U.heap = h0) (fun _ _ _ _ _ => True) (fun _ U o U' => ∃ v L, o = .returned v ∧ Q_lookupId Z ob vd h0 n0 v U'.heap L ∧ FrameEnd U o U' L ({ frames := 0, cells := 0, slots := 0, locals := 0 } : Room).cells ({ frames := 0, cells := 0, slots := 0, locals := 0 } : Room).slots) := by
  refine MetFree.of_bodySF (plainFor_of_name pn_1) hisR ?_
  intro p e s m args below meth c s₁ Bd hml0 hP hK
  obtain ⟨rfl, hZ, hh⟩ := hP
  have hx := Bd.exec
  have hby := Bd.bytes
  have hml : c.maxLocals = 1 := hml0
  have hown : s.vm.findClass "com/example/queue_manager_rpc/queuemanagerrpc/Position" = some m.cls := findClass_of_methodNamed Bd.named
  have hnm := (name_of_methodNamed Bd.named Bd.method).1
  have hlk := BodyLoose.notSynchronized Bd
  have X0 : Stand p l e ({ frames := 0, cells := 0, slots := 0, locals := 0 } : Room) s m #[(.ref ob)] below meth c s₁ [] 0 0 := Stand.of_body Bd
  have e0 : s₁.heap = h0 := by rw [← hh, Bd.state]; rfl
  have N0 := Fr.nil n0
  refine Go.start (P := fun o U' => ∃ v L, o = .returned v ∧ Q_lookupId Z ob vd h0 n0 v U'.heap L ∧ FrameEnd s o U' L ({ frames := 0, cells := 0, slots := 0, locals := 0 } : Room).cells ({ frames := 0, cells := 0, slots := 0, locals := 0 } : Room).slots) (ef_lookupId m ob) ?_
  show Go p e below _ (s₁.setTop (mkF m 0 #[.val (.ref ob)] []))
  refine Go.by (fun t k => XS.aloadN X0.here hx rfl (hb hby d9_0) rfl rfl k) ?_
  show Go p e below _ (s₁.setTop (mkF m 1 #[.val (.ref ob)] [(.ref ob)]))
  obtain ⟨T1, X1, e1, st1⟩ := getF X0 hx hZ hown (host := "") (Or.inl (hw _ (List.mem_of_getElem? (i := 43) rfl))) Via.refl e0 P0 (g := (mkF m 1 #[.val (.ref ob)] [(.ref ob)])) rfl rfl (hb hby d9_1)
  refine Go.by st1 ?_
  show Go p e below _ (T1.setTop (mkF m 4 #[.val (.ref ob)] [(.long vd)]))
  have hq : Q_lookupId Z ob vd h0 n0 (some (.long vd)) h0 _ := ⟨rfl, N0, rfl⟩
  exact Go.retL X1 hx Bd.returns hlk (hb hby d9_4) (by decide) (by decide) (by rw [e1]; exact hq)
theorem pn_2 : plainName "com/example/queue_manager_rpc/queuemanagerrpc/CursorMoveToPinLaw" = true := by first | (simp [plainName, overriddenIn]; done) | decide +kernel
theorem pd_2 : parseMethodDescriptor "()V" = some ⟨[], none⟩ := by decide +kernel
theorem pd_3 : parseMethodDescriptor "(JZ)V" = some ⟨[.long, .boolean], none⟩ := by decide +kernel
theorem pd_4 : parseMethodDescriptor "()Z" = some ⟨[], some .boolean⟩ := by decide +kernel
theorem pd_5 : parseMethodDescriptor "()Lcom/example/queue_manager_rpc/queuemanagerrpc/Position;" = some ⟨[], some (.object "com/example/queue_manager_rpc/queuemanagerrpc/Position")⟩ := by decide +kernel
theorem pd_6 : parseMethodDescriptor "()Lcom/example/queue_manager_rpc/queuemanagerrpc/Position$Kind;" = some ⟨[], some (.object "com/example/queue_manager_rpc/queuemanagerrpc/Position$Kind")⟩ := by decide +kernel
theorem pd_7 : parseMethodDescriptor "()J" = some ⟨[], some .long⟩ := by decide +kernel
theorem ef_law (m : MethodId) (if_ : Int64) (id_ : Int64) (iq : Int32) : entryFrame m #[(.long if_), (.long id_), (.int iq)] maxLocals = mkF m 0 #[.val (.long if_), .second, .val (.long id_), .second, .val (.int iq), .unset, .unset, .unset, .unset, .unset, .unset, .unset, .unset, .unset, .unset, .unset, .unset, .unset] [] := by first | (simp [entryFrame, mkF, argsToLocals, Value.category, maxLocals]; done) | rfl
def Q_law (Z : State) (if_ : Int64) (id_ : Int64) (iq : Int32) (kat : Addr) (kaf : Addr) (h0 : Heap) (n0 : Nat) (v : Option Value) (h : Heap) (L : List Loc) : Prop := v = some (.int (1 : Int32)) ∧ Fr n0 L ∧ Keep h0 h []
set_option maxRecDepth 65536 in
set_option maxHeartbeats 40000000 in
theorem law (l : Launch) (Z : State) (a0 : Array Value) (hw : ∀ d ∈ tables_1, d.before a0 Z = true) (ws : List Jvm.Cond) (if_ : Int64) (id_ : Int64) (iq : Int32) (kat : Addr) (kaf : Addr) (h0 : Heap) (n0 : Nat) (O0 : Old Z n0 h0) (P0 : Sta Z Z.heap "com/example/queue_manager_rpc/queuemanagerrpc/Position$Kind" "AT" "Lcom/example/queue_manager_rpc/queuemanagerrpc/Position$Kind;" (.ref kat)) (P1 : Sta Z Z.heap "com/example/queue_manager_rpc/queuemanagerrpc/Position$Kind" "AFTER" "Lcom/example/queue_manager_rpc/queuemanagerrpc/Position$Kind;" (.ref kaf)) :
    MetFree l x (head1 (Jvm.Cond.code x code maxLocals ret :: ws) room_1) (fun a U => a = #[(.long if_), (.long id_), (.int iq)] ∧ Z.Warmed39 U.vm ∧ U.heap = h0) (fun _ _ _ _ _ => True) (fun _ U o U' => ∃ v L, o = .returned v ∧ Q_law Z if_ id_ iq kat kaf h0 n0 v U'.heap L ∧ FrameEnd U o U' L room_1.cells room_1.slots) := by
  refine MetFree.of_bodySF (plainFor_of_name pn_2) hisR ?_
  intro p e s m args below meth c s₁ Bd hml0 hP hK
  obtain ⟨rfl, hZ, hh⟩ := hP
  have hx := Bd.exec
  have hby := Bd.bytes
  have hml : c.maxLocals = 18 := hml0
  have hown : s.vm.findClass "com/example/queue_manager_rpc/queuemanagerrpc/CursorMoveToPinLaw" = some m.cls := findClass_of_methodNamed Bd.named
  have hnm := (name_of_methodNamed Bd.named Bd.method).1
  have hlk := BodyLoose.notSynchronized Bd
  have X0 : Stand p l e room_1 s m #[(.long if_), (.long id_), (.int iq)] below meth c s₁ [] 0 0 := Stand.of_body Bd
  have e0 : s₁.heap = h0 := by rw [← hh, Bd.state]; rfl
  have N0 := Fr.nil n0
  refine Go.start (P := fun o U' => ∃ v L, o = .returned v ∧ Q_law Z if_ id_ iq kat kaf h0 n0 v U'.heap L ∧ FrameEnd s o U' L room_1.cells room_1.slots) (ef_law m if_ id_ iq) ?_
  show Go p e below _ (s₁.setTop (mkF m 0 #[.val (.long if_), .second, .val (.long id_), .second, .val (.int iq), .unset, .unset, .unset, .unset, .unset, .unset, .unset, .unset, .unset, .unset, .unset, .unset, .unset] []))
  refine Go.by (fun t k => XS.iload X0.here hx rfl (hb hby at_0) rfl k) ?_
  show Go p e below _ (s₁.setTop (mkF m 2 #[.val (.long if_), .second, .val (.long id_), .second, .val (.int iq), .unset, .unset, .unset, .unset, .unset, .unset, .unset, .unset, .unset, .unset, .unset, .unset, .unset] [(.int iq)]))
  refine Go.by (fun t k => XS.iconst X0.here hx rfl (hb hby at_2) k) ?_
  show Go p e below _ (s₁.setTop (mkF m 3 #[.val (.long if_), .second, .val (.long id_), .second, .val (.int iq), .unset, .unset, .unset, .unset, .unset, .unset, .unset, .unset, .unset, .unset, .unset, .unset, .unset] [(.int (1 : Int32)), (.int iq)]))
  refine Go.by (fun t k => XS.iand X0.here hx rfl (hb hby at_3) rfl k) ?_
  show Go p e below _ (s₁.setTop (mkF m 4 #[.val (.long if_), .second, .val (.long id_), .second, .val (.int iq), .unset, .unset, .unset, .unset, .unset, .unset, .unset, .unset, .unset, .unset, .unset, .unset, .unset] [(.int (iq &&& (1 : Int32)))]))
  by_cases hc1 : (iq &&& (1 : Int32)) = (0 : Int32)
  · skip
    refine Go.by (fun t k => XS.ifYes X0.here hx rfl (pc0 := 4) (pc' := 11) rfl (hb hby at_4) rfl ((if0 _ _).trans (teq hc1).1) (by decide) (by decide) k) ?_
    show Go p e below _ (s₁.setTop (mkF m 11 #[.val (.long if_), .second, .val (.long id_), .second, .val (.int iq), .unset, .unset, .unset, .unset, .unset, .unset, .unset, .unset, .unset, .unset, .unset, .unset, .unset] []))
    refine Go.by (fun t k => XS.iconst X0.here hx rfl (hb hby at_11) k) ?_
    show Go p e below _ (s₁.setTop (mkF m 12 #[.val (.long if_), .second, .val (.long id_), .second, .val (.int iq), .unset, .unset, .unset, .unset, .unset, .unset, .unset, .unset, .unset, .unset, .unset, .unset, .unset] [(.int (0 : Int32))]))
    refine Go.by (fun t k => XS.istore X0.here hx rfl (hb hby at_12) rfl (l' := #[.val (.long if_), .second, .val (.long id_), .second, .val (.int iq), .val (.int (0 : Int32)), .unset, .unset, .unset, .unset, .unset, .unset, .unset, .unset, .unset, .unset, .unset, .unset]) rfl k) ?_
    show Go p e below _ (s₁.setTop (mkF m 14 #[.val (.long if_), .second, .val (.long id_), .second, .val (.int iq), .val (.int (0 : Int32)), .unset, .unset, .unset, .unset, .unset, .unset, .unset, .unset, .unset, .unset, .unset, .unset] []))
    refine Go.by (fun t k => XS.iload X0.here hx rfl (hb hby at_14) rfl k) ?_
    show Go p e below _ (s₁.setTop (mkF m 16 #[.val (.long if_), .second, .val (.long id_), .second, .val (.int iq), .val (.int (0 : Int32)), .unset, .unset, .unset, .unset, .unset, .unset, .unset, .unset, .unset, .unset, .unset, .unset] [(.int iq)]))
    refine Go.by (fun t k => XS.iconst X0.here hx rfl (hb hby at_16) k) ?_
    show Go p e below _ (s₁.setTop (mkF m 17 #[.val (.long if_), .second, .val (.long id_), .second, .val (.int iq), .val (.int (0 : Int32)), .unset, .unset, .unset, .unset, .unset, .unset, .unset, .unset, .unset, .unset, .unset, .unset] [(.int (2 : Int32)), (.int iq)]))
    refine Go.by (fun t k => XS.iand X0.here hx rfl (hb hby at_17) rfl k) ?_
    show Go p e below _ (s₁.setTop (mkF m 18 #[.val (.long if_), .second, .val (.long id_), .second, .val (.int iq), .val (.int (0 : Int32)), .unset, .unset, .unset, .unset, .unset, .unset, .unset, .unset, .unset, .unset, .unset, .unset] [(.int (iq &&& (2 : Int32)))]))
    by_cases hc2 : (iq &&& (2 : Int32)) = (0 : Int32)
    · skip
      refine Go.by (fun t k => XS.ifYes X0.here hx rfl (pc0 := 18) (pc' := 25) rfl (hb hby at_18) rfl ((if0 _ _).trans (teq hc2).1) (by decide) (by decide) k) ?_
      show Go p e below _ (s₁.setTop (mkF m 25 #[.val (.long if_), .second, .val (.long id_), .second, .val (.int iq), .val (.int (0 : Int32)), .unset, .unset, .unset, .unset, .unset, .unset, .unset, .unset, .unset, .unset, .unset, .unset] []))
      refine Go.by (fun t k => XS.iconst X0.here hx rfl (hb hby at_25) k) ?_
      show Go p e below _ (s₁.setTop (mkF m 26 #[.val (.long if_), .second, .val (.long id_), .second, .val (.int iq), .val (.int (0 : Int32)), .unset, .unset, .unset, .unset, .unset, .unset, .unset, .unset, .unset, .unset, .unset, .unset] [(.int (0 : Int32))]))
      refine Go.by (fun t k => XS.istore X0.here hx rfl (hb hby at_26) rfl (l' := #[.val (.long if_), .second, .val (.long id_), .second, .val (.int iq), .val (.int (0 : Int32)), .val (.int (0 : Int32)), .unset, .unset, .unset, .unset, .unset, .unset, .unset, .unset, .unset, .unset, .unset]) rfl k) ?_
      show Go p e below _ (s₁.setTop (mkF m 28 #[.val (.long if_), .second, .val (.long id_), .second, .val (.int iq), .val (.int (0 : Int32)), .val (.int (0 : Int32)), .unset, .unset, .unset, .unset, .unset, .unset, .unset, .unset, .unset, .unset, .unset] []))
      obtain ⟨T3, h3, X3, e3, E3, A3, D3, -, st3⟩ := newO X0 hx hZ hown (hw _ (List.mem_of_getElem? (i := 0) rfl)) (hw _ (List.mem_of_getElem? (i := 1) rfl)) (hw _ (List.mem_of_getElem? (i := 2) rfl)) e0 (g := (mkF m 28 #[.val (.long if_), .second, .val (.long id_), .second, .val (.int iq), .val (.int (0 : Int32)), .val (.int (0 : Int32)), .unset, .unset, .unset, .unset, .unset, .unset, .unset, .unset, .unset, .unset, .unset] [])) rfl (hb hby at_28) (by decide) (by decide)
      obtain ⟨b3, g3⟩ : ∃ z, z = h0.size := ⟨_, rfl⟩
      rw [← g3] at A3 D3 st3
      have gl3 : h0.size ≤ b3 := Nat.le_of_eq g3.symm
      have ge3 : n0 ≤ b3 := Nat.le_trans (own_old_size O0) gl3
      have sz3 : h0.size ≤ b3 := Nat.le_trans (Keep.refl h0 []).1 gl3
      have F4 : Fld Z h3 b3 "com/example/queue_manager_rpc/queuemanagerrpc/Cursor" "lookupId" "J" (.long (0 : Int64)) := D3 (Or.inl (hw _ (List.mem_of_getElem? (i := 15) rfl))) (ty := .long) (by decide)
      have F5 : Fld Z h3 b3 "com/example/queue_manager_rpc/queuemanagerrpc/Cursor" "onMessage" "Z" (.int (0 : Int32)) := D3 (Or.inl (hw _ (List.mem_of_getElem? (i := 17) rfl))) (ty := .boolean) (by decide)
      refine Go.by st3 ?_
      show Go p e below _ (T3.setTop (mkF m 31 #[.val (.long if_), .second, .val (.long id_), .second, .val (.int iq), .val (.int (0 : Int32)), .val (.int (0 : Int32)), .unset, .unset, .unset, .unset, .unset, .unset, .unset, .unset, .unset, .unset, .unset] [(.ref b3)]))
      refine Go.by (fun t k => XS.dup X3.here hx rfl (hb hby at_31) rfl rfl k) ?_
      show Go p e below _ (T3.setTop (mkF m 32 #[.val (.long if_), .second, .val (.long id_), .second, .val (.int iq), .val (.int (0 : Int32)), .val (.int (0 : Int32)), .unset, .unset, .unset, .unset, .unset, .unset, .unset, .unset, .unset, .unset, .unset] [(.ref b3), (.ref b3)]))
      have F7 : Old Z n0 h3 := (O0.ext E3)
      have F8 : Keep h0 h3 [] := ((Keep.refl h0 []).ext E3)
      obtain ⟨_, _, ⟨T6, L6, k6, n6⟩, -, X6, ⟨Lc6, hQ6, l6, y6, z6⟩, st6⟩ := X3.specialBack hx (y := (⟨"com/example/queue_manager_rpc/queuemanagerrpc/Cursor", "<init>", "()V"⟩ : MethodName)) rfl hown (mvT hZ (hw _ (List.mem_of_getElem? (i := 3) rfl))) (mvT hZ (hw _ (List.mem_of_getElem? (i := 4) rfl))) (mvT hZ (hw _ (List.mem_of_getElem? (i := 5) rfl))) (by decide) (backOf (W := 1) (cinit l Z a0 hw [] b3 h3 n0 F7) hZ (hw _ (List.mem_of_getElem? (i := 5) rfl)) (hw _ (List.mem_of_getElem? (i := 2) rfl)) (by decide) (by decide)) (g := (mkF m 32 #[.val (.long if_), .second, .val (.long id_), .second, .val (.int iq), .val (.int (0 : Int32)), .val (.int (0 : Int32)), .unset, .unset, .unset, .unset, .unset, .unset, .unset, .unset, .unset, .unset, .unset] [(.ref b3), (.ref b3)])) rfl (by rw [hml]; rfl) (Steps.refl _) (a := b3) (argsL := []) (rest := [(.ref b3)]) (lenOf pd_2 rfl) rfl (by show 2 * 0 + _ ≤ _; exact Nat.le_of_eq rfl) (hb hby at_32) (fun _ _ => ⟨rfl, e3, (by decide : 1 + 0 ≤ _), (by decide : 2 + 0 ≤ _)⟩)
      dsimp only [Pt.U, Pt.locs, Pt.cells, Pt.slots] at X6 l6 y6 z6 st6 hQ6
      subst l6 y6 z6
      obtain ⟨rfl, N6q, e6⟩ := hQ6
      have N6 := Fr.app N0 N6q
      refine Go.tr st6 ?_
      show Go p e below _ (T6.setTop (mkF m 35 #[.val (.long if_), .second, .val (.long id_), .second, .val (.int iq), .val (.int (0 : Int32)), .val (.int (0 : Int32)), .unset, .unset, .unset, .unset, .unset, .unset, .unset, .unset, .unset, .unset, .unset] [(.ref b3)]))
      refine Go.by (fun t k => XS.astore X6.here hx rfl (hb hby at_35) rfl rfl (l' := #[.val (.long if_), .second, .val (.long id_), .second, .val (.int iq), .val (.int (0 : Int32)), .val (.int (0 : Int32)), .val (.ref b3), .unset, .unset, .unset, .unset, .unset, .unset, .unset, .unset, .unset, .unset]) rfl k) ?_
      show Go p e below _ (T6.setTop (mkF m 37 #[.val (.long if_), .second, .val (.long id_), .second, .val (.int iq), .val (.int (0 : Int32)), .val (.int (0 : Int32)), .val (.ref b3), .unset, .unset, .unset, .unset, .unset, .unset, .unset, .unset, .unset, .unset] []))
      refine Go.by (fun t k => XS.aload X6.here hx rfl (hb hby at_37) rfl rfl k) ?_
      show Go p e below _ (T6.setTop (mkF m 39 #[.val (.long if_), .second, .val (.long id_), .second, .val (.int iq), .val (.int (0 : Int32)), .val (.int (0 : Int32)), .val (.ref b3), .unset, .unset, .unset, .unset, .unset, .unset, .unset, .unset, .unset, .unset] [(.ref b3)]))
      refine Go.by (fun t k => XS.lloadN X6.here hx rfl (hb hby at_39) rfl k) ?_
      show Go p e below _ (T6.setTop (mkF m 40 #[.val (.long if_), .second, .val (.long id_), .second, .val (.int iq), .val (.int (0 : Int32)), .val (.int (0 : Int32)), .val (.ref b3), .unset, .unset, .unset, .unset, .unset, .unset, .unset, .unset, .unset, .unset] [(.long if_), (.ref b3)]))
      refine Go.by (fun t k => XS.iload X6.here hx rfl (hb hby at_40) rfl k) ?_
      show Go p e below _ (T6.setTop (mkF m 42 #[.val (.long if_), .second, .val (.long id_), .second, .val (.int iq), .val (.int (0 : Int32)), .val (.int (0 : Int32)), .val (.ref b3), .unset, .unset, .unset, .unset, .unset, .unset, .unset, .unset, .unset, .unset] [(.int (0 : Int32)), (.long if_), (.ref b3)]))
      obtain ⟨cq9, kq9, q9a, q9b, q9c⟩ := isOf hZ e6 A3
      obtain ⟨_, _, ⟨T9, L9, k9, n9⟩, -, X9, ⟨Lc9, hQ9, l9, y9, z9⟩, st9⟩ := X6.virtualBack hx (y := (⟨"com/example/queue_manager_rpc/queuemanagerrpc/Cursor", "moveTo", "(JZ)V"⟩ : MethodName)) (z := (⟨"com/example/queue_manager_rpc/queuemanagerrpc/Cursor", "moveTo", "(JZ)V"⟩ : MethodName)) hown (mvT hZ (hw _ (List.mem_of_getElem? (i := 9) rfl))) (mvT hZ (hw _ (List.mem_of_getElem? (i := 10) rfl))) (notFace_of_selects (args := #[]) (mvT hZ (hw _ (List.mem_of_getElem? (i := 12) rfl)))) (mvT hZ (hw _ (List.mem_of_getElem? (i := 12) rfl))) (mvT hZ (hw _ (List.mem_of_getElem? (i := 11) rfl))) (by decide) (backOf (W := 0) (move0 l Z a0 hw [] b3 if_ (0 : Int64) (0 : Int32) h3 n0 F7 A3 F4 F5 ge3) hZ (hw _ (List.mem_of_getElem? (i := 13) rfl)) (hw _ (List.mem_of_getElem? (i := 2) rfl)) (by decide) (by decide)) q9a q9c (g := (mkF m 42 #[.val (.long if_), .second, .val (.long id_), .second, .val (.int iq), .val (.int (0 : Int32)), .val (.int (0 : Int32)), .val (.ref b3), .unset, .unset, .unset, .unset, .unset, .unset, .unset, .unset, .unset, .unset] [(.int (0 : Int32)), (.long if_), (.ref b3)])) rfl (by rw [hml]; rfl) (Steps.refl _) (argsL := [(.long if_), (.int (0 : Int32))]) (rest := []) (lenOf pd_3 rfl) rfl (by show 2 * 0 + _ ≤ _; exact Nat.le_of_eq rfl) (hb hby at_42) (fun _ _ => ⟨rfl, e6, (by decide : 1 + 0 ≤ _), (by decide : 2 + 0 ≤ _)⟩)
      dsimp only [Pt.U, Pt.locs, Pt.cells, Pt.slots] at X9 l9 y9 z9 st9 hQ9
      subst l9 y9 z9
      obtain ⟨rfl, N9q, K9, F9_0, F9_1, F9_2⟩ := hQ9
      have N9 := Fr.app N6 N9q
      refine Go.tr st9 ?_
      show Go p e below _ (T9.setTop (mkF m 45 #[.val (.long if_), .second, .val (.long id_), .second, .val (.int iq), .val (.int (0 : Int32)), .val (.int (0 : Int32)), .val (.ref b3), .unset, .unset, .unset, .unset, .unset, .unset, .unset, .unset, .unset, .unset] []))
      refine Go.by (fun t k => XS.aload X9.here hx rfl (hb hby at_45) rfl rfl k) ?_
      show Go p e below _ (T9.setTop (mkF m 47 #[.val (.long if_), .second, .val (.long id_), .second, .val (.int iq), .val (.int (0 : Int32)), .val (.int (0 : Int32)), .val (.ref b3), .unset, .unset, .unset, .unset, .unset, .unset, .unset, .unset, .unset, .unset] [(.ref b3)]))
      refine Go.by (fun t k => XS.lloadN X9.here hx rfl (hb hby at_47) rfl k) ?_
      show Go p e below _ (T9.setTop (mkF m 48 #[.val (.long if_), .second, .val (.long id_), .second, .val (.int iq), .val (.int (0 : Int32)), .val (.int (0 : Int32)), .val (.ref b3), .unset, .unset, .unset, .unset, .unset, .unset, .unset, .unset, .unset, .unset] [(.long id_), (.ref b3)]))
      refine Go.by (fun t k => XS.iload X9.here hx rfl (hb hby at_48) rfl k) ?_
      show Go p e below _ (T9.setTop (mkF m 50 #[.val (.long if_), .second, .val (.long id_), .second, .val (.int iq), .val (.int (0 : Int32)), .val (.int (0 : Int32)), .val (.ref b3), .unset, .unset, .unset, .unset, .unset, .unset, .unset, .unset, .unset, .unset] [(.int (0 : Int32)), (.long id_), (.ref b3)]))
      have F11 : Old Z n0 T9.heap := (F7.keep K9 (allS ge3 all0))
      have F12 : Keep h0 T9.heap [] := (F8.trans K9 (allS (Or.inr sz3) all0))
      obtain ⟨cq10, kq10, q10a, q10b, q10c⟩ := isOf hZ rfl F9_0
      obtain ⟨_, _, ⟨T10, L10, k10, n10⟩, -, X10, ⟨Lc10, hQ10, l10, y10, z10⟩, st10⟩ := X9.virtualBack hx (y := (⟨"com/example/queue_manager_rpc/queuemanagerrpc/Cursor", "moveTo", "(JZ)V"⟩ : MethodName)) (z := (⟨"com/example/queue_manager_rpc/queuemanagerrpc/Cursor", "moveTo", "(JZ)V"⟩ : MethodName)) hown (mvT hZ (hw _ (List.mem_of_getElem? (i := 9) rfl))) (mvT hZ (hw _ (List.mem_of_getElem? (i := 10) rfl))) (notFace_of_selects (args := #[]) (mvT hZ (hw _ (List.mem_of_getElem? (i := 12) rfl)))) (mvT hZ (hw _ (List.mem_of_getElem? (i := 12) rfl))) (mvT hZ (hw _ (List.mem_of_getElem? (i := 11) rfl))) (by decide) (backOf (W := 0) (move0 l Z a0 hw [] b3 id_ if_ (1 : Int32) T9.heap n0 F11 F9_0 F9_1 F9_2 ge3) hZ (hw _ (List.mem_of_getElem? (i := 13) rfl)) (hw _ (List.mem_of_getElem? (i := 2) rfl)) (by decide) (by decide)) q10a q10c (g := (mkF m 50 #[.val (.long if_), .second, .val (.long id_), .second, .val (.int iq), .val (.int (0 : Int32)), .val (.int (0 : Int32)), .val (.ref b3), .unset, .unset, .unset, .unset, .unset, .unset, .unset, .unset, .unset, .unset] [(.int (0 : Int32)), (.long id_), (.ref b3)])) rfl (by rw [hml]; rfl) (Steps.refl _) (argsL := [(.long id_), (.int (0 : Int32))]) (rest := []) (lenOf pd_3 rfl) rfl (by show 2 * 0 + _ ≤ _; exact Nat.le_of_eq rfl) (hb hby at_50) (fun _ _ => ⟨rfl, rfl, (by decide : 1 + 0 ≤ _), (by decide : 2 + 0 ≤ _)⟩)
      dsimp only [Pt.U, Pt.locs, Pt.cells, Pt.slots] at X10 l10 y10 z10 st10 hQ10
      subst l10 y10 z10
      obtain ⟨rfl, N10q, K10, F10_0, F10_1, F10_2⟩ := hQ10
      have N10 := Fr.app N9 N10q
      refine Go.tr st10 ?_
      show Go p e below _ (T10.setTop (mkF m 53 #[.val (.long if_), .second, .val (.long id_), .second, .val (.int iq), .val (.int (0 : Int32)), .val (.int (0 : Int32)), .val (.ref b3), .unset, .unset, .unset, .unset, .unset, .unset, .unset, .unset, .unset, .unset] []))
      refine Go.by (fun t k => XS.aload X10.here hx rfl (hb hby at_53) rfl rfl k) ?_
      show Go p e below _ (T10.setTop (mkF m 55 #[.val (.long if_), .second, .val (.long id_), .second, .val (.int iq), .val (.int (0 : Int32)), .val (.int (0 : Int32)), .val (.ref b3), .unset, .unset, .unset, .unset, .unset, .unset, .unset, .unset, .unset, .unset] [(.ref b3)]))
      have F14 : Old Z n0 T10.heap := (F11.keep K10 (allS ge3 all0))
      have F15 : Keep h0 T10.heap [] := (F12.trans K10 (allS (Or.inr sz3) all0))
      obtain ⟨cq13, kq13, q13a, q13b, q13c⟩ := isOf hZ rfl F10_0
      obtain ⟨_, _, ⟨T13, L13, k13, n13⟩, -, X13, ⟨Lc13, hQ13, l13, y13, z13⟩, st13⟩ := X10.virtualBack hx (y := (⟨"com/example/queue_manager_rpc/queuemanagerrpc/Cursor", "isOnMessage", "()Z"⟩ : MethodName)) (z := (⟨"com/example/queue_manager_rpc/queuemanagerrpc/Cursor", "isOnMessage", "()Z"⟩ : MethodName)) hown (mvT hZ (hw _ (List.mem_of_getElem? (i := 18) rfl))) (mvT hZ (hw _ (List.mem_of_getElem? (i := 19) rfl))) (notFace_of_selects (args := #[]) (mvT hZ (hw _ (List.mem_of_getElem? (i := 21) rfl)))) (mvT hZ (hw _ (List.mem_of_getElem? (i := 21) rfl))) (mvT hZ (hw _ (List.mem_of_getElem? (i := 20) rfl))) (by decide) (backOf (W := 0) (isOn1 l Z a0 hw [] b3 T10.heap n0 F14 F10_2) hZ (hw _ (List.mem_of_getElem? (i := 22) rfl)) (hw _ (List.mem_of_getElem? (i := 2) rfl)) (by decide) (by decide)) q13a q13c (g := (mkF m 55 #[.val (.long if_), .second, .val (.long id_), .second, .val (.int iq), .val (.int (0 : Int32)), .val (.int (0 : Int32)), .val (.ref b3), .unset, .unset, .unset, .unset, .unset, .unset, .unset, .unset, .unset, .unset] [(.ref b3)])) rfl (by rw [hml]; rfl) (Steps.refl _) (argsL := []) (rest := []) (lenOf pd_4 rfl) rfl (by show 2 * 0 + _ ≤ _; exact Nat.le_of_eq rfl) (hb hby at_55) (fun _ _ => ⟨rfl, rfl, (by decide : 1 + 0 ≤ _), (by decide : 2 + 0 ≤ _)⟩)
      dsimp only [Pt.U, Pt.locs, Pt.cells, Pt.slots] at X13 l13 y13 z13 st13 hQ13
      subst l13 y13 z13
      obtain ⟨rfl, N13q, e13⟩ := hQ13
      have N13 := Fr.app N10 N13q
      refine Go.tr st13 ?_
      show Go p e below _ (T13.setTop (mkF m 58 #[.val (.long if_), .second, .val (.long id_), .second, .val (.int iq), .val (.int (0 : Int32)), .val (.int (0 : Int32)), .val (.ref b3), .unset, .unset, .unset, .unset, .unset, .unset, .unset, .unset, .unset, .unset] [(.int (1 : Int32))]))
      refine Go.by (fun t k => XS.istore X13.here hx rfl (hb hby at_58) rfl (l' := #[.val (.long if_), .second, .val (.long id_), .second, .val (.int iq), .val (.int (0 : Int32)), .val (.int (0 : Int32)), .val (.ref b3), .val (.int (1 : Int32)), .unset, .unset, .unset, .unset, .unset, .unset, .unset, .unset, .unset]) rfl k) ?_
      show Go p e below _ (T13.setTop (mkF m 60 #[.val (.long if_), .second, .val (.long id_), .second, .val (.int iq), .val (.int (0 : Int32)), .val (.int (0 : Int32)), .val (.ref b3), .val (.int (1 : Int32)), .unset, .unset, .unset, .unset, .unset, .unset, .unset, .unset, .unset] []))
      refine Go.by (fun t k => XS.aload X13.here hx rfl (hb hby at_60) rfl rfl k) ?_
      show Go p e below _ (T13.setTop (mkF m 62 #[.val (.long if_), .second, .val (.long id_), .second, .val (.int iq), .val (.int (0 : Int32)), .val (.int (0 : Int32)), .val (.ref b3), .val (.int (1 : Int32)), .unset, .unset, .unset, .unset, .unset, .unset, .unset, .unset, .unset] [(.ref b3)]))
      obtain ⟨cq16, kq16, q16a, q16b, q16c⟩ := isOf hZ e13 F10_0
      obtain ⟨_, _, ⟨T16, L16, k16, n16⟩, -, X16, ⟨Lc16, hQ16, l16, y16, z16⟩, st16⟩ := X13.virtualBack hx (y := (⟨"com/example/queue_manager_rpc/queuemanagerrpc/Cursor", "current", "()Lcom/example/queue_manager_rpc/queuemanagerrpc/Position;"⟩ : MethodName)) (z := (⟨"com/example/queue_manager_rpc/queuemanagerrpc/Cursor", "current", "()Lcom/example/queue_manager_rpc/queuemanagerrpc/Position;"⟩ : MethodName)) hown (mvT hZ (hw _ (List.mem_of_getElem? (i := 23) rfl))) (mvT hZ (hw _ (List.mem_of_getElem? (i := 24) rfl))) (notFace_of_selects (args := #[]) (mvT hZ (hw _ (List.mem_of_getElem? (i := 26) rfl)))) (mvT hZ (hw _ (List.mem_of_getElem? (i := 26) rfl))) (mvT hZ (hw _ (List.mem_of_getElem? (i := 25) rfl))) (by decide) (backOf (W := 0) (cur1 l Z a0 hw [] b3 id_ kat T10.heap n0 F14 P0 F10_2 F10_1) hZ (hw _ (List.mem_of_getElem? (i := 27) rfl)) (hw _ (List.mem_of_getElem? (i := 2) rfl)) (by decide) (by decide)) q16a q16c (g := (mkF m 62 #[.val (.long if_), .second, .val (.long id_), .second, .val (.int iq), .val (.int (0 : Int32)), .val (.int (0 : Int32)), .val (.ref b3), .val (.int (1 : Int32)), .unset, .unset, .unset, .unset, .unset, .unset, .unset, .unset, .unset] [(.ref b3)])) rfl (by rw [hml]; rfl) (Steps.refl _) (argsL := []) (rest := []) (lenOf pd_5 rfl) rfl (by show 2 * 0 + _ ≤ _; exact Nat.le_of_eq rfl) (hb hby at_62) (fun _ _ => ⟨rfl, e13, (by decide : 1 + 1 ≤ _), (by decide : 2 + 2 ≤ _)⟩)
      dsimp only [Pt.U, Pt.locs, Pt.cells, Pt.slots] at X16 l16 y16 z16 st16 hQ16
      subst l16 y16 z16
      obtain ⟨ob_16, rfl, N16q, K16, fz16_ob, F16_0, F16_1, F16_2⟩ := hQ16
      have N16 := Fr.app N13 N16q
      have ge_ob_16 : n0 ≤ ob_16 := Nat.le_trans (own_old_size F14) fz16_ob
      have sz_ob_16 : h0.size ≤ ob_16 := Nat.le_trans F15.1 fz16_ob
      have ne17 : b3 ≠ ob_16 := Nat.ne_of_lt (Nat.lt_of_lt_of_le F10_0.lt fz16_ob)
      refine Go.tr st16 ?_
      show Go p e below _ (T16.setTop (mkF m 65 #[.val (.long if_), .second, .val (.long id_), .second, .val (.int iq), .val (.int (0 : Int32)), .val (.int (0 : Int32)), .val (.ref b3), .val (.int (1 : Int32)), .unset, .unset, .unset, .unset, .unset, .unset, .unset, .unset, .unset] [(.ref ob_16)]))
      refine Go.by (fun t k => XS.astore X16.here hx rfl (hb hby at_65) rfl rfl (l' := #[.val (.long if_), .second, .val (.long id_), .second, .val (.int iq), .val (.int (0 : Int32)), .val (.int (0 : Int32)), .val (.ref b3), .val (.int (1 : Int32)), .val (.ref ob_16), .unset, .unset, .unset, .unset, .unset, .unset, .unset, .unset]) rfl k) ?_
      show Go p e below _ (T16.setTop (mkF m 67 #[.val (.long if_), .second, .val (.long id_), .second, .val (.int iq), .val (.int (0 : Int32)), .val (.int (0 : Int32)), .val (.ref b3), .val (.int (1 : Int32)), .val (.ref ob_16), .unset, .unset, .unset, .unset, .unset, .unset, .unset, .unset] []))
      refine Go.by (fun t k => XS.aload X16.here hx rfl (hb hby at_67) rfl rfl k) ?_
      show Go p e below _ (T16.setTop (mkF m 69 #[.val (.long if_), .second, .val (.long id_), .second, .val (.int iq), .val (.int (0 : Int32)), .val (.int (0 : Int32)), .val (.ref b3), .val (.int (1 : Int32)), .val (.ref ob_16), .unset, .unset, .unset, .unset, .unset, .unset, .unset, .unset] [(.ref ob_16)]))
      have F19 : Old Z n0 T16.heap := (F14.keep K16 all0)
      have F20 : Keep h0 T16.heap [] := (F15.trans K16 all0)
      obtain ⟨cq18, kq18, q18a, q18b, q18c⟩ := isOf hZ rfl F16_0
      obtain ⟨_, _, ⟨T18, L18, k18, n18⟩, -, X18, ⟨Lc18, hQ18, l18, y18, z18⟩, st18⟩ := X16.virtualBack hx (y := (⟨"com/example/queue_manager_rpc/queuemanagerrpc/Position", "kind", "()Lcom/example/queue_manager_rpc/queuemanagerrpc/Position$Kind;"⟩ : MethodName)) (z := (⟨"com/example/queue_manager_rpc/queuemanagerrpc/Position", "kind", "()Lcom/example/queue_manager_rpc/queuemanagerrpc/Position$Kind;"⟩ : MethodName)) hown (mvT hZ (hw _ (List.mem_of_getElem? (i := 45) rfl))) (mvT hZ (hw _ (List.mem_of_getElem? (i := 46) rfl))) (notFace_of_selects (args := #[]) (mvT hZ (hw _ (List.mem_of_getElem? (i := 48) rfl)))) (mvT hZ (hw _ (List.mem_of_getElem? (i := 48) rfl))) (mvT hZ (hw _ (List.mem_of_getElem? (i := 47) rfl))) (by decide) (backOf (W := 0) (kind l Z a0 hw [] ob_16 kat T16.heap n0 F19 F16_1) hZ (hw _ (List.mem_of_getElem? (i := 49) rfl)) (hw _ (List.mem_of_getElem? (i := 30) rfl)) (by decide) (by decide)) q18a q18c (g := (mkF m 69 #[.val (.long if_), .second, .val (.long id_), .second, .val (.int iq), .val (.int (0 : Int32)), .val (.int (0 : Int32)), .val (.ref b3), .val (.int (1 : Int32)), .val (.ref ob_16), .unset, .unset, .unset, .unset, .unset, .unset, .unset, .unset] [(.ref ob_16)])) rfl (by rw [hml]; rfl) (Steps.refl _) (argsL := []) (rest := []) (lenOf pd_6 rfl) rfl (by show 2 * 0 + _ ≤ _; exact Nat.le_of_eq rfl) (hb hby at_69) (fun _ _ => ⟨rfl, rfl, (by decide : 2 + 0 ≤ _), (by decide : 4 + 0 ≤ _)⟩)
      dsimp only [Pt.U, Pt.locs, Pt.cells, Pt.slots] at X18 l18 y18 z18 st18 hQ18
      subst l18 y18 z18
      obtain ⟨rfl, N18q, e18⟩ := hQ18
      have N18 := Fr.app N16 N18q
      refine Go.tr st18 ?_
      show Go p e below _ (T18.setTop (mkF m 72 #[.val (.long if_), .second, .val (.long id_), .second, .val (.int iq), .val (.int (0 : Int32)), .val (.int (0 : Int32)), .val (.ref b3), .val (.int (1 : Int32)), .val (.ref ob_16), .unset, .unset, .unset, .unset, .unset, .unset, .unset, .unset] [(.ref kat)]))
      refine Go.by (fun t k => XS.astore X18.here hx rfl (hb hby at_72) rfl rfl (l' := #[.val (.long if_), .second, .val (.long id_), .second, .val (.int iq), .val (.int (0 : Int32)), .val (.int (0 : Int32)), .val (.ref b3), .val (.int (1 : Int32)), .val (.ref ob_16), .val (.ref kat), .unset, .unset, .unset, .unset, .unset, .unset, .unset]) rfl k) ?_
      show Go p e below _ (T18.setTop (mkF m 74 #[.val (.long if_), .second, .val (.long id_), .second, .val (.int iq), .val (.int (0 : Int32)), .val (.int (0 : Int32)), .val (.ref b3), .val (.int (1 : Int32)), .val (.ref ob_16), .val (.ref kat), .unset, .unset, .unset, .unset, .unset, .unset, .unset] []))
      refine Go.by (fun t k => XS.aload X18.here hx rfl (hb hby at_74) rfl rfl k) ?_
      show Go p e below _ (T18.setTop (mkF m 76 #[.val (.long if_), .second, .val (.long id_), .second, .val (.int iq), .val (.int (0 : Int32)), .val (.int (0 : Int32)), .val (.ref b3), .val (.int (1 : Int32)), .val (.ref ob_16), .val (.ref kat), .unset, .unset, .unset, .unset, .unset, .unset, .unset] [(.ref ob_16)]))
      obtain ⟨cq21, kq21, q21a, q21b, q21c⟩ := isOf hZ e18 F16_0
      obtain ⟨_, _, ⟨T21, L21, k21, n21⟩, -, X21, ⟨Lc21, hQ21, l21, y21, z21⟩, st21⟩ := X18.virtualBack hx (y := (⟨"com/example/queue_manager_rpc/queuemanagerrpc/Position", "lookupId", "()J"⟩ : MethodName)) (z := (⟨"com/example/queue_manager_rpc/queuemanagerrpc/Position", "lookupId", "()J"⟩ : MethodName)) hown (mvT hZ (hw _ (List.mem_of_getElem? (i := 50) rfl))) (mvT hZ (hw _ (List.mem_of_getElem? (i := 51) rfl))) (notFace_of_selects (args := #[]) (mvT hZ (hw _ (List.mem_of_getElem? (i := 53) rfl)))) (mvT hZ (hw _ (List.mem_of_getElem? (i := 53) rfl))) (mvT hZ (hw _ (List.mem_of_getElem? (i := 52) rfl))) (by decide) (backOf (W := 0) (lookupId l Z a0 hw [] ob_16 id_ T16.heap n0 F19 F16_2) hZ (hw _ (List.mem_of_getElem? (i := 54) rfl)) (hw _ (List.mem_of_getElem? (i := 30) rfl)) (by decide) (by decide)) q21a q21c (g := (mkF m 76 #[.val (.long if_), .second, .val (.long id_), .second, .val (.int iq), .val (.int (0 : Int32)), .val (.int (0 : Int32)), .val (.ref b3), .val (.int (1 : Int32)), .val (.ref ob_16), .val (.ref kat), .unset, .unset, .unset, .unset, .unset, .unset, .unset] [(.ref ob_16)])) rfl (by rw [hml]; rfl) (Steps.refl _) (argsL := []) (rest := []) (lenOf pd_7 rfl) rfl (by show 2 * 0 + _ ≤ _; exact Nat.le_of_eq rfl) (hb hby at_76) (fun _ _ => ⟨rfl, e18, (by decide : 2 + 0 ≤ _), (by decide : 4 + 0 ≤ _)⟩)
      dsimp only [Pt.U, Pt.locs, Pt.cells, Pt.slots] at X21 l21 y21 z21 st21 hQ21
      subst l21 y21 z21
      obtain ⟨rfl, N21q, e21⟩ := hQ21
      have N21 := Fr.app N18 N21q
      refine Go.tr st21 ?_
      show Go p e below _ (T21.setTop (mkF m 79 #[.val (.long if_), .second, .val (.long id_), .second, .val (.int iq), .val (.int (0 : Int32)), .val (.int (0 : Int32)), .val (.ref b3), .val (.int (1 : Int32)), .val (.ref ob_16), .val (.ref kat), .unset, .unset, .unset, .unset, .unset, .unset, .unset] [(.long id_)]))
      refine Go.by (fun t k => XS.lstore X21.here hx rfl (hb hby at_79) rfl (l' := #[.val (.long if_), .second, .val (.long id_), .second, .val (.int iq), .val (.int (0 : Int32)), .val (.int (0 : Int32)), .val (.ref b3), .val (.int (1 : Int32)), .val (.ref ob_16), .val (.ref kat), .val (.long id_), .second, .unset, .unset, .unset, .unset, .unset]) rfl k) ?_
      show Go p e below _ (T21.setTop (mkF m 81 #[.val (.long if_), .second, .val (.long id_), .second, .val (.int iq), .val (.int (0 : Int32)), .val (.int (0 : Int32)), .val (.ref b3), .val (.int (1 : Int32)), .val (.ref ob_16), .val (.ref kat), .val (.long id_), .second, .unset, .unset, .unset, .unset, .unset] []))
      refine Go.by (fun t k => XS.aload X21.here hx rfl (hb hby at_81) rfl rfl k) ?_
      show Go p e below _ (T21.setTop (mkF m 83 #[.val (.long if_), .second, .val (.long id_), .second, .val (.int iq), .val (.int (0 : Int32)), .val (.int (0 : Int32)), .val (.ref b3), .val (.int (1 : Int32)), .val (.ref ob_16), .val (.ref kat), .val (.long id_), .second, .unset, .unset, .unset, .unset, .unset] [(.ref b3)]))
      have F23 : Fld Z T16.heap b3 "com/example/queue_manager_rpc/queuemanagerrpc/Cursor" "lookupId" "J" (.long id_) := (F10_1.keep K16 nin0)
      have F24 : Exa Z T16.heap b3 "com/example/queue_manager_rpc/queuemanagerrpc/Cursor" := (F10_0.keep K16)
      obtain ⟨cq22, kq22, q22a, q22b, q22c⟩ := isOf hZ e21 F24
      obtain ⟨_, _, ⟨T22, L22, k22, n22⟩, -, X22, ⟨Lc22, hQ22, l22, y22, z22⟩, st22⟩ := X21.virtualBack hx (y := (⟨"com/example/queue_manager_rpc/queuemanagerrpc/Cursor", "next", "()Lcom/example/queue_manager_rpc/queuemanagerrpc/Position;"⟩ : MethodName)) (z := (⟨"com/example/queue_manager_rpc/queuemanagerrpc/Cursor", "next", "()Lcom/example/queue_manager_rpc/queuemanagerrpc/Position;"⟩ : MethodName)) hown (mvT hZ (hw _ (List.mem_of_getElem? (i := 55) rfl))) (mvT hZ (hw _ (List.mem_of_getElem? (i := 56) rfl))) (notFace_of_selects (args := #[]) (mvT hZ (hw _ (List.mem_of_getElem? (i := 58) rfl)))) (mvT hZ (hw _ (List.mem_of_getElem? (i := 58) rfl))) (mvT hZ (hw _ (List.mem_of_getElem? (i := 57) rfl))) (by decide) (backOf (W := 0) (next l Z a0 hw [] b3 id_ kaf T16.heap n0 F19 P1 F23) hZ (hw _ (List.mem_of_getElem? (i := 59) rfl)) (hw _ (List.mem_of_getElem? (i := 2) rfl)) (by decide) (by decide)) q22a q22c (g := (mkF m 83 #[.val (.long if_), .second, .val (.long id_), .second, .val (.int iq), .val (.int (0 : Int32)), .val (.int (0 : Int32)), .val (.ref b3), .val (.int (1 : Int32)), .val (.ref ob_16), .val (.ref kat), .val (.long id_), .second, .unset, .unset, .unset, .unset, .unset] [(.ref b3)])) rfl (by rw [hml]; rfl) (Steps.refl _) (argsL := []) (rest := []) (lenOf pd_5 rfl) rfl (by show 2 * 0 + _ ≤ _; exact Nat.le_of_eq rfl) (hb hby at_83) (fun _ _ => ⟨rfl, e21, (by decide : 2 + 1 ≤ _), (by decide : 4 + 2 ≤ _)⟩)
      dsimp only [Pt.U, Pt.locs, Pt.cells, Pt.slots] at X22 l22 y22 z22 st22 hQ22
      subst l22 y22 z22
      obtain ⟨ob_22, rfl, N22q, K22, fz22_ob, F22_0, F22_1, F22_2⟩ := hQ22
      have N22 := Fr.app N21 N22q
      have ge_ob_22 : n0 ≤ ob_22 := Nat.le_trans (own_old_size F19) fz22_ob
      have sz_ob_22 : h0.size ≤ ob_22 := Nat.le_trans F20.1 fz22_ob
      have ne25 : b3 ≠ ob_22 := Nat.ne_of_lt (Nat.lt_of_lt_of_le F24.lt fz22_ob)
      have ne26 : ob_16 ≠ ob_22 := Nat.ne_of_lt (Nat.lt_of_lt_of_le F16_0.lt fz22_ob)
      refine Go.tr st22 ?_
      show Go p e below _ (T22.setTop (mkF m 86 #[.val (.long if_), .second, .val (.long id_), .second, .val (.int iq), .val (.int (0 : Int32)), .val (.int (0 : Int32)), .val (.ref b3), .val (.int (1 : Int32)), .val (.ref ob_16), .val (.ref kat), .val (.long id_), .second, .unset, .unset, .unset, .unset, .unset] [(.ref ob_22)]))
      refine Go.by (fun t k => XS.astore X22.here hx rfl (hb hby at_86) rfl rfl (l' := #[.val (.long if_), .second, .val (.long id_), .second, .val (.int iq), .val (.int (0 : Int32)), .val (.int (0 : Int32)), .val (.ref b3), .val (.int (1 : Int32)), .val (.ref ob_16), .val (.ref kat), .val (.long id_), .second, .val (.ref ob_22), .unset, .unset, .unset, .unset]) rfl k) ?_
      show Go p e below _ (T22.setTop (mkF m 88 #[.val (.long if_), .second, .val (.long id_), .second, .val (.int iq), .val (.int (0 : Int32)), .val (.int (0 : Int32)), .val (.ref b3), .val (.int (1 : Int32)), .val (.ref ob_16), .val (.ref kat), .val (.long id_), .second, .val (.ref ob_22), .unset, .unset, .unset, .unset] []))
      refine Go.by (fun t k => XS.aload X22.here hx rfl (hb hby at_88) rfl rfl k) ?_
      show Go p e below _ (T22.setTop (mkF m 90 #[.val (.long if_), .second, .val (.long id_), .second, .val (.int iq), .val (.int (0 : Int32)), .val (.int (0 : Int32)), .val (.ref b3), .val (.int (1 : Int32)), .val (.ref ob_16), .val (.ref kat), .val (.long id_), .second, .val (.ref ob_22), .unset, .unset, .unset, .unset] [(.ref ob_22)]))
      have F28 : Old Z n0 T22.heap := (F19.keep K22 all0)
      have F29 : Keep h0 T22.heap [] := (F20.trans K22 all0)
      obtain ⟨cq27, kq27, q27a, q27b, q27c⟩ := isOf hZ rfl F22_0
      obtain ⟨_, _, ⟨T27, L27, k27, n27⟩, -, X27, ⟨Lc27, hQ27, l27, y27, z27⟩, st27⟩ := X22.virtualBack hx (y := (⟨"com/example/queue_manager_rpc/queuemanagerrpc/Position", "kind", "()Lcom/example/queue_manager_rpc/queuemanagerrpc/Position$Kind;"⟩ : MethodName)) (z := (⟨"com/example/queue_manager_rpc/queuemanagerrpc/Position", "kind", "()Lcom/example/queue_manager_rpc/queuemanagerrpc/Position$Kind;"⟩ : MethodName)) hown (mvT hZ (hw _ (List.mem_of_getElem? (i := 45) rfl))) (mvT hZ (hw _ (List.mem_of_getElem? (i := 46) rfl))) (notFace_of_selects (args := #[]) (mvT hZ (hw _ (List.mem_of_getElem? (i := 48) rfl)))) (mvT hZ (hw _ (List.mem_of_getElem? (i := 48) rfl))) (mvT hZ (hw _ (List.mem_of_getElem? (i := 47) rfl))) (by decide) (backOf (W := 0) (kind l Z a0 hw [] ob_22 kaf T22.heap n0 F28 F22_1) hZ (hw _ (List.mem_of_getElem? (i := 49) rfl)) (hw _ (List.mem_of_getElem? (i := 30) rfl)) (by decide) (by decide)) q27a q27c (g := (mkF m 90 #[.val (.long if_), .second, .val (.long id_), .second, .val (.int iq), .val (.int (0 : Int32)), .val (.int (0 : Int32)), .val (.ref b3), .val (.int (1 : Int32)), .val (.ref ob_16), .val (.ref kat), .val (.long id_), .second, .val (.ref ob_22), .unset, .unset, .unset, .unset] [(.ref ob_22)])) rfl (by rw [hml]; rfl) (Steps.refl _) (argsL := []) (rest := []) (lenOf pd_6 rfl) rfl (by show 2 * 0 + _ ≤ _; exact Nat.le_of_eq rfl) (hb hby at_90) (fun _ _ => ⟨rfl, rfl, (by decide : 3 + 0 ≤ _), (by decide : 6 + 0 ≤ _)⟩)
      dsimp only [Pt.U, Pt.locs, Pt.cells, Pt.slots] at X27 l27 y27 z27 st27 hQ27
      subst l27 y27 z27
      obtain ⟨rfl, N27q, e27⟩ := hQ27
      have N27 := Fr.app N22 N27q
      refine Go.tr st27 ?_
      show Go p e below _ (T27.setTop (mkF m 93 #[.val (.long if_), .second, .val (.long id_), .second, .val (.int iq), .val (.int (0 : Int32)), .val (.int (0 : Int32)), .val (.ref b3), .val (.int (1 : Int32)), .val (.ref ob_16), .val (.ref kat), .val (.long id_), .second, .val (.ref ob_22), .unset, .unset, .unset, .unset] [(.ref kaf)]))
      refine Go.by (fun t k => XS.astore X27.here hx rfl (hb hby at_93) rfl rfl (l' := #[.val (.long if_), .second, .val (.long id_), .second, .val (.int iq), .val (.int (0 : Int32)), .val (.int (0 : Int32)), .val (.ref b3), .val (.int (1 : Int32)), .val (.ref ob_16), .val (.ref kat), .val (.long id_), .second, .val (.ref ob_22), .val (.ref kaf), .unset, .unset, .unset]) rfl k) ?_
      show Go p e below _ (T27.setTop (mkF m 95 #[.val (.long if_), .second, .val (.long id_), .second, .val (.int iq), .val (.int (0 : Int32)), .val (.int (0 : Int32)), .val (.ref b3), .val (.int (1 : Int32)), .val (.ref ob_16), .val (.ref kat), .val (.long id_), .second, .val (.ref ob_22), .val (.ref kaf), .unset, .unset, .unset] []))
      refine Go.by (fun t k => XS.aload X27.here hx rfl (hb hby at_95) rfl rfl k) ?_
      show Go p e below _ (T27.setTop (mkF m 97 #[.val (.long if_), .second, .val (.long id_), .second, .val (.int iq), .val (.int (0 : Int32)), .val (.int (0 : Int32)), .val (.ref b3), .val (.int (1 : Int32)), .val (.ref ob_16), .val (.ref kat), .val (.long id_), .second, .val (.ref ob_22), .val (.ref kaf), .unset, .unset, .unset] [(.ref ob_22)]))
      obtain ⟨cq30, kq30, q30a, q30b, q30c⟩ := isOf hZ e27 F22_0
      obtain ⟨_, _, ⟨T30, L30, k30, n30⟩, -, X30, ⟨Lc30, hQ30, l30, y30, z30⟩, st30⟩ := X27.virtualBack hx (y := (⟨"com/example/queue_manager_rpc/queuemanagerrpc/Position", "lookupId", "()J"⟩ : MethodName)) (z := (⟨"com/example/queue_manager_rpc/queuemanagerrpc/Position", "lookupId", "()J"⟩ : MethodName)) hown (mvT hZ (hw _ (List.mem_of_getElem? (i := 50) rfl))) (mvT hZ (hw _ (List.mem_of_getElem? (i := 51) rfl))) (notFace_of_selects (args := #[]) (mvT hZ (hw _ (List.mem_of_getElem? (i := 53) rfl)))) (mvT hZ (hw _ (List.mem_of_getElem? (i := 53) rfl))) (mvT hZ (hw _ (List.mem_of_getElem? (i := 52) rfl))) (by decide) (backOf (W := 0) (lookupId l Z a0 hw [] ob_22 id_ T22.heap n0 F28 F22_2) hZ (hw _ (List.mem_of_getElem? (i := 54) rfl)) (hw _ (List.mem_of_getElem? (i := 30) rfl)) (by decide) (by decide)) q30a q30c (g := (mkF m 97 #[.val (.long if_), .second, .val (.long id_), .second, .val (.int iq), .val (.int (0 : Int32)), .val (.int (0 : Int32)), .val (.ref b3), .val (.int (1 : Int32)), .val (.ref ob_16), .val (.ref kat), .val (.long id_), .second, .val (.ref ob_22), .val (.ref kaf), .unset, .unset, .unset] [(.ref ob_22)])) rfl (by rw [hml]; rfl) (Steps.refl _) (argsL := []) (rest := []) (lenOf pd_7 rfl) rfl (by show 2 * 0 + _ ≤ _; exact Nat.le_of_eq rfl) (hb hby at_97) (fun _ _ => ⟨rfl, e27, (by decide : 3 + 0 ≤ _), (by decide : 6 + 0 ≤ _)⟩)
      dsimp only [Pt.U, Pt.locs, Pt.cells, Pt.slots] at X30 l30 y30 z30 st30 hQ30
      subst l30 y30 z30
      obtain ⟨rfl, N30q, e30⟩ := hQ30
      have N30 := Fr.app N27 N30q
      refine Go.tr st30 ?_
      show Go p e below _ (T30.setTop (mkF m 100 #[.val (.long if_), .second, .val (.long id_), .second, .val (.int iq), .val (.int (0 : Int32)), .val (.int (0 : Int32)), .val (.ref b3), .val (.int (1 : Int32)), .val (.ref ob_16), .val (.ref kat), .val (.long id_), .second, .val (.ref ob_22), .val (.ref kaf), .unset, .unset, .unset] [(.long id_)]))
      refine Go.by (fun t k => XS.lstore X30.here hx rfl (hb hby at_100) rfl (l' := #[.val (.long if_), .second, .val (.long id_), .second, .val (.int iq), .val (.int (0 : Int32)), .val (.int (0 : Int32)), .val (.ref b3), .val (.int (1 : Int32)), .val (.ref ob_16), .val (.ref kat), .val (.long id_), .second, .val (.ref ob_22), .val (.ref kaf), .val (.long id_), .second, .unset]) rfl k) ?_
      show Go p e below _ (T30.setTop (mkF m 102 #[.val (.long if_), .second, .val (.long id_), .second, .val (.int iq), .val (.int (0 : Int32)), .val (.int (0 : Int32)), .val (.ref b3), .val (.int (1 : Int32)), .val (.ref ob_16), .val (.ref kat), .val (.long id_), .second, .val (.ref ob_22), .val (.ref kaf), .val (.long id_), .second, .unset] []))
      refine Go.by (fun t k => XS.iload X30.here hx rfl (hb hby at_102) rfl k) ?_
      show Go p e below _ (T30.setTop (mkF m 104 #[.val (.long if_), .second, .val (.long id_), .second, .val (.int iq), .val (.int (0 : Int32)), .val (.int (0 : Int32)), .val (.ref b3), .val (.int (1 : Int32)), .val (.ref ob_16), .val (.ref kat), .val (.long id_), .second, .val (.ref ob_22), .val (.ref kaf), .val (.long id_), .second, .unset] [(.int (0 : Int32))]))
      refine Go.by (fun t k => XS.ifYes X30.here hx rfl (pc0 := 104) (pc' := 115) rfl (hb hby at_104) rfl ((if0 _ _).trans (teq rfl).1) (by decide) (by decide) k) ?_
      show Go p e below _ (T30.setTop (mkF m 115 #[.val (.long if_), .second, .val (.long id_), .second, .val (.int iq), .val (.int (0 : Int32)), .val (.int (0 : Int32)), .val (.ref b3), .val (.int (1 : Int32)), .val (.ref ob_16), .val (.ref kat), .val (.long id_), .second, .val (.ref ob_22), .val (.ref kaf), .val (.long id_), .second, .unset] []))
      have F31 : Sta Z T22.heap "com/example/queue_manager_rpc/queuemanagerrpc/Position$Kind" "AT" "Lcom/example/queue_manager_rpc/queuemanagerrpc/Position$Kind;" (.ref kat) := P0.ext F28.2
      obtain ⟨T32, X32, e32, st32⟩ := getS2 X30 hx hZ hown (host := "") (Or.inl (hw _ (List.mem_of_getElem? (i := 65) rfl))) Via.refl e30 F31 (g := (mkF m 115 #[.val (.long if_), .second, .val (.long id_), .second, .val (.int iq), .val (.int (0 : Int32)), .val (.int (0 : Int32)), .val (.ref b3), .val (.int (1 : Int32)), .val (.ref ob_16), .val (.ref kat), .val (.long id_), .second, .val (.ref ob_22), .val (.ref kaf), .val (.long id_), .second, .unset] [])) rfl (hb hby at_115)
      refine Go.by st32 ?_
      show Go p e below _ (T32.setTop (mkF m 118 #[.val (.long if_), .second, .val (.long id_), .second, .val (.int iq), .val (.int (0 : Int32)), .val (.int (0 : Int32)), .val (.ref b3), .val (.int (1 : Int32)), .val (.ref ob_16), .val (.ref kat), .val (.long id_), .second, .val (.ref ob_22), .val (.ref kaf), .val (.long id_), .second, .unset] [(.ref kat)]))
      refine Go.by (fun t k => XS.astore X32.here hx rfl (hb hby at_118) rfl rfl (l' := #[.val (.long if_), .second, .val (.long id_), .second, .val (.int iq), .val (.int (0 : Int32)), .val (.int (0 : Int32)), .val (.ref b3), .val (.int (1 : Int32)), .val (.ref ob_16), .val (.ref kat), .val (.long id_), .second, .val (.ref ob_22), .val (.ref kaf), .val (.long id_), .second, .val (.ref kat)]) rfl k) ?_
      show Go p e below _ (T32.setTop (mkF m 120 #[.val (.long if_), .second, .val (.long id_), .second, .val (.int iq), .val (.int (0 : Int32)), .val (.int (0 : Int32)), .val (.ref b3), .val (.int (1 : Int32)), .val (.ref ob_16), .val (.ref kat), .val (.long id_), .second, .val (.ref ob_22), .val (.ref kaf), .val (.long id_), .second, .val (.ref kat)] []))
      refine Go.by (fun t k => XS.iload X32.here hx rfl (hb hby at_120) rfl k) ?_
      show Go p e below _ (T32.setTop (mkF m 122 #[.val (.long if_), .second, .val (.long id_), .second, .val (.int iq), .val (.int (0 : Int32)), .val (.int (0 : Int32)), .val (.ref b3), .val (.int (1 : Int32)), .val (.ref ob_16), .val (.ref kat), .val (.long id_), .second, .val (.ref ob_22), .val (.ref kaf), .val (.long id_), .second, .val (.ref kat)] [(.int (1 : Int32))]))
      refine Go.by (fun t k => XS.iload X32.here hx rfl (hb hby at_122) rfl k) ?_
      show Go p e below _ (T32.setTop (mkF m 124 #[.val (.long if_), .second, .val (.long id_), .second, .val (.int iq), .val (.int (0 : Int32)), .val (.int (0 : Int32)), .val (.ref b3), .val (.int (1 : Int32)), .val (.ref ob_16), .val (.ref kat), .val (.long id_), .second, .val (.ref ob_22), .val (.ref kaf), .val (.long id_), .second, .val (.ref kat)] [(.int (0 : Int32)), (.int (1 : Int32))]))
      refine Go.by (fun t k => XS.ifNo X32.here hx rfl (hb hby at_124) rfl ((if0 _ _).trans (teq rfl).2) k) ?_
      show Go p e below _ (T32.setTop (mkF m 127 #[.val (.long if_), .second, .val (.long id_), .second, .val (.int iq), .val (.int (0 : Int32)), .val (.int (0 : Int32)), .val (.ref b3), .val (.int (1 : Int32)), .val (.ref ob_16), .val (.ref kat), .val (.long id_), .second, .val (.ref ob_22), .val (.ref kaf), .val (.long id_), .second, .val (.ref kat)] [(.int (1 : Int32))]))
      refine Go.by (fun t k => XS.iconst X32.here hx rfl (hb hby at_127) k) ?_
      show Go p e below _ (T32.setTop (mkF m 128 #[.val (.long if_), .second, .val (.long id_), .second, .val (.int iq), .val (.int (0 : Int32)), .val (.int (0 : Int32)), .val (.ref b3), .val (.int (1 : Int32)), .val (.ref ob_16), .val (.ref kat), .val (.long id_), .second, .val (.ref ob_22), .val (.ref kaf), .val (.long id_), .second, .val (.ref kat)] [(.int (1 : Int32)), (.int (1 : Int32))]))
      refine Go.by (fun t k => XS.goto X32.here hx rfl (pc0 := 128) (pc' := 132) rfl (hb hby at_128) (by decide) (by decide) k) ?_
      show Go p e below _ (T32.setTop (mkF m 132 #[.val (.long if_), .second, .val (.long id_), .second, .val (.int iq), .val (.int (0 : Int32)), .val (.int (0 : Int32)), .val (.ref b3), .val (.int (1 : Int32)), .val (.ref ob_16), .val (.ref kat), .val (.long id_), .second, .val (.ref ob_22), .val (.ref kaf), .val (.long id_), .second, .val (.ref kat)] [(.int (1 : Int32)), (.int (1 : Int32))]))
      refine Go.by (fun t k => XS.icmpNo X32.here hx rfl (hb hby at_132) rfl (teq rfl).2 k) ?_
      show Go p e below _ (T32.setTop (mkF m 135 #[.val (.long if_), .second, .val (.long id_), .second, .val (.int iq), .val (.int (0 : Int32)), .val (.int (0 : Int32)), .val (.ref b3), .val (.int (1 : Int32)), .val (.ref ob_16), .val (.ref kat), .val (.long id_), .second, .val (.ref ob_22), .val (.ref kaf), .val (.long id_), .second, .val (.ref kat)] []))
      refine Go.by (fun t k => XS.aload X32.here hx rfl (hb hby at_135) rfl rfl k) ?_
      show Go p e below _ (T32.setTop (mkF m 137 #[.val (.long if_), .second, .val (.long id_), .second, .val (.int iq), .val (.int (0 : Int32)), .val (.int (0 : Int32)), .val (.ref b3), .val (.int (1 : Int32)), .val (.ref ob_16), .val (.ref kat), .val (.long id_), .second, .val (.ref ob_22), .val (.ref kaf), .val (.long id_), .second, .val (.ref kat)] [(.ref kat)]))
      refine Go.by (fun t k => XS.aload X32.here hx rfl (hb hby at_137) rfl rfl k) ?_
      show Go p e below _ (T32.setTop (mkF m 139 #[.val (.long if_), .second, .val (.long id_), .second, .val (.int iq), .val (.int (0 : Int32)), .val (.int (0 : Int32)), .val (.ref b3), .val (.int (1 : Int32)), .val (.ref ob_16), .val (.ref kat), .val (.long id_), .second, .val (.ref ob_22), .val (.ref kaf), .val (.long id_), .second, .val (.ref kat)] [(.ref kat), (.ref kat)]))
      refine Go.by (fun t k => Jvm.RoadKit.acmp (g := (mkF m 139 #[.val (.long if_), .second, .val (.long id_), .second, .val (.int iq), .val (.int (0 : Int32)), .val (.int (0 : Int32)), .val (.ref b3), .val (.int (1 : Int32)), .val (.ref ob_16), .val (.ref kat), .val (.long id_), .second, .val (.ref ob_22), .val (.ref kaf), .val (.long id_), .second, .val (.ref kat)] [(.ref kat), (.ref kat)])) X32 hx rfl rfl rfl (pc0 := 139) (pc' := 142) (same := true) rfl (hb hby at_139) rfl (decide_eq_true rfl) (by decide) (by decide) k) ?_
      show Go p e below _ (T32.setTop (mkF m 142 #[.val (.long if_), .second, .val (.long id_), .second, .val (.int iq), .val (.int (0 : Int32)), .val (.int (0 : Int32)), .val (.ref b3), .val (.int (1 : Int32)), .val (.ref ob_16), .val (.ref kat), .val (.long id_), .second, .val (.ref ob_22), .val (.ref kaf), .val (.long id_), .second, .val (.ref kat)] []))
      refine Go.by (fun t k => XS.lload X32.here hx rfl (hb hby at_142) rfl k) ?_
      show Go p e below _ (T32.setTop (mkF m 144 #[.val (.long if_), .second, .val (.long id_), .second, .val (.int iq), .val (.int (0 : Int32)), .val (.int (0 : Int32)), .val (.ref b3), .val (.int (1 : Int32)), .val (.ref ob_16), .val (.ref kat), .val (.long id_), .second, .val (.ref ob_22), .val (.ref kaf), .val (.long id_), .second, .val (.ref kat)] [(.long id_)]))
      refine Go.by (fun t k => XS.lloadN X32.here hx rfl (hb hby at_144) rfl k) ?_
      show Go p e below _ (T32.setTop (mkF m 145 #[.val (.long if_), .second, .val (.long id_), .second, .val (.int iq), .val (.int (0 : Int32)), .val (.int (0 : Int32)), .val (.ref b3), .val (.int (1 : Int32)), .val (.ref ob_16), .val (.ref kat), .val (.long id_), .second, .val (.ref ob_22), .val (.ref kaf), .val (.long id_), .second, .val (.ref kat)] [(.long id_), (.long id_)]))
      refine Go.by (fun t k => XS.lcmp X32.here hx rfl (hb hby at_145) rfl k) ?_
      show Go p e below _ (T32.setTop (mkF m 146 #[.val (.long if_), .second, .val (.long id_), .second, .val (.int iq), .val (.int (0 : Int32)), .val (.int (0 : Int32)), .val (.ref b3), .val (.int (1 : Int32)), .val (.ref ob_16), .val (.ref kat), .val (.long id_), .second, .val (.ref ob_22), .val (.ref kaf), .val (.long id_), .second, .val (.ref kat)] [(.int (lcmpW id_ id_))]))
      refine Go.by (fun t k => XS.ifNo X32.here hx rfl (hb hby at_146) rfl ((if0 _ _).trans (teq ((lw_eq id_ id_).mpr rfl)).2) k) ?_
      show Go p e below _ (T32.setTop (mkF m 149 #[.val (.long if_), .second, .val (.long id_), .second, .val (.int iq), .val (.int (0 : Int32)), .val (.int (0 : Int32)), .val (.ref b3), .val (.int (1 : Int32)), .val (.ref ob_16), .val (.ref kat), .val (.long id_), .second, .val (.ref ob_22), .val (.ref kaf), .val (.long id_), .second, .val (.ref kat)] []))
      refine Go.by (fun t k => XS.aload X32.here hx rfl (hb hby at_149) rfl rfl k) ?_
      show Go p e below _ (T32.setTop (mkF m 151 #[.val (.long if_), .second, .val (.long id_), .second, .val (.int iq), .val (.int (0 : Int32)), .val (.int (0 : Int32)), .val (.ref b3), .val (.int (1 : Int32)), .val (.ref ob_16), .val (.ref kat), .val (.long id_), .second, .val (.ref ob_22), .val (.ref kaf), .val (.long id_), .second, .val (.ref kat)] [(.ref kaf)]))
      have F33 : Sta Z T22.heap "com/example/queue_manager_rpc/queuemanagerrpc/Position$Kind" "AFTER" "Lcom/example/queue_manager_rpc/queuemanagerrpc/Position$Kind;" (.ref kaf) := P1.ext F28.2
      obtain ⟨T34, X34, e34, st34⟩ := getS2 X32 hx hZ hown (host := "") (Or.inl (hw _ (List.mem_of_getElem? (i := 66) rfl))) Via.refl e32 F33 (g := (mkF m 151 #[.val (.long if_), .second, .val (.long id_), .second, .val (.int iq), .val (.int (0 : Int32)), .val (.int (0 : Int32)), .val (.ref b3), .val (.int (1 : Int32)), .val (.ref ob_16), .val (.ref kat), .val (.long id_), .second, .val (.ref ob_22), .val (.ref kaf), .val (.long id_), .second, .val (.ref kat)] [(.ref kaf)])) rfl (hb hby at_151)
      refine Go.by st34 ?_
      show Go p e below _ (T34.setTop (mkF m 154 #[.val (.long if_), .second, .val (.long id_), .second, .val (.int iq), .val (.int (0 : Int32)), .val (.int (0 : Int32)), .val (.ref b3), .val (.int (1 : Int32)), .val (.ref ob_16), .val (.ref kat), .val (.long id_), .second, .val (.ref ob_22), .val (.ref kaf), .val (.long id_), .second, .val (.ref kat)] [(.ref kaf), (.ref kaf)]))
      refine Go.by (fun t k => Jvm.RoadKit.acmp (g := (mkF m 154 #[.val (.long if_), .second, .val (.long id_), .second, .val (.int iq), .val (.int (0 : Int32)), .val (.int (0 : Int32)), .val (.ref b3), .val (.int (1 : Int32)), .val (.ref ob_16), .val (.ref kat), .val (.long id_), .second, .val (.ref ob_22), .val (.ref kaf), .val (.long id_), .second, .val (.ref kat)] [(.ref kaf), (.ref kaf)])) X34 hx rfl rfl rfl (pc0 := 154) (pc' := 157) (same := true) rfl (hb hby at_154) rfl (decide_eq_true rfl) (by decide) (by decide) k) ?_
      show Go p e below _ (T34.setTop (mkF m 157 #[.val (.long if_), .second, .val (.long id_), .second, .val (.int iq), .val (.int (0 : Int32)), .val (.int (0 : Int32)), .val (.ref b3), .val (.int (1 : Int32)), .val (.ref ob_16), .val (.ref kat), .val (.long id_), .second, .val (.ref ob_22), .val (.ref kaf), .val (.long id_), .second, .val (.ref kat)] []))
      refine Go.by (fun t k => XS.lload X34.here hx rfl (hb hby at_157) rfl k) ?_
      show Go p e below _ (T34.setTop (mkF m 159 #[.val (.long if_), .second, .val (.long id_), .second, .val (.int iq), .val (.int (0 : Int32)), .val (.int (0 : Int32)), .val (.ref b3), .val (.int (1 : Int32)), .val (.ref ob_16), .val (.ref kat), .val (.long id_), .second, .val (.ref ob_22), .val (.ref kaf), .val (.long id_), .second, .val (.ref kat)] [(.long id_)]))
      refine Go.by (fun t k => XS.lloadN X34.here hx rfl (hb hby at_159) rfl k) ?_
      show Go p e below _ (T34.setTop (mkF m 160 #[.val (.long if_), .second, .val (.long id_), .second, .val (.int iq), .val (.int (0 : Int32)), .val (.int (0 : Int32)), .val (.ref b3), .val (.int (1 : Int32)), .val (.ref ob_16), .val (.ref kat), .val (.long id_), .second, .val (.ref ob_22), .val (.ref kaf), .val (.long id_), .second, .val (.ref kat)] [(.long id_), (.long id_)]))
      refine Go.by (fun t k => XS.lcmp X34.here hx rfl (hb hby at_160) rfl k) ?_
      show Go p e below _ (T34.setTop (mkF m 161 #[.val (.long if_), .second, .val (.long id_), .second, .val (.int iq), .val (.int (0 : Int32)), .val (.int (0 : Int32)), .val (.ref b3), .val (.int (1 : Int32)), .val (.ref ob_16), .val (.ref kat), .val (.long id_), .second, .val (.ref ob_22), .val (.ref kaf), .val (.long id_), .second, .val (.ref kat)] [(.int (lcmpW id_ id_))]))
      refine Go.by (fun t k => XS.ifNo X34.here hx rfl (hb hby at_161) rfl ((if0 _ _).trans (teq ((lw_eq id_ id_).mpr rfl)).2) k) ?_
      show Go p e below _ (T34.setTop (mkF m 164 #[.val (.long if_), .second, .val (.long id_), .second, .val (.int iq), .val (.int (0 : Int32)), .val (.int (0 : Int32)), .val (.ref b3), .val (.int (1 : Int32)), .val (.ref ob_16), .val (.ref kat), .val (.long id_), .second, .val (.ref ob_22), .val (.ref kaf), .val (.long id_), .second, .val (.ref kat)] []))
      refine Go.by (fun t k => XS.iconst X34.here hx rfl (hb hby at_164) k) ?_
      show Go p e below _ (T34.setTop (mkF m 165 #[.val (.long if_), .second, .val (.long id_), .second, .val (.int iq), .val (.int (0 : Int32)), .val (.int (0 : Int32)), .val (.ref b3), .val (.int (1 : Int32)), .val (.ref ob_16), .val (.ref kat), .val (.long id_), .second, .val (.ref ob_22), .val (.ref kaf), .val (.long id_), .second, .val (.ref kat)] [(.int (1 : Int32))]))
      refine Go.by (fun t k => XS.goto X34.here hx rfl (pc0 := 165) (pc' := 169) rfl (hb hby at_165) (by decide) (by decide) k) ?_
      show Go p e below _ (T34.setTop (mkF m 169 #[.val (.long if_), .second, .val (.long id_), .second, .val (.int iq), .val (.int (0 : Int32)), .val (.int (0 : Int32)), .val (.ref b3), .val (.int (1 : Int32)), .val (.ref ob_16), .val (.ref kat), .val (.long id_), .second, .val (.ref ob_22), .val (.ref kaf), .val (.long id_), .second, .val (.ref kat)] [(.int (1 : Int32))]))
      have hq : Q_law Z if_ id_ iq kat kaf h0 n0 (some (.int (nar .boolean (1 : Int32)))) T22.heap _ := ⟨rfl, N30, F29⟩
      exact Go.retN X34 hx (t := .boolean) Bd.returns (by simp) hlk (hb hby at_169) (by decide) (by decide) (by rw [e34]; exact hq)
    · skip
      refine Go.by (fun t k => XS.ifNo X0.here hx rfl (hb hby at_18) rfl ((if0 _ _).trans (feq hc2).1) k) ?_
      show Go p e below _ (s₁.setTop (mkF m 21 #[.val (.long if_), .second, .val (.long id_), .second, .val (.int iq), .val (.int (0 : Int32)), .unset, .unset, .unset, .unset, .unset, .unset, .unset, .unset, .unset, .unset, .unset, .unset] []))
      refine Go.by (fun t k => XS.iconst X0.here hx rfl (hb hby at_21) k) ?_
      show Go p e below _ (s₁.setTop (mkF m 22 #[.val (.long if_), .second, .val (.long id_), .second, .val (.int iq), .val (.int (0 : Int32)), .unset, .unset, .unset, .unset, .unset, .unset, .unset, .unset, .unset, .unset, .unset, .unset] [(.int (1 : Int32))]))
      refine Go.by (fun t k => XS.goto X0.here hx rfl (pc0 := 22) (pc' := 26) rfl (hb hby at_22) (by decide) (by decide) k) ?_
      show Go p e below _ (s₁.setTop (mkF m 26 #[.val (.long if_), .second, .val (.long id_), .second, .val (.int iq), .val (.int (0 : Int32)), .unset, .unset, .unset, .unset, .unset, .unset, .unset, .unset, .unset, .unset, .unset, .unset] [(.int (1 : Int32))]))
      refine Go.by (fun t k => XS.istore X0.here hx rfl (hb hby at_26) rfl (l' := #[.val (.long if_), .second, .val (.long id_), .second, .val (.int iq), .val (.int (0 : Int32)), .val (.int (1 : Int32)), .unset, .unset, .unset, .unset, .unset, .unset, .unset, .unset, .unset, .unset, .unset]) rfl k) ?_
      show Go p e below _ (s₁.setTop (mkF m 28 #[.val (.long if_), .second, .val (.long id_), .second, .val (.int iq), .val (.int (0 : Int32)), .val (.int (1 : Int32)), .unset, .unset, .unset, .unset, .unset, .unset, .unset, .unset, .unset, .unset, .unset] []))
      obtain ⟨T35, h35, X35, e35, E35, A35, D35, -, st35⟩ := newO X0 hx hZ hown (hw _ (List.mem_of_getElem? (i := 0) rfl)) (hw _ (List.mem_of_getElem? (i := 1) rfl)) (hw _ (List.mem_of_getElem? (i := 2) rfl)) e0 (g := (mkF m 28 #[.val (.long if_), .second, .val (.long id_), .second, .val (.int iq), .val (.int (0 : Int32)), .val (.int (1 : Int32)), .unset, .unset, .unset, .unset, .unset, .unset, .unset, .unset, .unset, .unset, .unset] [])) rfl (hb hby at_28) (by decide) (by decide)
      obtain ⟨b35, g35⟩ : ∃ z, z = h0.size := ⟨_, rfl⟩
      rw [← g35] at A35 D35 st35
      have gl35 : h0.size ≤ b35 := Nat.le_of_eq g35.symm
      have ge35 : n0 ≤ b35 := Nat.le_trans (own_old_size O0) gl35
      have sz35 : h0.size ≤ b35 := Nat.le_trans (Keep.refl h0 []).1 gl35
      have F36 : Fld Z h35 b35 "com/example/queue_manager_rpc/queuemanagerrpc/Cursor" "lookupId" "J" (.long (0 : Int64)) := D35 (Or.inl (hw _ (List.mem_of_getElem? (i := 15) rfl))) (ty := .long) (by decide)
      have F37 : Fld Z h35 b35 "com/example/queue_manager_rpc/queuemanagerrpc/Cursor" "onMessage" "Z" (.int (0 : Int32)) := D35 (Or.inl (hw _ (List.mem_of_getElem? (i := 17) rfl))) (ty := .boolean) (by decide)
      refine Go.by st35 ?_
      show Go p e below _ (T35.setTop (mkF m 31 #[.val (.long if_), .second, .val (.long id_), .second, .val (.int iq), .val (.int (0 : Int32)), .val (.int (1 : Int32)), .unset, .unset, .unset, .unset, .unset, .unset, .unset, .unset, .unset, .unset, .unset] [(.ref b35)]))
      refine Go.by (fun t k => XS.dup X35.here hx rfl (hb hby at_31) rfl rfl k) ?_
      show Go p e below _ (T35.setTop (mkF m 32 #[.val (.long if_), .second, .val (.long id_), .second, .val (.int iq), .val (.int (0 : Int32)), .val (.int (1 : Int32)), .unset, .unset, .unset, .unset, .unset, .unset, .unset, .unset, .unset, .unset, .unset] [(.ref b35), (.ref b35)]))
      have F39 : Old Z n0 h35 := (O0.ext E35)
      have F40 : Keep h0 h35 [] := ((Keep.refl h0 []).ext E35)
      obtain ⟨_, _, ⟨T38, L38, k38, n38⟩, -, X38, ⟨Lc38, hQ38, l38, y38, z38⟩, st38⟩ := X35.specialBack hx (y := (⟨"com/example/queue_manager_rpc/queuemanagerrpc/Cursor", "<init>", "()V"⟩ : MethodName)) rfl hown (mvT hZ (hw _ (List.mem_of_getElem? (i := 3) rfl))) (mvT hZ (hw _ (List.mem_of_getElem? (i := 4) rfl))) (mvT hZ (hw _ (List.mem_of_getElem? (i := 5) rfl))) (by decide) (backOf (W := 1) (cinit l Z a0 hw [] b35 h35 n0 F39) hZ (hw _ (List.mem_of_getElem? (i := 5) rfl)) (hw _ (List.mem_of_getElem? (i := 2) rfl)) (by decide) (by decide)) (g := (mkF m 32 #[.val (.long if_), .second, .val (.long id_), .second, .val (.int iq), .val (.int (0 : Int32)), .val (.int (1 : Int32)), .unset, .unset, .unset, .unset, .unset, .unset, .unset, .unset, .unset, .unset, .unset] [(.ref b35), (.ref b35)])) rfl (by rw [hml]; rfl) (Steps.refl _) (a := b35) (argsL := []) (rest := [(.ref b35)]) (lenOf pd_2 rfl) rfl (by show 2 * 0 + _ ≤ _; exact Nat.le_of_eq rfl) (hb hby at_32) (fun _ _ => ⟨rfl, e35, (by decide : 1 + 0 ≤ _), (by decide : 2 + 0 ≤ _)⟩)
      dsimp only [Pt.U, Pt.locs, Pt.cells, Pt.slots] at X38 l38 y38 z38 st38 hQ38
      subst l38 y38 z38
      obtain ⟨rfl, N38q, e38⟩ := hQ38
      have N38 := Fr.app N0 N38q
      refine Go.tr st38 ?_
      show Go p e below _ (T38.setTop (mkF m 35 #[.val (.long if_), .second, .val (.long id_), .second, .val (.int iq), .val (.int (0 : Int32)), .val (.int (1 : Int32)), .unset, .unset, .unset, .unset, .unset, .unset, .unset, .unset, .unset, .unset, .unset] [(.ref b35)]))
      refine Go.by (fun t k => XS.astore X38.here hx rfl (hb hby at_35) rfl rfl (l' := #[.val (.long if_), .second, .val (.long id_), .second, .val (.int iq), .val (.int (0 : Int32)), .val (.int (1 : Int32)), .val (.ref b35), .unset, .unset, .unset, .unset, .unset, .unset, .unset, .unset, .unset, .unset]) rfl k) ?_
      show Go p e below _ (T38.setTop (mkF m 37 #[.val (.long if_), .second, .val (.long id_), .second, .val (.int iq), .val (.int (0 : Int32)), .val (.int (1 : Int32)), .val (.ref b35), .unset, .unset, .unset, .unset, .unset, .unset, .unset, .unset, .unset, .unset] []))
      refine Go.by (fun t k => XS.aload X38.here hx rfl (hb hby at_37) rfl rfl k) ?_
      show Go p e below _ (T38.setTop (mkF m 39 #[.val (.long if_), .second, .val (.long id_), .second, .val (.int iq), .val (.int (0 : Int32)), .val (.int (1 : Int32)), .val (.ref b35), .unset, .unset, .unset, .unset, .unset, .unset, .unset, .unset, .unset, .unset] [(.ref b35)]))
      refine Go.by (fun t k => XS.lloadN X38.here hx rfl (hb hby at_39) rfl k) ?_
      show Go p e below _ (T38.setTop (mkF m 40 #[.val (.long if_), .second, .val (.long id_), .second, .val (.int iq), .val (.int (0 : Int32)), .val (.int (1 : Int32)), .val (.ref b35), .unset, .unset, .unset, .unset, .unset, .unset, .unset, .unset, .unset, .unset] [(.long if_), (.ref b35)]))
      refine Go.by (fun t k => XS.iload X38.here hx rfl (hb hby at_40) rfl k) ?_
      show Go p e below _ (T38.setTop (mkF m 42 #[.val (.long if_), .second, .val (.long id_), .second, .val (.int iq), .val (.int (0 : Int32)), .val (.int (1 : Int32)), .val (.ref b35), .unset, .unset, .unset, .unset, .unset, .unset, .unset, .unset, .unset, .unset] [(.int (0 : Int32)), (.long if_), (.ref b35)]))
      obtain ⟨cq41, kq41, q41a, q41b, q41c⟩ := isOf hZ e38 A35
      obtain ⟨_, _, ⟨T41, L41, k41, n41⟩, -, X41, ⟨Lc41, hQ41, l41, y41, z41⟩, st41⟩ := X38.virtualBack hx (y := (⟨"com/example/queue_manager_rpc/queuemanagerrpc/Cursor", "moveTo", "(JZ)V"⟩ : MethodName)) (z := (⟨"com/example/queue_manager_rpc/queuemanagerrpc/Cursor", "moveTo", "(JZ)V"⟩ : MethodName)) hown (mvT hZ (hw _ (List.mem_of_getElem? (i := 9) rfl))) (mvT hZ (hw _ (List.mem_of_getElem? (i := 10) rfl))) (notFace_of_selects (args := #[]) (mvT hZ (hw _ (List.mem_of_getElem? (i := 12) rfl)))) (mvT hZ (hw _ (List.mem_of_getElem? (i := 12) rfl))) (mvT hZ (hw _ (List.mem_of_getElem? (i := 11) rfl))) (by decide) (backOf (W := 0) (move0 l Z a0 hw [] b35 if_ (0 : Int64) (0 : Int32) h35 n0 F39 A35 F36 F37 ge35) hZ (hw _ (List.mem_of_getElem? (i := 13) rfl)) (hw _ (List.mem_of_getElem? (i := 2) rfl)) (by decide) (by decide)) q41a q41c (g := (mkF m 42 #[.val (.long if_), .second, .val (.long id_), .second, .val (.int iq), .val (.int (0 : Int32)), .val (.int (1 : Int32)), .val (.ref b35), .unset, .unset, .unset, .unset, .unset, .unset, .unset, .unset, .unset, .unset] [(.int (0 : Int32)), (.long if_), (.ref b35)])) rfl (by rw [hml]; rfl) (Steps.refl _) (argsL := [(.long if_), (.int (0 : Int32))]) (rest := []) (lenOf pd_3 rfl) rfl (by show 2 * 0 + _ ≤ _; exact Nat.le_of_eq rfl) (hb hby at_42) (fun _ _ => ⟨rfl, e38, (by decide : 1 + 0 ≤ _), (by decide : 2 + 0 ≤ _)⟩)
      dsimp only [Pt.U, Pt.locs, Pt.cells, Pt.slots] at X41 l41 y41 z41 st41 hQ41
      subst l41 y41 z41
      obtain ⟨rfl, N41q, K41, F41_0, F41_1, F41_2⟩ := hQ41
      have N41 := Fr.app N38 N41q
      refine Go.tr st41 ?_
      show Go p e below _ (T41.setTop (mkF m 45 #[.val (.long if_), .second, .val (.long id_), .second, .val (.int iq), .val (.int (0 : Int32)), .val (.int (1 : Int32)), .val (.ref b35), .unset, .unset, .unset, .unset, .unset, .unset, .unset, .unset, .unset, .unset] []))
      refine Go.by (fun t k => XS.aload X41.here hx rfl (hb hby at_45) rfl rfl k) ?_
      show Go p e below _ (T41.setTop (mkF m 47 #[.val (.long if_), .second, .val (.long id_), .second, .val (.int iq), .val (.int (0 : Int32)), .val (.int (1 : Int32)), .val (.ref b35), .unset, .unset, .unset, .unset, .unset, .unset, .unset, .unset, .unset, .unset] [(.ref b35)]))
      refine Go.by (fun t k => XS.lloadN X41.here hx rfl (hb hby at_47) rfl k) ?_
      show Go p e below _ (T41.setTop (mkF m 48 #[.val (.long if_), .second, .val (.long id_), .second, .val (.int iq), .val (.int (0 : Int32)), .val (.int (1 : Int32)), .val (.ref b35), .unset, .unset, .unset, .unset, .unset, .unset, .unset, .unset, .unset, .unset] [(.long id_), (.ref b35)]))
      refine Go.by (fun t k => XS.iload X41.here hx rfl (hb hby at_48) rfl k) ?_
      show Go p e below _ (T41.setTop (mkF m 50 #[.val (.long if_), .second, .val (.long id_), .second, .val (.int iq), .val (.int (0 : Int32)), .val (.int (1 : Int32)), .val (.ref b35), .unset, .unset, .unset, .unset, .unset, .unset, .unset, .unset, .unset, .unset] [(.int (1 : Int32)), (.long id_), (.ref b35)]))
      have F43 : Old Z n0 T41.heap := (F39.keep K41 (allS ge35 all0))
      have F44 : Keep h0 T41.heap [] := (F40.trans K41 (allS (Or.inr sz35) all0))
      obtain ⟨cq42, kq42, q42a, q42b, q42c⟩ := isOf hZ rfl F41_0
      obtain ⟨_, _, ⟨T42, L42, k42, n42⟩, -, X42, ⟨Lc42, hQ42, l42, y42, z42⟩, st42⟩ := X41.virtualBack hx (y := (⟨"com/example/queue_manager_rpc/queuemanagerrpc/Cursor", "moveTo", "(JZ)V"⟩ : MethodName)) (z := (⟨"com/example/queue_manager_rpc/queuemanagerrpc/Cursor", "moveTo", "(JZ)V"⟩ : MethodName)) hown (mvT hZ (hw _ (List.mem_of_getElem? (i := 9) rfl))) (mvT hZ (hw _ (List.mem_of_getElem? (i := 10) rfl))) (notFace_of_selects (args := #[]) (mvT hZ (hw _ (List.mem_of_getElem? (i := 12) rfl)))) (mvT hZ (hw _ (List.mem_of_getElem? (i := 12) rfl))) (mvT hZ (hw _ (List.mem_of_getElem? (i := 11) rfl))) (by decide) (backOf (W := 0) (move1 l Z a0 hw [] b35 id_ if_ (1 : Int32) T41.heap n0 F43 F41_0 F41_1 F41_2 ge35) hZ (hw _ (List.mem_of_getElem? (i := 13) rfl)) (hw _ (List.mem_of_getElem? (i := 2) rfl)) (by decide) (by decide)) q42a q42c (g := (mkF m 50 #[.val (.long if_), .second, .val (.long id_), .second, .val (.int iq), .val (.int (0 : Int32)), .val (.int (1 : Int32)), .val (.ref b35), .unset, .unset, .unset, .unset, .unset, .unset, .unset, .unset, .unset, .unset] [(.int (1 : Int32)), (.long id_), (.ref b35)])) rfl (by rw [hml]; rfl) (Steps.refl _) (argsL := [(.long id_), (.int (1 : Int32))]) (rest := []) (lenOf pd_3 rfl) rfl (by show 2 * 0 + _ ≤ _; exact Nat.le_of_eq rfl) (hb hby at_50) (fun _ _ => ⟨rfl, rfl, (by decide : 1 + 0 ≤ _), (by decide : 2 + 0 ≤ _)⟩)
      dsimp only [Pt.U, Pt.locs, Pt.cells, Pt.slots] at X42 l42 y42 z42 st42 hQ42
      subst l42 y42 z42
      obtain ⟨rfl, N42q, K42, F42_0, F42_1, F42_2⟩ := hQ42
      have N42 := Fr.app N41 N42q
      refine Go.tr st42 ?_
      show Go p e below _ (T42.setTop (mkF m 53 #[.val (.long if_), .second, .val (.long id_), .second, .val (.int iq), .val (.int (0 : Int32)), .val (.int (1 : Int32)), .val (.ref b35), .unset, .unset, .unset, .unset, .unset, .unset, .unset, .unset, .unset, .unset] []))
      refine Go.by (fun t k => XS.aload X42.here hx rfl (hb hby at_53) rfl rfl k) ?_
      show Go p e below _ (T42.setTop (mkF m 55 #[.val (.long if_), .second, .val (.long id_), .second, .val (.int iq), .val (.int (0 : Int32)), .val (.int (1 : Int32)), .val (.ref b35), .unset, .unset, .unset, .unset, .unset, .unset, .unset, .unset, .unset, .unset] [(.ref b35)]))
      have F46 : Old Z n0 T42.heap := (F43.keep K42 (allS ge35 all0))
      have F47 : Keep h0 T42.heap [] := (F44.trans K42 (allS (Or.inr sz35) all0))
      obtain ⟨cq45, kq45, q45a, q45b, q45c⟩ := isOf hZ rfl F42_0
      obtain ⟨_, _, ⟨T45, L45, k45, n45⟩, -, X45, ⟨Lc45, hQ45, l45, y45, z45⟩, st45⟩ := X42.virtualBack hx (y := (⟨"com/example/queue_manager_rpc/queuemanagerrpc/Cursor", "isOnMessage", "()Z"⟩ : MethodName)) (z := (⟨"com/example/queue_manager_rpc/queuemanagerrpc/Cursor", "isOnMessage", "()Z"⟩ : MethodName)) hown (mvT hZ (hw _ (List.mem_of_getElem? (i := 18) rfl))) (mvT hZ (hw _ (List.mem_of_getElem? (i := 19) rfl))) (notFace_of_selects (args := #[]) (mvT hZ (hw _ (List.mem_of_getElem? (i := 21) rfl)))) (mvT hZ (hw _ (List.mem_of_getElem? (i := 21) rfl))) (mvT hZ (hw _ (List.mem_of_getElem? (i := 20) rfl))) (by decide) (backOf (W := 0) (isOn0 l Z a0 hw [] b35 T42.heap n0 F46 F42_2) hZ (hw _ (List.mem_of_getElem? (i := 22) rfl)) (hw _ (List.mem_of_getElem? (i := 2) rfl)) (by decide) (by decide)) q45a q45c (g := (mkF m 55 #[.val (.long if_), .second, .val (.long id_), .second, .val (.int iq), .val (.int (0 : Int32)), .val (.int (1 : Int32)), .val (.ref b35), .unset, .unset, .unset, .unset, .unset, .unset, .unset, .unset, .unset, .unset] [(.ref b35)])) rfl (by rw [hml]; rfl) (Steps.refl _) (argsL := []) (rest := []) (lenOf pd_4 rfl) rfl (by show 2 * 0 + _ ≤ _; exact Nat.le_of_eq rfl) (hb hby at_55) (fun _ _ => ⟨rfl, rfl, (by decide : 1 + 0 ≤ _), (by decide : 2 + 0 ≤ _)⟩)
      dsimp only [Pt.U, Pt.locs, Pt.cells, Pt.slots] at X45 l45 y45 z45 st45 hQ45
      subst l45 y45 z45
      obtain ⟨rfl, N45q, e45⟩ := hQ45
      have N45 := Fr.app N42 N45q
      refine Go.tr st45 ?_
      show Go p e below _ (T45.setTop (mkF m 58 #[.val (.long if_), .second, .val (.long id_), .second, .val (.int iq), .val (.int (0 : Int32)), .val (.int (1 : Int32)), .val (.ref b35), .unset, .unset, .unset, .unset, .unset, .unset, .unset, .unset, .unset, .unset] [(.int (0 : Int32))]))
      refine Go.by (fun t k => XS.istore X45.here hx rfl (hb hby at_58) rfl (l' := #[.val (.long if_), .second, .val (.long id_), .second, .val (.int iq), .val (.int (0 : Int32)), .val (.int (1 : Int32)), .val (.ref b35), .val (.int (0 : Int32)), .unset, .unset, .unset, .unset, .unset, .unset, .unset, .unset, .unset]) rfl k) ?_
      show Go p e below _ (T45.setTop (mkF m 60 #[.val (.long if_), .second, .val (.long id_), .second, .val (.int iq), .val (.int (0 : Int32)), .val (.int (1 : Int32)), .val (.ref b35), .val (.int (0 : Int32)), .unset, .unset, .unset, .unset, .unset, .unset, .unset, .unset, .unset] []))
      refine Go.by (fun t k => XS.aload X45.here hx rfl (hb hby at_60) rfl rfl k) ?_
      show Go p e below _ (T45.setTop (mkF m 62 #[.val (.long if_), .second, .val (.long id_), .second, .val (.int iq), .val (.int (0 : Int32)), .val (.int (1 : Int32)), .val (.ref b35), .val (.int (0 : Int32)), .unset, .unset, .unset, .unset, .unset, .unset, .unset, .unset, .unset] [(.ref b35)]))
      obtain ⟨cq48, kq48, q48a, q48b, q48c⟩ := isOf hZ e45 F42_0
      obtain ⟨_, _, ⟨T48, L48, k48, n48⟩, -, X48, ⟨Lc48, hQ48, l48, y48, z48⟩, st48⟩ := X45.virtualBack hx (y := (⟨"com/example/queue_manager_rpc/queuemanagerrpc/Cursor", "current", "()Lcom/example/queue_manager_rpc/queuemanagerrpc/Position;"⟩ : MethodName)) (z := (⟨"com/example/queue_manager_rpc/queuemanagerrpc/Cursor", "current", "()Lcom/example/queue_manager_rpc/queuemanagerrpc/Position;"⟩ : MethodName)) hown (mvT hZ (hw _ (List.mem_of_getElem? (i := 23) rfl))) (mvT hZ (hw _ (List.mem_of_getElem? (i := 24) rfl))) (notFace_of_selects (args := #[]) (mvT hZ (hw _ (List.mem_of_getElem? (i := 26) rfl)))) (mvT hZ (hw _ (List.mem_of_getElem? (i := 26) rfl))) (mvT hZ (hw _ (List.mem_of_getElem? (i := 25) rfl))) (by decide) (backOf (W := 0) (cur0 l Z a0 hw [] b35 id_ kaf T42.heap n0 F46 P1 F42_2 F42_1) hZ (hw _ (List.mem_of_getElem? (i := 27) rfl)) (hw _ (List.mem_of_getElem? (i := 2) rfl)) (by decide) (by decide)) q48a q48c (g := (mkF m 62 #[.val (.long if_), .second, .val (.long id_), .second, .val (.int iq), .val (.int (0 : Int32)), .val (.int (1 : Int32)), .val (.ref b35), .val (.int (0 : Int32)), .unset, .unset, .unset, .unset, .unset, .unset, .unset, .unset, .unset] [(.ref b35)])) rfl (by rw [hml]; rfl) (Steps.refl _) (argsL := []) (rest := []) (lenOf pd_5 rfl) rfl (by show 2 * 0 + _ ≤ _; exact Nat.le_of_eq rfl) (hb hby at_62) (fun _ _ => ⟨rfl, e45, (by decide : 1 + 1 ≤ _), (by decide : 2 + 2 ≤ _)⟩)
      dsimp only [Pt.U, Pt.locs, Pt.cells, Pt.slots] at X48 l48 y48 z48 st48 hQ48
      subst l48 y48 z48
      obtain ⟨ob_48, rfl, N48q, K48, fz48_ob, F48_0, F48_1, F48_2⟩ := hQ48
      have N48 := Fr.app N45 N48q
      have ge_ob_48 : n0 ≤ ob_48 := Nat.le_trans (own_old_size F46) fz48_ob
      have sz_ob_48 : h0.size ≤ ob_48 := Nat.le_trans F47.1 fz48_ob
      have ne49 : b35 ≠ ob_48 := Nat.ne_of_lt (Nat.lt_of_lt_of_le F42_0.lt fz48_ob)
      refine Go.tr st48 ?_
      show Go p e below _ (T48.setTop (mkF m 65 #[.val (.long if_), .second, .val (.long id_), .second, .val (.int iq), .val (.int (0 : Int32)), .val (.int (1 : Int32)), .val (.ref b35), .val (.int (0 : Int32)), .unset, .unset, .unset, .unset, .unset, .unset, .unset, .unset, .unset] [(.ref ob_48)]))
      refine Go.by (fun t k => XS.astore X48.here hx rfl (hb hby at_65) rfl rfl (l' := #[.val (.long if_), .second, .val (.long id_), .second, .val (.int iq), .val (.int (0 : Int32)), .val (.int (1 : Int32)), .val (.ref b35), .val (.int (0 : Int32)), .val (.ref ob_48), .unset, .unset, .unset, .unset, .unset, .unset, .unset, .unset]) rfl k) ?_
      show Go p e below _ (T48.setTop (mkF m 67 #[.val (.long if_), .second, .val (.long id_), .second, .val (.int iq), .val (.int (0 : Int32)), .val (.int (1 : Int32)), .val (.ref b35), .val (.int (0 : Int32)), .val (.ref ob_48), .unset, .unset, .unset, .unset, .unset, .unset, .unset, .unset] []))
      refine Go.by (fun t k => XS.aload X48.here hx rfl (hb hby at_67) rfl rfl k) ?_
      show Go p e below _ (T48.setTop (mkF m 69 #[.val (.long if_), .second, .val (.long id_), .second, .val (.int iq), .val (.int (0 : Int32)), .val (.int (1 : Int32)), .val (.ref b35), .val (.int (0 : Int32)), .val (.ref ob_48), .unset, .unset, .unset, .unset, .unset, .unset, .unset, .unset] [(.ref ob_48)]))
      have F51 : Old Z n0 T48.heap := (F46.keep K48 all0)
      have F52 : Keep h0 T48.heap [] := (F47.trans K48 all0)
      obtain ⟨cq50, kq50, q50a, q50b, q50c⟩ := isOf hZ rfl F48_0
      obtain ⟨_, _, ⟨T50, L50, k50, n50⟩, -, X50, ⟨Lc50, hQ50, l50, y50, z50⟩, st50⟩ := X48.virtualBack hx (y := (⟨"com/example/queue_manager_rpc/queuemanagerrpc/Position", "kind", "()Lcom/example/queue_manager_rpc/queuemanagerrpc/Position$Kind;"⟩ : MethodName)) (z := (⟨"com/example/queue_manager_rpc/queuemanagerrpc/Position", "kind", "()Lcom/example/queue_manager_rpc/queuemanagerrpc/Position$Kind;"⟩ : MethodName)) hown (mvT hZ (hw _ (List.mem_of_getElem? (i := 45) rfl))) (mvT hZ (hw _ (List.mem_of_getElem? (i := 46) rfl))) (notFace_of_selects (args := #[]) (mvT hZ (hw _ (List.mem_of_getElem? (i := 48) rfl)))) (mvT hZ (hw _ (List.mem_of_getElem? (i := 48) rfl))) (mvT hZ (hw _ (List.mem_of_getElem? (i := 47) rfl))) (by decide) (backOf (W := 0) (kind l Z a0 hw [] ob_48 kaf T48.heap n0 F51 F48_1) hZ (hw _ (List.mem_of_getElem? (i := 49) rfl)) (hw _ (List.mem_of_getElem? (i := 30) rfl)) (by decide) (by decide)) q50a q50c (g := (mkF m 69 #[.val (.long if_), .second, .val (.long id_), .second, .val (.int iq), .val (.int (0 : Int32)), .val (.int (1 : Int32)), .val (.ref b35), .val (.int (0 : Int32)), .val (.ref ob_48), .unset, .unset, .unset, .unset, .unset, .unset, .unset, .unset] [(.ref ob_48)])) rfl (by rw [hml]; rfl) (Steps.refl _) (argsL := []) (rest := []) (lenOf pd_6 rfl) rfl (by show 2 * 0 + _ ≤ _; exact Nat.le_of_eq rfl) (hb hby at_69) (fun _ _ => ⟨rfl, rfl, (by decide : 2 + 0 ≤ _), (by decide : 4 + 0 ≤ _)⟩)
      dsimp only [Pt.U, Pt.locs, Pt.cells, Pt.slots] at X50 l50 y50 z50 st50 hQ50
      subst l50 y50 z50
      obtain ⟨rfl, N50q, e50⟩ := hQ50
      have N50 := Fr.app N48 N50q
      refine Go.tr st50 ?_
      show Go p e below _ (T50.setTop (mkF m 72 #[.val (.long if_), .second, .val (.long id_), .second, .val (.int iq), .val (.int (0 : Int32)), .val (.int (1 : Int32)), .val (.ref b35), .val (.int (0 : Int32)), .val (.ref ob_48), .unset, .unset, .unset, .unset, .unset, .unset, .unset, .unset] [(.ref kaf)]))
      refine Go.by (fun t k => XS.astore X50.here hx rfl (hb hby at_72) rfl rfl (l' := #[.val (.long if_), .second, .val (.long id_), .second, .val (.int iq), .val (.int (0 : Int32)), .val (.int (1 : Int32)), .val (.ref b35), .val (.int (0 : Int32)), .val (.ref ob_48), .val (.ref kaf), .unset, .unset, .unset, .unset, .unset, .unset, .unset]) rfl k) ?_
      show Go p e below _ (T50.setTop (mkF m 74 #[.val (.long if_), .second, .val (.long id_), .second, .val (.int iq), .val (.int (0 : Int32)), .val (.int (1 : Int32)), .val (.ref b35), .val (.int (0 : Int32)), .val (.ref ob_48), .val (.ref kaf), .unset, .unset, .unset, .unset, .unset, .unset, .unset] []))
      refine Go.by (fun t k => XS.aload X50.here hx rfl (hb hby at_74) rfl rfl k) ?_
      show Go p e below _ (T50.setTop (mkF m 76 #[.val (.long if_), .second, .val (.long id_), .second, .val (.int iq), .val (.int (0 : Int32)), .val (.int (1 : Int32)), .val (.ref b35), .val (.int (0 : Int32)), .val (.ref ob_48), .val (.ref kaf), .unset, .unset, .unset, .unset, .unset, .unset, .unset] [(.ref ob_48)]))
      obtain ⟨cq53, kq53, q53a, q53b, q53c⟩ := isOf hZ e50 F48_0
      obtain ⟨_, _, ⟨T53, L53, k53, n53⟩, -, X53, ⟨Lc53, hQ53, l53, y53, z53⟩, st53⟩ := X50.virtualBack hx (y := (⟨"com/example/queue_manager_rpc/queuemanagerrpc/Position", "lookupId", "()J"⟩ : MethodName)) (z := (⟨"com/example/queue_manager_rpc/queuemanagerrpc/Position", "lookupId", "()J"⟩ : MethodName)) hown (mvT hZ (hw _ (List.mem_of_getElem? (i := 50) rfl))) (mvT hZ (hw _ (List.mem_of_getElem? (i := 51) rfl))) (notFace_of_selects (args := #[]) (mvT hZ (hw _ (List.mem_of_getElem? (i := 53) rfl)))) (mvT hZ (hw _ (List.mem_of_getElem? (i := 53) rfl))) (mvT hZ (hw _ (List.mem_of_getElem? (i := 52) rfl))) (by decide) (backOf (W := 0) (lookupId l Z a0 hw [] ob_48 id_ T48.heap n0 F51 F48_2) hZ (hw _ (List.mem_of_getElem? (i := 54) rfl)) (hw _ (List.mem_of_getElem? (i := 30) rfl)) (by decide) (by decide)) q53a q53c (g := (mkF m 76 #[.val (.long if_), .second, .val (.long id_), .second, .val (.int iq), .val (.int (0 : Int32)), .val (.int (1 : Int32)), .val (.ref b35), .val (.int (0 : Int32)), .val (.ref ob_48), .val (.ref kaf), .unset, .unset, .unset, .unset, .unset, .unset, .unset] [(.ref ob_48)])) rfl (by rw [hml]; rfl) (Steps.refl _) (argsL := []) (rest := []) (lenOf pd_7 rfl) rfl (by show 2 * 0 + _ ≤ _; exact Nat.le_of_eq rfl) (hb hby at_76) (fun _ _ => ⟨rfl, e50, (by decide : 2 + 0 ≤ _), (by decide : 4 + 0 ≤ _)⟩)
      dsimp only [Pt.U, Pt.locs, Pt.cells, Pt.slots] at X53 l53 y53 z53 st53 hQ53
      subst l53 y53 z53
      obtain ⟨rfl, N53q, e53⟩ := hQ53
      have N53 := Fr.app N50 N53q
      refine Go.tr st53 ?_
      show Go p e below _ (T53.setTop (mkF m 79 #[.val (.long if_), .second, .val (.long id_), .second, .val (.int iq), .val (.int (0 : Int32)), .val (.int (1 : Int32)), .val (.ref b35), .val (.int (0 : Int32)), .val (.ref ob_48), .val (.ref kaf), .unset, .unset, .unset, .unset, .unset, .unset, .unset] [(.long id_)]))
      refine Go.by (fun t k => XS.lstore X53.here hx rfl (hb hby at_79) rfl (l' := #[.val (.long if_), .second, .val (.long id_), .second, .val (.int iq), .val (.int (0 : Int32)), .val (.int (1 : Int32)), .val (.ref b35), .val (.int (0 : Int32)), .val (.ref ob_48), .val (.ref kaf), .val (.long id_), .second, .unset, .unset, .unset, .unset, .unset]) rfl k) ?_
      show Go p e below _ (T53.setTop (mkF m 81 #[.val (.long if_), .second, .val (.long id_), .second, .val (.int iq), .val (.int (0 : Int32)), .val (.int (1 : Int32)), .val (.ref b35), .val (.int (0 : Int32)), .val (.ref ob_48), .val (.ref kaf), .val (.long id_), .second, .unset, .unset, .unset, .unset, .unset] []))
      refine Go.by (fun t k => XS.aload X53.here hx rfl (hb hby at_81) rfl rfl k) ?_
      show Go p e below _ (T53.setTop (mkF m 83 #[.val (.long if_), .second, .val (.long id_), .second, .val (.int iq), .val (.int (0 : Int32)), .val (.int (1 : Int32)), .val (.ref b35), .val (.int (0 : Int32)), .val (.ref ob_48), .val (.ref kaf), .val (.long id_), .second, .unset, .unset, .unset, .unset, .unset] [(.ref b35)]))
      have F55 : Fld Z T48.heap b35 "com/example/queue_manager_rpc/queuemanagerrpc/Cursor" "lookupId" "J" (.long id_) := (F42_1.keep K48 nin0)
      have F56 : Exa Z T48.heap b35 "com/example/queue_manager_rpc/queuemanagerrpc/Cursor" := (F42_0.keep K48)
      obtain ⟨cq54, kq54, q54a, q54b, q54c⟩ := isOf hZ e53 F56
      obtain ⟨_, _, ⟨T54, L54, k54, n54⟩, -, X54, ⟨Lc54, hQ54, l54, y54, z54⟩, st54⟩ := X53.virtualBack hx (y := (⟨"com/example/queue_manager_rpc/queuemanagerrpc/Cursor", "next", "()Lcom/example/queue_manager_rpc/queuemanagerrpc/Position;"⟩ : MethodName)) (z := (⟨"com/example/queue_manager_rpc/queuemanagerrpc/Cursor", "next", "()Lcom/example/queue_manager_rpc/queuemanagerrpc/Position;"⟩ : MethodName)) hown (mvT hZ (hw _ (List.mem_of_getElem? (i := 55) rfl))) (mvT hZ (hw _ (List.mem_of_getElem? (i := 56) rfl))) (notFace_of_selects (args := #[]) (mvT hZ (hw _ (List.mem_of_getElem? (i := 58) rfl)))) (mvT hZ (hw _ (List.mem_of_getElem? (i := 58) rfl))) (mvT hZ (hw _ (List.mem_of_getElem? (i := 57) rfl))) (by decide) (backOf (W := 0) (next l Z a0 hw [] b35 id_ kaf T48.heap n0 F51 P1 F55) hZ (hw _ (List.mem_of_getElem? (i := 59) rfl)) (hw _ (List.mem_of_getElem? (i := 2) rfl)) (by decide) (by decide)) q54a q54c (g := (mkF m 83 #[.val (.long if_), .second, .val (.long id_), .second, .val (.int iq), .val (.int (0 : Int32)), .val (.int (1 : Int32)), .val (.ref b35), .val (.int (0 : Int32)), .val (.ref ob_48), .val (.ref kaf), .val (.long id_), .second, .unset, .unset, .unset, .unset, .unset] [(.ref b35)])) rfl (by rw [hml]; rfl) (Steps.refl _) (argsL := []) (rest := []) (lenOf pd_5 rfl) rfl (by show 2 * 0 + _ ≤ _; exact Nat.le_of_eq rfl) (hb hby at_83) (fun _ _ => ⟨rfl, e53, (by decide : 2 + 1 ≤ _), (by decide : 4 + 2 ≤ _)⟩)
      dsimp only [Pt.U, Pt.locs, Pt.cells, Pt.slots] at X54 l54 y54 z54 st54 hQ54
      subst l54 y54 z54
      obtain ⟨ob_54, rfl, N54q, K54, fz54_ob, F54_0, F54_1, F54_2⟩ := hQ54
      have N54 := Fr.app N53 N54q
      have ge_ob_54 : n0 ≤ ob_54 := Nat.le_trans (own_old_size F51) fz54_ob
      have sz_ob_54 : h0.size ≤ ob_54 := Nat.le_trans F52.1 fz54_ob
      have ne57 : b35 ≠ ob_54 := Nat.ne_of_lt (Nat.lt_of_lt_of_le F56.lt fz54_ob)
      have ne58 : ob_48 ≠ ob_54 := Nat.ne_of_lt (Nat.lt_of_lt_of_le F48_0.lt fz54_ob)
      refine Go.tr st54 ?_
      show Go p e below _ (T54.setTop (mkF m 86 #[.val (.long if_), .second, .val (.long id_), .second, .val (.int iq), .val (.int (0 : Int32)), .val (.int (1 : Int32)), .val (.ref b35), .val (.int (0 : Int32)), .val (.ref ob_48), .val (.ref kaf), .val (.long id_), .second, .unset, .unset, .unset, .unset, .unset] [(.ref ob_54)]))
      refine Go.by (fun t k => XS.astore X54.here hx rfl (hb hby at_86) rfl rfl (l' := #[.val (.long if_), .second, .val (.long id_), .second, .val (.int iq), .val (.int (0 : Int32)), .val (.int (1 : Int32)), .val (.ref b35), .val (.int (0 : Int32)), .val (.ref ob_48), .val (.ref kaf), .val (.long id_), .second, .val (.ref ob_54), .unset, .unset, .unset, .unset]) rfl k) ?_
      show Go p e below _ (T54.setTop (mkF m 88 #[.val (.long if_), .second, .val (.long id_), .second, .val (.int iq), .val (.int (0 : Int32)), .val (.int (1 : Int32)), .val (.ref b35), .val (.int (0 : Int32)), .val (.ref ob_48), .val (.ref kaf), .val (.long id_), .second, .val (.ref ob_54), .unset, .unset, .unset, .unset] []))
      refine Go.by (fun t k => XS.aload X54.here hx rfl (hb hby at_88) rfl rfl k) ?_
      show Go p e below _ (T54.setTop (mkF m 90 #[.val (.long if_), .second, .val (.long id_), .second, .val (.int iq), .val (.int (0 : Int32)), .val (.int (1 : Int32)), .val (.ref b35), .val (.int (0 : Int32)), .val (.ref ob_48), .val (.ref kaf), .val (.long id_), .second, .val (.ref ob_54), .unset, .unset, .unset, .unset] [(.ref ob_54)]))
      have F60 : Old Z n0 T54.heap := (F51.keep K54 all0)
      have F61 : Keep h0 T54.heap [] := (F52.trans K54 all0)
      obtain ⟨cq59, kq59, q59a, q59b, q59c⟩ := isOf hZ rfl F54_0
      obtain ⟨_, _, ⟨T59, L59, k59, n59⟩, -, X59, ⟨Lc59, hQ59, l59, y59, z59⟩, st59⟩ := X54.virtualBack hx (y := (⟨"com/example/queue_manager_rpc/queuemanagerrpc/Position", "kind", "()Lcom/example/queue_manager_rpc/queuemanagerrpc/Position$Kind;"⟩ : MethodName)) (z := (⟨"com/example/queue_manager_rpc/queuemanagerrpc/Position", "kind", "()Lcom/example/queue_manager_rpc/queuemanagerrpc/Position$Kind;"⟩ : MethodName)) hown (mvT hZ (hw _ (List.mem_of_getElem? (i := 45) rfl))) (mvT hZ (hw _ (List.mem_of_getElem? (i := 46) rfl))) (notFace_of_selects (args := #[]) (mvT hZ (hw _ (List.mem_of_getElem? (i := 48) rfl)))) (mvT hZ (hw _ (List.mem_of_getElem? (i := 48) rfl))) (mvT hZ (hw _ (List.mem_of_getElem? (i := 47) rfl))) (by decide) (backOf (W := 0) (kind l Z a0 hw [] ob_54 kaf T54.heap n0 F60 F54_1) hZ (hw _ (List.mem_of_getElem? (i := 49) rfl)) (hw _ (List.mem_of_getElem? (i := 30) rfl)) (by decide) (by decide)) q59a q59c (g := (mkF m 90 #[.val (.long if_), .second, .val (.long id_), .second, .val (.int iq), .val (.int (0 : Int32)), .val (.int (1 : Int32)), .val (.ref b35), .val (.int (0 : Int32)), .val (.ref ob_48), .val (.ref kaf), .val (.long id_), .second, .val (.ref ob_54), .unset, .unset, .unset, .unset] [(.ref ob_54)])) rfl (by rw [hml]; rfl) (Steps.refl _) (argsL := []) (rest := []) (lenOf pd_6 rfl) rfl (by show 2 * 0 + _ ≤ _; exact Nat.le_of_eq rfl) (hb hby at_90) (fun _ _ => ⟨rfl, rfl, (by decide : 3 + 0 ≤ _), (by decide : 6 + 0 ≤ _)⟩)
      dsimp only [Pt.U, Pt.locs, Pt.cells, Pt.slots] at X59 l59 y59 z59 st59 hQ59
      subst l59 y59 z59
      obtain ⟨rfl, N59q, e59⟩ := hQ59
      have N59 := Fr.app N54 N59q
      refine Go.tr st59 ?_
      show Go p e below _ (T59.setTop (mkF m 93 #[.val (.long if_), .second, .val (.long id_), .second, .val (.int iq), .val (.int (0 : Int32)), .val (.int (1 : Int32)), .val (.ref b35), .val (.int (0 : Int32)), .val (.ref ob_48), .val (.ref kaf), .val (.long id_), .second, .val (.ref ob_54), .unset, .unset, .unset, .unset] [(.ref kaf)]))
      refine Go.by (fun t k => XS.astore X59.here hx rfl (hb hby at_93) rfl rfl (l' := #[.val (.long if_), .second, .val (.long id_), .second, .val (.int iq), .val (.int (0 : Int32)), .val (.int (1 : Int32)), .val (.ref b35), .val (.int (0 : Int32)), .val (.ref ob_48), .val (.ref kaf), .val (.long id_), .second, .val (.ref ob_54), .val (.ref kaf), .unset, .unset, .unset]) rfl k) ?_
      show Go p e below _ (T59.setTop (mkF m 95 #[.val (.long if_), .second, .val (.long id_), .second, .val (.int iq), .val (.int (0 : Int32)), .val (.int (1 : Int32)), .val (.ref b35), .val (.int (0 : Int32)), .val (.ref ob_48), .val (.ref kaf), .val (.long id_), .second, .val (.ref ob_54), .val (.ref kaf), .unset, .unset, .unset] []))
      refine Go.by (fun t k => XS.aload X59.here hx rfl (hb hby at_95) rfl rfl k) ?_
      show Go p e below _ (T59.setTop (mkF m 97 #[.val (.long if_), .second, .val (.long id_), .second, .val (.int iq), .val (.int (0 : Int32)), .val (.int (1 : Int32)), .val (.ref b35), .val (.int (0 : Int32)), .val (.ref ob_48), .val (.ref kaf), .val (.long id_), .second, .val (.ref ob_54), .val (.ref kaf), .unset, .unset, .unset] [(.ref ob_54)]))
      obtain ⟨cq62, kq62, q62a, q62b, q62c⟩ := isOf hZ e59 F54_0
      obtain ⟨_, _, ⟨T62, L62, k62, n62⟩, -, X62, ⟨Lc62, hQ62, l62, y62, z62⟩, st62⟩ := X59.virtualBack hx (y := (⟨"com/example/queue_manager_rpc/queuemanagerrpc/Position", "lookupId", "()J"⟩ : MethodName)) (z := (⟨"com/example/queue_manager_rpc/queuemanagerrpc/Position", "lookupId", "()J"⟩ : MethodName)) hown (mvT hZ (hw _ (List.mem_of_getElem? (i := 50) rfl))) (mvT hZ (hw _ (List.mem_of_getElem? (i := 51) rfl))) (notFace_of_selects (args := #[]) (mvT hZ (hw _ (List.mem_of_getElem? (i := 53) rfl)))) (mvT hZ (hw _ (List.mem_of_getElem? (i := 53) rfl))) (mvT hZ (hw _ (List.mem_of_getElem? (i := 52) rfl))) (by decide) (backOf (W := 0) (lookupId l Z a0 hw [] ob_54 id_ T54.heap n0 F60 F54_2) hZ (hw _ (List.mem_of_getElem? (i := 54) rfl)) (hw _ (List.mem_of_getElem? (i := 30) rfl)) (by decide) (by decide)) q62a q62c (g := (mkF m 97 #[.val (.long if_), .second, .val (.long id_), .second, .val (.int iq), .val (.int (0 : Int32)), .val (.int (1 : Int32)), .val (.ref b35), .val (.int (0 : Int32)), .val (.ref ob_48), .val (.ref kaf), .val (.long id_), .second, .val (.ref ob_54), .val (.ref kaf), .unset, .unset, .unset] [(.ref ob_54)])) rfl (by rw [hml]; rfl) (Steps.refl _) (argsL := []) (rest := []) (lenOf pd_7 rfl) rfl (by show 2 * 0 + _ ≤ _; exact Nat.le_of_eq rfl) (hb hby at_97) (fun _ _ => ⟨rfl, e59, (by decide : 3 + 0 ≤ _), (by decide : 6 + 0 ≤ _)⟩)
      dsimp only [Pt.U, Pt.locs, Pt.cells, Pt.slots] at X62 l62 y62 z62 st62 hQ62
      subst l62 y62 z62
      obtain ⟨rfl, N62q, e62⟩ := hQ62
      have N62 := Fr.app N59 N62q
      refine Go.tr st62 ?_
      show Go p e below _ (T62.setTop (mkF m 100 #[.val (.long if_), .second, .val (.long id_), .second, .val (.int iq), .val (.int (0 : Int32)), .val (.int (1 : Int32)), .val (.ref b35), .val (.int (0 : Int32)), .val (.ref ob_48), .val (.ref kaf), .val (.long id_), .second, .val (.ref ob_54), .val (.ref kaf), .unset, .unset, .unset] [(.long id_)]))
      refine Go.by (fun t k => XS.lstore X62.here hx rfl (hb hby at_100) rfl (l' := #[.val (.long if_), .second, .val (.long id_), .second, .val (.int iq), .val (.int (0 : Int32)), .val (.int (1 : Int32)), .val (.ref b35), .val (.int (0 : Int32)), .val (.ref ob_48), .val (.ref kaf), .val (.long id_), .second, .val (.ref ob_54), .val (.ref kaf), .val (.long id_), .second, .unset]) rfl k) ?_
      show Go p e below _ (T62.setTop (mkF m 102 #[.val (.long if_), .second, .val (.long id_), .second, .val (.int iq), .val (.int (0 : Int32)), .val (.int (1 : Int32)), .val (.ref b35), .val (.int (0 : Int32)), .val (.ref ob_48), .val (.ref kaf), .val (.long id_), .second, .val (.ref ob_54), .val (.ref kaf), .val (.long id_), .second, .unset] []))
      refine Go.by (fun t k => XS.iload X62.here hx rfl (hb hby at_102) rfl k) ?_
      show Go p e below _ (T62.setTop (mkF m 104 #[.val (.long if_), .second, .val (.long id_), .second, .val (.int iq), .val (.int (0 : Int32)), .val (.int (1 : Int32)), .val (.ref b35), .val (.int (0 : Int32)), .val (.ref ob_48), .val (.ref kaf), .val (.long id_), .second, .val (.ref ob_54), .val (.ref kaf), .val (.long id_), .second, .unset] [(.int (1 : Int32))]))
      refine Go.by (fun t k => XS.ifNo X62.here hx rfl (hb hby at_104) rfl ((if0 _ _).trans (feq (by decide : ¬ ((1 : Int32) = (0 : Int32)))).1) k) ?_
      show Go p e below _ (T62.setTop (mkF m 107 #[.val (.long if_), .second, .val (.long id_), .second, .val (.int iq), .val (.int (0 : Int32)), .val (.int (1 : Int32)), .val (.ref b35), .val (.int (0 : Int32)), .val (.ref ob_48), .val (.ref kaf), .val (.long id_), .second, .val (.ref ob_54), .val (.ref kaf), .val (.long id_), .second, .unset] []))
      have F63 : Sta Z T54.heap "com/example/queue_manager_rpc/queuemanagerrpc/Position$Kind" "AFTER" "Lcom/example/queue_manager_rpc/queuemanagerrpc/Position$Kind;" (.ref kaf) := P1.ext F60.2
      obtain ⟨T64, X64, e64, st64⟩ := getS2 X62 hx hZ hown (host := "") (Or.inl (hw _ (List.mem_of_getElem? (i := 66) rfl))) Via.refl e62 F63 (g := (mkF m 107 #[.val (.long if_), .second, .val (.long id_), .second, .val (.int iq), .val (.int (0 : Int32)), .val (.int (1 : Int32)), .val (.ref b35), .val (.int (0 : Int32)), .val (.ref ob_48), .val (.ref kaf), .val (.long id_), .second, .val (.ref ob_54), .val (.ref kaf), .val (.long id_), .second, .unset] [])) rfl (hb hby at_107)
      refine Go.by st64 ?_
      show Go p e below _ (T64.setTop (mkF m 110 #[.val (.long if_), .second, .val (.long id_), .second, .val (.int iq), .val (.int (0 : Int32)), .val (.int (1 : Int32)), .val (.ref b35), .val (.int (0 : Int32)), .val (.ref ob_48), .val (.ref kaf), .val (.long id_), .second, .val (.ref ob_54), .val (.ref kaf), .val (.long id_), .second, .unset] [(.ref kaf)]))
      refine Go.by (fun t k => XS.astore X64.here hx rfl (hb hby at_110) rfl rfl (l' := #[.val (.long if_), .second, .val (.long id_), .second, .val (.int iq), .val (.int (0 : Int32)), .val (.int (1 : Int32)), .val (.ref b35), .val (.int (0 : Int32)), .val (.ref ob_48), .val (.ref kaf), .val (.long id_), .second, .val (.ref ob_54), .val (.ref kaf), .val (.long id_), .second, .val (.ref kaf)]) rfl k) ?_
      show Go p e below _ (T64.setTop (mkF m 112 #[.val (.long if_), .second, .val (.long id_), .second, .val (.int iq), .val (.int (0 : Int32)), .val (.int (1 : Int32)), .val (.ref b35), .val (.int (0 : Int32)), .val (.ref ob_48), .val (.ref kaf), .val (.long id_), .second, .val (.ref ob_54), .val (.ref kaf), .val (.long id_), .second, .val (.ref kaf)] []))
      refine Go.by (fun t k => XS.goto X64.here hx rfl (pc0 := 112) (pc' := 120) rfl (hb hby at_112) (by decide) (by decide) k) ?_
      show Go p e below _ (T64.setTop (mkF m 120 #[.val (.long if_), .second, .val (.long id_), .second, .val (.int iq), .val (.int (0 : Int32)), .val (.int (1 : Int32)), .val (.ref b35), .val (.int (0 : Int32)), .val (.ref ob_48), .val (.ref kaf), .val (.long id_), .second, .val (.ref ob_54), .val (.ref kaf), .val (.long id_), .second, .val (.ref kaf)] []))
      refine Go.by (fun t k => XS.iload X64.here hx rfl (hb hby at_120) rfl k) ?_
      show Go p e below _ (T64.setTop (mkF m 122 #[.val (.long if_), .second, .val (.long id_), .second, .val (.int iq), .val (.int (0 : Int32)), .val (.int (1 : Int32)), .val (.ref b35), .val (.int (0 : Int32)), .val (.ref ob_48), .val (.ref kaf), .val (.long id_), .second, .val (.ref ob_54), .val (.ref kaf), .val (.long id_), .second, .val (.ref kaf)] [(.int (0 : Int32))]))
      refine Go.by (fun t k => XS.iload X64.here hx rfl (hb hby at_122) rfl k) ?_
      show Go p e below _ (T64.setTop (mkF m 124 #[.val (.long if_), .second, .val (.long id_), .second, .val (.int iq), .val (.int (0 : Int32)), .val (.int (1 : Int32)), .val (.ref b35), .val (.int (0 : Int32)), .val (.ref ob_48), .val (.ref kaf), .val (.long id_), .second, .val (.ref ob_54), .val (.ref kaf), .val (.long id_), .second, .val (.ref kaf)] [(.int (1 : Int32)), (.int (0 : Int32))]))
      refine Go.by (fun t k => XS.ifYes X64.here hx rfl (pc0 := 124) (pc' := 131) rfl (hb hby at_124) rfl ((if0 _ _).trans (feq (by decide : ¬ ((1 : Int32) = (0 : Int32)))).2) (by decide) (by decide) k) ?_
      show Go p e below _ (T64.setTop (mkF m 131 #[.val (.long if_), .second, .val (.long id_), .second, .val (.int iq), .val (.int (0 : Int32)), .val (.int (1 : Int32)), .val (.ref b35), .val (.int (0 : Int32)), .val (.ref ob_48), .val (.ref kaf), .val (.long id_), .second, .val (.ref ob_54), .val (.ref kaf), .val (.long id_), .second, .val (.ref kaf)] [(.int (0 : Int32))]))
      refine Go.by (fun t k => XS.iconst X64.here hx rfl (hb hby at_131) k) ?_
      show Go p e below _ (T64.setTop (mkF m 132 #[.val (.long if_), .second, .val (.long id_), .second, .val (.int iq), .val (.int (0 : Int32)), .val (.int (1 : Int32)), .val (.ref b35), .val (.int (0 : Int32)), .val (.ref ob_48), .val (.ref kaf), .val (.long id_), .second, .val (.ref ob_54), .val (.ref kaf), .val (.long id_), .second, .val (.ref kaf)] [(.int (0 : Int32)), (.int (0 : Int32))]))
      refine Go.by (fun t k => XS.icmpNo X64.here hx rfl (hb hby at_132) rfl (teq rfl).2 k) ?_
      show Go p e below _ (T64.setTop (mkF m 135 #[.val (.long if_), .second, .val (.long id_), .second, .val (.int iq), .val (.int (0 : Int32)), .val (.int (1 : Int32)), .val (.ref b35), .val (.int (0 : Int32)), .val (.ref ob_48), .val (.ref kaf), .val (.long id_), .second, .val (.ref ob_54), .val (.ref kaf), .val (.long id_), .second, .val (.ref kaf)] []))
      refine Go.by (fun t k => XS.aload X64.here hx rfl (hb hby at_135) rfl rfl k) ?_
      show Go p e below _ (T64.setTop (mkF m 137 #[.val (.long if_), .second, .val (.long id_), .second, .val (.int iq), .val (.int (0 : Int32)), .val (.int (1 : Int32)), .val (.ref b35), .val (.int (0 : Int32)), .val (.ref ob_48), .val (.ref kaf), .val (.long id_), .second, .val (.ref ob_54), .val (.ref kaf), .val (.long id_), .second, .val (.ref kaf)] [(.ref kaf)]))
      refine Go.by (fun t k => XS.aload X64.here hx rfl (hb hby at_137) rfl rfl k) ?_
      show Go p e below _ (T64.setTop (mkF m 139 #[.val (.long if_), .second, .val (.long id_), .second, .val (.int iq), .val (.int (0 : Int32)), .val (.int (1 : Int32)), .val (.ref b35), .val (.int (0 : Int32)), .val (.ref ob_48), .val (.ref kaf), .val (.long id_), .second, .val (.ref ob_54), .val (.ref kaf), .val (.long id_), .second, .val (.ref kaf)] [(.ref kaf), (.ref kaf)]))
      refine Go.by (fun t k => Jvm.RoadKit.acmp (g := (mkF m 139 #[.val (.long if_), .second, .val (.long id_), .second, .val (.int iq), .val (.int (0 : Int32)), .val (.int (1 : Int32)), .val (.ref b35), .val (.int (0 : Int32)), .val (.ref ob_48), .val (.ref kaf), .val (.long id_), .second, .val (.ref ob_54), .val (.ref kaf), .val (.long id_), .second, .val (.ref kaf)] [(.ref kaf), (.ref kaf)])) X64 hx rfl rfl rfl (pc0 := 139) (pc' := 142) (same := true) rfl (hb hby at_139) rfl (decide_eq_true rfl) (by decide) (by decide) k) ?_
      show Go p e below _ (T64.setTop (mkF m 142 #[.val (.long if_), .second, .val (.long id_), .second, .val (.int iq), .val (.int (0 : Int32)), .val (.int (1 : Int32)), .val (.ref b35), .val (.int (0 : Int32)), .val (.ref ob_48), .val (.ref kaf), .val (.long id_), .second, .val (.ref ob_54), .val (.ref kaf), .val (.long id_), .second, .val (.ref kaf)] []))
      refine Go.by (fun t k => XS.lload X64.here hx rfl (hb hby at_142) rfl k) ?_
      show Go p e below _ (T64.setTop (mkF m 144 #[.val (.long if_), .second, .val (.long id_), .second, .val (.int iq), .val (.int (0 : Int32)), .val (.int (1 : Int32)), .val (.ref b35), .val (.int (0 : Int32)), .val (.ref ob_48), .val (.ref kaf), .val (.long id_), .second, .val (.ref ob_54), .val (.ref kaf), .val (.long id_), .second, .val (.ref kaf)] [(.long id_)]))
      refine Go.by (fun t k => XS.lloadN X64.here hx rfl (hb hby at_144) rfl k) ?_
      show Go p e below _ (T64.setTop (mkF m 145 #[.val (.long if_), .second, .val (.long id_), .second, .val (.int iq), .val (.int (0 : Int32)), .val (.int (1 : Int32)), .val (.ref b35), .val (.int (0 : Int32)), .val (.ref ob_48), .val (.ref kaf), .val (.long id_), .second, .val (.ref ob_54), .val (.ref kaf), .val (.long id_), .second, .val (.ref kaf)] [(.long id_), (.long id_)]))
      refine Go.by (fun t k => XS.lcmp X64.here hx rfl (hb hby at_145) rfl k) ?_
      show Go p e below _ (T64.setTop (mkF m 146 #[.val (.long if_), .second, .val (.long id_), .second, .val (.int iq), .val (.int (0 : Int32)), .val (.int (1 : Int32)), .val (.ref b35), .val (.int (0 : Int32)), .val (.ref ob_48), .val (.ref kaf), .val (.long id_), .second, .val (.ref ob_54), .val (.ref kaf), .val (.long id_), .second, .val (.ref kaf)] [(.int (lcmpW id_ id_))]))
      refine Go.by (fun t k => XS.ifNo X64.here hx rfl (hb hby at_146) rfl ((if0 _ _).trans (teq ((lw_eq id_ id_).mpr rfl)).2) k) ?_
      show Go p e below _ (T64.setTop (mkF m 149 #[.val (.long if_), .second, .val (.long id_), .second, .val (.int iq), .val (.int (0 : Int32)), .val (.int (1 : Int32)), .val (.ref b35), .val (.int (0 : Int32)), .val (.ref ob_48), .val (.ref kaf), .val (.long id_), .second, .val (.ref ob_54), .val (.ref kaf), .val (.long id_), .second, .val (.ref kaf)] []))
      refine Go.by (fun t k => XS.aload X64.here hx rfl (hb hby at_149) rfl rfl k) ?_
      show Go p e below _ (T64.setTop (mkF m 151 #[.val (.long if_), .second, .val (.long id_), .second, .val (.int iq), .val (.int (0 : Int32)), .val (.int (1 : Int32)), .val (.ref b35), .val (.int (0 : Int32)), .val (.ref ob_48), .val (.ref kaf), .val (.long id_), .second, .val (.ref ob_54), .val (.ref kaf), .val (.long id_), .second, .val (.ref kaf)] [(.ref kaf)]))
      obtain ⟨T65, X65, e65, st65⟩ := getS2 X64 hx hZ hown (host := "") (Or.inl (hw _ (List.mem_of_getElem? (i := 66) rfl))) Via.refl e64 F63 (g := (mkF m 151 #[.val (.long if_), .second, .val (.long id_), .second, .val (.int iq), .val (.int (0 : Int32)), .val (.int (1 : Int32)), .val (.ref b35), .val (.int (0 : Int32)), .val (.ref ob_48), .val (.ref kaf), .val (.long id_), .second, .val (.ref ob_54), .val (.ref kaf), .val (.long id_), .second, .val (.ref kaf)] [(.ref kaf)])) rfl (hb hby at_151)
      refine Go.by st65 ?_
      show Go p e below _ (T65.setTop (mkF m 154 #[.val (.long if_), .second, .val (.long id_), .second, .val (.int iq), .val (.int (0 : Int32)), .val (.int (1 : Int32)), .val (.ref b35), .val (.int (0 : Int32)), .val (.ref ob_48), .val (.ref kaf), .val (.long id_), .second, .val (.ref ob_54), .val (.ref kaf), .val (.long id_), .second, .val (.ref kaf)] [(.ref kaf), (.ref kaf)]))
      refine Go.by (fun t k => Jvm.RoadKit.acmp (g := (mkF m 154 #[.val (.long if_), .second, .val (.long id_), .second, .val (.int iq), .val (.int (0 : Int32)), .val (.int (1 : Int32)), .val (.ref b35), .val (.int (0 : Int32)), .val (.ref ob_48), .val (.ref kaf), .val (.long id_), .second, .val (.ref ob_54), .val (.ref kaf), .val (.long id_), .second, .val (.ref kaf)] [(.ref kaf), (.ref kaf)])) X65 hx rfl rfl rfl (pc0 := 154) (pc' := 157) (same := true) rfl (hb hby at_154) rfl (decide_eq_true rfl) (by decide) (by decide) k) ?_
      show Go p e below _ (T65.setTop (mkF m 157 #[.val (.long if_), .second, .val (.long id_), .second, .val (.int iq), .val (.int (0 : Int32)), .val (.int (1 : Int32)), .val (.ref b35), .val (.int (0 : Int32)), .val (.ref ob_48), .val (.ref kaf), .val (.long id_), .second, .val (.ref ob_54), .val (.ref kaf), .val (.long id_), .second, .val (.ref kaf)] []))
      refine Go.by (fun t k => XS.lload X65.here hx rfl (hb hby at_157) rfl k) ?_
      show Go p e below _ (T65.setTop (mkF m 159 #[.val (.long if_), .second, .val (.long id_), .second, .val (.int iq), .val (.int (0 : Int32)), .val (.int (1 : Int32)), .val (.ref b35), .val (.int (0 : Int32)), .val (.ref ob_48), .val (.ref kaf), .val (.long id_), .second, .val (.ref ob_54), .val (.ref kaf), .val (.long id_), .second, .val (.ref kaf)] [(.long id_)]))
      refine Go.by (fun t k => XS.lloadN X65.here hx rfl (hb hby at_159) rfl k) ?_
      show Go p e below _ (T65.setTop (mkF m 160 #[.val (.long if_), .second, .val (.long id_), .second, .val (.int iq), .val (.int (0 : Int32)), .val (.int (1 : Int32)), .val (.ref b35), .val (.int (0 : Int32)), .val (.ref ob_48), .val (.ref kaf), .val (.long id_), .second, .val (.ref ob_54), .val (.ref kaf), .val (.long id_), .second, .val (.ref kaf)] [(.long id_), (.long id_)]))
      refine Go.by (fun t k => XS.lcmp X65.here hx rfl (hb hby at_160) rfl k) ?_
      show Go p e below _ (T65.setTop (mkF m 161 #[.val (.long if_), .second, .val (.long id_), .second, .val (.int iq), .val (.int (0 : Int32)), .val (.int (1 : Int32)), .val (.ref b35), .val (.int (0 : Int32)), .val (.ref ob_48), .val (.ref kaf), .val (.long id_), .second, .val (.ref ob_54), .val (.ref kaf), .val (.long id_), .second, .val (.ref kaf)] [(.int (lcmpW id_ id_))]))
      refine Go.by (fun t k => XS.ifNo X65.here hx rfl (hb hby at_161) rfl ((if0 _ _).trans (teq ((lw_eq id_ id_).mpr rfl)).2) k) ?_
      show Go p e below _ (T65.setTop (mkF m 164 #[.val (.long if_), .second, .val (.long id_), .second, .val (.int iq), .val (.int (0 : Int32)), .val (.int (1 : Int32)), .val (.ref b35), .val (.int (0 : Int32)), .val (.ref ob_48), .val (.ref kaf), .val (.long id_), .second, .val (.ref ob_54), .val (.ref kaf), .val (.long id_), .second, .val (.ref kaf)] []))
      refine Go.by (fun t k => XS.iconst X65.here hx rfl (hb hby at_164) k) ?_
      show Go p e below _ (T65.setTop (mkF m 165 #[.val (.long if_), .second, .val (.long id_), .second, .val (.int iq), .val (.int (0 : Int32)), .val (.int (1 : Int32)), .val (.ref b35), .val (.int (0 : Int32)), .val (.ref ob_48), .val (.ref kaf), .val (.long id_), .second, .val (.ref ob_54), .val (.ref kaf), .val (.long id_), .second, .val (.ref kaf)] [(.int (1 : Int32))]))
      refine Go.by (fun t k => XS.goto X65.here hx rfl (pc0 := 165) (pc' := 169) rfl (hb hby at_165) (by decide) (by decide) k) ?_
      show Go p e below _ (T65.setTop (mkF m 169 #[.val (.long if_), .second, .val (.long id_), .second, .val (.int iq), .val (.int (0 : Int32)), .val (.int (1 : Int32)), .val (.ref b35), .val (.int (0 : Int32)), .val (.ref ob_48), .val (.ref kaf), .val (.long id_), .second, .val (.ref ob_54), .val (.ref kaf), .val (.long id_), .second, .val (.ref kaf)] [(.int (1 : Int32))]))
      have hq : Q_law Z if_ id_ iq kat kaf h0 n0 (some (.int (nar .boolean (1 : Int32)))) T54.heap _ := ⟨rfl, N62, F61⟩
      exact Go.retN X65 hx (t := .boolean) Bd.returns (by simp) hlk (hb hby at_169) (by decide) (by decide) (by rw [e65]; exact hq)
  · skip
    refine Go.by (fun t k => XS.ifNo X0.here hx rfl (hb hby at_4) rfl ((if0 _ _).trans (feq hc1).1) k) ?_
    show Go p e below _ (s₁.setTop (mkF m 7 #[.val (.long if_), .second, .val (.long id_), .second, .val (.int iq), .unset, .unset, .unset, .unset, .unset, .unset, .unset, .unset, .unset, .unset, .unset, .unset, .unset] []))
    refine Go.by (fun t k => XS.iconst X0.here hx rfl (hb hby at_7) k) ?_
    show Go p e below _ (s₁.setTop (mkF m 8 #[.val (.long if_), .second, .val (.long id_), .second, .val (.int iq), .unset, .unset, .unset, .unset, .unset, .unset, .unset, .unset, .unset, .unset, .unset, .unset, .unset] [(.int (1 : Int32))]))
    refine Go.by (fun t k => XS.goto X0.here hx rfl (pc0 := 8) (pc' := 12) rfl (hb hby at_8) (by decide) (by decide) k) ?_
    show Go p e below _ (s₁.setTop (mkF m 12 #[.val (.long if_), .second, .val (.long id_), .second, .val (.int iq), .unset, .unset, .unset, .unset, .unset, .unset, .unset, .unset, .unset, .unset, .unset, .unset, .unset] [(.int (1 : Int32))]))
    refine Go.by (fun t k => XS.istore X0.here hx rfl (hb hby at_12) rfl (l' := #[.val (.long if_), .second, .val (.long id_), .second, .val (.int iq), .val (.int (1 : Int32)), .unset, .unset, .unset, .unset, .unset, .unset, .unset, .unset, .unset, .unset, .unset, .unset]) rfl k) ?_
    show Go p e below _ (s₁.setTop (mkF m 14 #[.val (.long if_), .second, .val (.long id_), .second, .val (.int iq), .val (.int (1 : Int32)), .unset, .unset, .unset, .unset, .unset, .unset, .unset, .unset, .unset, .unset, .unset, .unset] []))
    refine Go.by (fun t k => XS.iload X0.here hx rfl (hb hby at_14) rfl k) ?_
    show Go p e below _ (s₁.setTop (mkF m 16 #[.val (.long if_), .second, .val (.long id_), .second, .val (.int iq), .val (.int (1 : Int32)), .unset, .unset, .unset, .unset, .unset, .unset, .unset, .unset, .unset, .unset, .unset, .unset] [(.int iq)]))
    refine Go.by (fun t k => XS.iconst X0.here hx rfl (hb hby at_16) k) ?_
    show Go p e below _ (s₁.setTop (mkF m 17 #[.val (.long if_), .second, .val (.long id_), .second, .val (.int iq), .val (.int (1 : Int32)), .unset, .unset, .unset, .unset, .unset, .unset, .unset, .unset, .unset, .unset, .unset, .unset] [(.int (2 : Int32)), (.int iq)]))
    refine Go.by (fun t k => XS.iand X0.here hx rfl (hb hby at_17) rfl k) ?_
    show Go p e below _ (s₁.setTop (mkF m 18 #[.val (.long if_), .second, .val (.long id_), .second, .val (.int iq), .val (.int (1 : Int32)), .unset, .unset, .unset, .unset, .unset, .unset, .unset, .unset, .unset, .unset, .unset, .unset] [(.int (iq &&& (2 : Int32)))]))
    by_cases hc66 : (iq &&& (2 : Int32)) = (0 : Int32)
    · skip
      refine Go.by (fun t k => XS.ifYes X0.here hx rfl (pc0 := 18) (pc' := 25) rfl (hb hby at_18) rfl ((if0 _ _).trans (teq hc66).1) (by decide) (by decide) k) ?_
      show Go p e below _ (s₁.setTop (mkF m 25 #[.val (.long if_), .second, .val (.long id_), .second, .val (.int iq), .val (.int (1 : Int32)), .unset, .unset, .unset, .unset, .unset, .unset, .unset, .unset, .unset, .unset, .unset, .unset] []))
      refine Go.by (fun t k => XS.iconst X0.here hx rfl (hb hby at_25) k) ?_
      show Go p e below _ (s₁.setTop (mkF m 26 #[.val (.long if_), .second, .val (.long id_), .second, .val (.int iq), .val (.int (1 : Int32)), .unset, .unset, .unset, .unset, .unset, .unset, .unset, .unset, .unset, .unset, .unset, .unset] [(.int (0 : Int32))]))
      refine Go.by (fun t k => XS.istore X0.here hx rfl (hb hby at_26) rfl (l' := #[.val (.long if_), .second, .val (.long id_), .second, .val (.int iq), .val (.int (1 : Int32)), .val (.int (0 : Int32)), .unset, .unset, .unset, .unset, .unset, .unset, .unset, .unset, .unset, .unset, .unset]) rfl k) ?_
      show Go p e below _ (s₁.setTop (mkF m 28 #[.val (.long if_), .second, .val (.long id_), .second, .val (.int iq), .val (.int (1 : Int32)), .val (.int (0 : Int32)), .unset, .unset, .unset, .unset, .unset, .unset, .unset, .unset, .unset, .unset, .unset] []))
      obtain ⟨T67, h67, X67, e67, E67, A67, D67, -, st67⟩ := newO X0 hx hZ hown (hw _ (List.mem_of_getElem? (i := 0) rfl)) (hw _ (List.mem_of_getElem? (i := 1) rfl)) (hw _ (List.mem_of_getElem? (i := 2) rfl)) e0 (g := (mkF m 28 #[.val (.long if_), .second, .val (.long id_), .second, .val (.int iq), .val (.int (1 : Int32)), .val (.int (0 : Int32)), .unset, .unset, .unset, .unset, .unset, .unset, .unset, .unset, .unset, .unset, .unset] [])) rfl (hb hby at_28) (by decide) (by decide)
      obtain ⟨b67, g67⟩ : ∃ z, z = h0.size := ⟨_, rfl⟩
      rw [← g67] at A67 D67 st67
      have gl67 : h0.size ≤ b67 := Nat.le_of_eq g67.symm
      have ge67 : n0 ≤ b67 := Nat.le_trans (own_old_size O0) gl67
      have sz67 : h0.size ≤ b67 := Nat.le_trans (Keep.refl h0 []).1 gl67
      have F68 : Fld Z h67 b67 "com/example/queue_manager_rpc/queuemanagerrpc/Cursor" "lookupId" "J" (.long (0 : Int64)) := D67 (Or.inl (hw _ (List.mem_of_getElem? (i := 15) rfl))) (ty := .long) (by decide)
      have F69 : Fld Z h67 b67 "com/example/queue_manager_rpc/queuemanagerrpc/Cursor" "onMessage" "Z" (.int (0 : Int32)) := D67 (Or.inl (hw _ (List.mem_of_getElem? (i := 17) rfl))) (ty := .boolean) (by decide)
      refine Go.by st67 ?_
      show Go p e below _ (T67.setTop (mkF m 31 #[.val (.long if_), .second, .val (.long id_), .second, .val (.int iq), .val (.int (1 : Int32)), .val (.int (0 : Int32)), .unset, .unset, .unset, .unset, .unset, .unset, .unset, .unset, .unset, .unset, .unset] [(.ref b67)]))
      refine Go.by (fun t k => XS.dup X67.here hx rfl (hb hby at_31) rfl rfl k) ?_
      show Go p e below _ (T67.setTop (mkF m 32 #[.val (.long if_), .second, .val (.long id_), .second, .val (.int iq), .val (.int (1 : Int32)), .val (.int (0 : Int32)), .unset, .unset, .unset, .unset, .unset, .unset, .unset, .unset, .unset, .unset, .unset] [(.ref b67), (.ref b67)]))
      have F71 : Old Z n0 h67 := (O0.ext E67)
      have F72 : Keep h0 h67 [] := ((Keep.refl h0 []).ext E67)
      obtain ⟨_, _, ⟨T70, L70, k70, n70⟩, -, X70, ⟨Lc70, hQ70, l70, y70, z70⟩, st70⟩ := X67.specialBack hx (y := (⟨"com/example/queue_manager_rpc/queuemanagerrpc/Cursor", "<init>", "()V"⟩ : MethodName)) rfl hown (mvT hZ (hw _ (List.mem_of_getElem? (i := 3) rfl))) (mvT hZ (hw _ (List.mem_of_getElem? (i := 4) rfl))) (mvT hZ (hw _ (List.mem_of_getElem? (i := 5) rfl))) (by decide) (backOf (W := 1) (cinit l Z a0 hw [] b67 h67 n0 F71) hZ (hw _ (List.mem_of_getElem? (i := 5) rfl)) (hw _ (List.mem_of_getElem? (i := 2) rfl)) (by decide) (by decide)) (g := (mkF m 32 #[.val (.long if_), .second, .val (.long id_), .second, .val (.int iq), .val (.int (1 : Int32)), .val (.int (0 : Int32)), .unset, .unset, .unset, .unset, .unset, .unset, .unset, .unset, .unset, .unset, .unset] [(.ref b67), (.ref b67)])) rfl (by rw [hml]; rfl) (Steps.refl _) (a := b67) (argsL := []) (rest := [(.ref b67)]) (lenOf pd_2 rfl) rfl (by show 2 * 0 + _ ≤ _; exact Nat.le_of_eq rfl) (hb hby at_32) (fun _ _ => ⟨rfl, e67, (by decide : 1 + 0 ≤ _), (by decide : 2 + 0 ≤ _)⟩)
      dsimp only [Pt.U, Pt.locs, Pt.cells, Pt.slots] at X70 l70 y70 z70 st70 hQ70
      subst l70 y70 z70
      obtain ⟨rfl, N70q, e70⟩ := hQ70
      have N70 := Fr.app N0 N70q
      refine Go.tr st70 ?_
      show Go p e below _ (T70.setTop (mkF m 35 #[.val (.long if_), .second, .val (.long id_), .second, .val (.int iq), .val (.int (1 : Int32)), .val (.int (0 : Int32)), .unset, .unset, .unset, .unset, .unset, .unset, .unset, .unset, .unset, .unset, .unset] [(.ref b67)]))
      refine Go.by (fun t k => XS.astore X70.here hx rfl (hb hby at_35) rfl rfl (l' := #[.val (.long if_), .second, .val (.long id_), .second, .val (.int iq), .val (.int (1 : Int32)), .val (.int (0 : Int32)), .val (.ref b67), .unset, .unset, .unset, .unset, .unset, .unset, .unset, .unset, .unset, .unset]) rfl k) ?_
      show Go p e below _ (T70.setTop (mkF m 37 #[.val (.long if_), .second, .val (.long id_), .second, .val (.int iq), .val (.int (1 : Int32)), .val (.int (0 : Int32)), .val (.ref b67), .unset, .unset, .unset, .unset, .unset, .unset, .unset, .unset, .unset, .unset] []))
      refine Go.by (fun t k => XS.aload X70.here hx rfl (hb hby at_37) rfl rfl k) ?_
      show Go p e below _ (T70.setTop (mkF m 39 #[.val (.long if_), .second, .val (.long id_), .second, .val (.int iq), .val (.int (1 : Int32)), .val (.int (0 : Int32)), .val (.ref b67), .unset, .unset, .unset, .unset, .unset, .unset, .unset, .unset, .unset, .unset] [(.ref b67)]))
      refine Go.by (fun t k => XS.lloadN X70.here hx rfl (hb hby at_39) rfl k) ?_
      show Go p e below _ (T70.setTop (mkF m 40 #[.val (.long if_), .second, .val (.long id_), .second, .val (.int iq), .val (.int (1 : Int32)), .val (.int (0 : Int32)), .val (.ref b67), .unset, .unset, .unset, .unset, .unset, .unset, .unset, .unset, .unset, .unset] [(.long if_), (.ref b67)]))
      refine Go.by (fun t k => XS.iload X70.here hx rfl (hb hby at_40) rfl k) ?_
      show Go p e below _ (T70.setTop (mkF m 42 #[.val (.long if_), .second, .val (.long id_), .second, .val (.int iq), .val (.int (1 : Int32)), .val (.int (0 : Int32)), .val (.ref b67), .unset, .unset, .unset, .unset, .unset, .unset, .unset, .unset, .unset, .unset] [(.int (1 : Int32)), (.long if_), (.ref b67)]))
      obtain ⟨cq73, kq73, q73a, q73b, q73c⟩ := isOf hZ e70 A67
      obtain ⟨_, _, ⟨T73, L73, k73, n73⟩, -, X73, ⟨Lc73, hQ73, l73, y73, z73⟩, st73⟩ := X70.virtualBack hx (y := (⟨"com/example/queue_manager_rpc/queuemanagerrpc/Cursor", "moveTo", "(JZ)V"⟩ : MethodName)) (z := (⟨"com/example/queue_manager_rpc/queuemanagerrpc/Cursor", "moveTo", "(JZ)V"⟩ : MethodName)) hown (mvT hZ (hw _ (List.mem_of_getElem? (i := 9) rfl))) (mvT hZ (hw _ (List.mem_of_getElem? (i := 10) rfl))) (notFace_of_selects (args := #[]) (mvT hZ (hw _ (List.mem_of_getElem? (i := 12) rfl)))) (mvT hZ (hw _ (List.mem_of_getElem? (i := 12) rfl))) (mvT hZ (hw _ (List.mem_of_getElem? (i := 11) rfl))) (by decide) (backOf (W := 0) (move1 l Z a0 hw [] b67 if_ (0 : Int64) (0 : Int32) h67 n0 F71 A67 F68 F69 ge67) hZ (hw _ (List.mem_of_getElem? (i := 13) rfl)) (hw _ (List.mem_of_getElem? (i := 2) rfl)) (by decide) (by decide)) q73a q73c (g := (mkF m 42 #[.val (.long if_), .second, .val (.long id_), .second, .val (.int iq), .val (.int (1 : Int32)), .val (.int (0 : Int32)), .val (.ref b67), .unset, .unset, .unset, .unset, .unset, .unset, .unset, .unset, .unset, .unset] [(.int (1 : Int32)), (.long if_), (.ref b67)])) rfl (by rw [hml]; rfl) (Steps.refl _) (argsL := [(.long if_), (.int (1 : Int32))]) (rest := []) (lenOf pd_3 rfl) rfl (by show 2 * 0 + _ ≤ _; exact Nat.le_of_eq rfl) (hb hby at_42) (fun _ _ => ⟨rfl, e70, (by decide : 1 + 0 ≤ _), (by decide : 2 + 0 ≤ _)⟩)
      dsimp only [Pt.U, Pt.locs, Pt.cells, Pt.slots] at X73 l73 y73 z73 st73 hQ73
      subst l73 y73 z73
      obtain ⟨rfl, N73q, K73, F73_0, F73_1, F73_2⟩ := hQ73
      have N73 := Fr.app N70 N73q
      refine Go.tr st73 ?_
      show Go p e below _ (T73.setTop (mkF m 45 #[.val (.long if_), .second, .val (.long id_), .second, .val (.int iq), .val (.int (1 : Int32)), .val (.int (0 : Int32)), .val (.ref b67), .unset, .unset, .unset, .unset, .unset, .unset, .unset, .unset, .unset, .unset] []))
      refine Go.by (fun t k => XS.aload X73.here hx rfl (hb hby at_45) rfl rfl k) ?_
      show Go p e below _ (T73.setTop (mkF m 47 #[.val (.long if_), .second, .val (.long id_), .second, .val (.int iq), .val (.int (1 : Int32)), .val (.int (0 : Int32)), .val (.ref b67), .unset, .unset, .unset, .unset, .unset, .unset, .unset, .unset, .unset, .unset] [(.ref b67)]))
      refine Go.by (fun t k => XS.lloadN X73.here hx rfl (hb hby at_47) rfl k) ?_
      show Go p e below _ (T73.setTop (mkF m 48 #[.val (.long if_), .second, .val (.long id_), .second, .val (.int iq), .val (.int (1 : Int32)), .val (.int (0 : Int32)), .val (.ref b67), .unset, .unset, .unset, .unset, .unset, .unset, .unset, .unset, .unset, .unset] [(.long id_), (.ref b67)]))
      refine Go.by (fun t k => XS.iload X73.here hx rfl (hb hby at_48) rfl k) ?_
      show Go p e below _ (T73.setTop (mkF m 50 #[.val (.long if_), .second, .val (.long id_), .second, .val (.int iq), .val (.int (1 : Int32)), .val (.int (0 : Int32)), .val (.ref b67), .unset, .unset, .unset, .unset, .unset, .unset, .unset, .unset, .unset, .unset] [(.int (0 : Int32)), (.long id_), (.ref b67)]))
      have F75 : Old Z n0 T73.heap := (F71.keep K73 (allS ge67 all0))
      have F76 : Keep h0 T73.heap [] := (F72.trans K73 (allS (Or.inr sz67) all0))
      obtain ⟨cq74, kq74, q74a, q74b, q74c⟩ := isOf hZ rfl F73_0
      obtain ⟨_, _, ⟨T74, L74, k74, n74⟩, -, X74, ⟨Lc74, hQ74, l74, y74, z74⟩, st74⟩ := X73.virtualBack hx (y := (⟨"com/example/queue_manager_rpc/queuemanagerrpc/Cursor", "moveTo", "(JZ)V"⟩ : MethodName)) (z := (⟨"com/example/queue_manager_rpc/queuemanagerrpc/Cursor", "moveTo", "(JZ)V"⟩ : MethodName)) hown (mvT hZ (hw _ (List.mem_of_getElem? (i := 9) rfl))) (mvT hZ (hw _ (List.mem_of_getElem? (i := 10) rfl))) (notFace_of_selects (args := #[]) (mvT hZ (hw _ (List.mem_of_getElem? (i := 12) rfl)))) (mvT hZ (hw _ (List.mem_of_getElem? (i := 12) rfl))) (mvT hZ (hw _ (List.mem_of_getElem? (i := 11) rfl))) (by decide) (backOf (W := 0) (move0 l Z a0 hw [] b67 id_ if_ (0 : Int32) T73.heap n0 F75 F73_0 F73_1 F73_2 ge67) hZ (hw _ (List.mem_of_getElem? (i := 13) rfl)) (hw _ (List.mem_of_getElem? (i := 2) rfl)) (by decide) (by decide)) q74a q74c (g := (mkF m 50 #[.val (.long if_), .second, .val (.long id_), .second, .val (.int iq), .val (.int (1 : Int32)), .val (.int (0 : Int32)), .val (.ref b67), .unset, .unset, .unset, .unset, .unset, .unset, .unset, .unset, .unset, .unset] [(.int (0 : Int32)), (.long id_), (.ref b67)])) rfl (by rw [hml]; rfl) (Steps.refl _) (argsL := [(.long id_), (.int (0 : Int32))]) (rest := []) (lenOf pd_3 rfl) rfl (by show 2 * 0 + _ ≤ _; exact Nat.le_of_eq rfl) (hb hby at_50) (fun _ _ => ⟨rfl, rfl, (by decide : 1 + 0 ≤ _), (by decide : 2 + 0 ≤ _)⟩)
      dsimp only [Pt.U, Pt.locs, Pt.cells, Pt.slots] at X74 l74 y74 z74 st74 hQ74
      subst l74 y74 z74
      obtain ⟨rfl, N74q, K74, F74_0, F74_1, F74_2⟩ := hQ74
      have N74 := Fr.app N73 N74q
      refine Go.tr st74 ?_
      show Go p e below _ (T74.setTop (mkF m 53 #[.val (.long if_), .second, .val (.long id_), .second, .val (.int iq), .val (.int (1 : Int32)), .val (.int (0 : Int32)), .val (.ref b67), .unset, .unset, .unset, .unset, .unset, .unset, .unset, .unset, .unset, .unset] []))
      refine Go.by (fun t k => XS.aload X74.here hx rfl (hb hby at_53) rfl rfl k) ?_
      show Go p e below _ (T74.setTop (mkF m 55 #[.val (.long if_), .second, .val (.long id_), .second, .val (.int iq), .val (.int (1 : Int32)), .val (.int (0 : Int32)), .val (.ref b67), .unset, .unset, .unset, .unset, .unset, .unset, .unset, .unset, .unset, .unset] [(.ref b67)]))
      have F78 : Old Z n0 T74.heap := (F75.keep K74 (allS ge67 all0))
      have F79 : Keep h0 T74.heap [] := (F76.trans K74 (allS (Or.inr sz67) all0))
      obtain ⟨cq77, kq77, q77a, q77b, q77c⟩ := isOf hZ rfl F74_0
      obtain ⟨_, _, ⟨T77, L77, k77, n77⟩, -, X77, ⟨Lc77, hQ77, l77, y77, z77⟩, st77⟩ := X74.virtualBack hx (y := (⟨"com/example/queue_manager_rpc/queuemanagerrpc/Cursor", "isOnMessage", "()Z"⟩ : MethodName)) (z := (⟨"com/example/queue_manager_rpc/queuemanagerrpc/Cursor", "isOnMessage", "()Z"⟩ : MethodName)) hown (mvT hZ (hw _ (List.mem_of_getElem? (i := 18) rfl))) (mvT hZ (hw _ (List.mem_of_getElem? (i := 19) rfl))) (notFace_of_selects (args := #[]) (mvT hZ (hw _ (List.mem_of_getElem? (i := 21) rfl)))) (mvT hZ (hw _ (List.mem_of_getElem? (i := 21) rfl))) (mvT hZ (hw _ (List.mem_of_getElem? (i := 20) rfl))) (by decide) (backOf (W := 0) (isOn1 l Z a0 hw [] b67 T74.heap n0 F78 F74_2) hZ (hw _ (List.mem_of_getElem? (i := 22) rfl)) (hw _ (List.mem_of_getElem? (i := 2) rfl)) (by decide) (by decide)) q77a q77c (g := (mkF m 55 #[.val (.long if_), .second, .val (.long id_), .second, .val (.int iq), .val (.int (1 : Int32)), .val (.int (0 : Int32)), .val (.ref b67), .unset, .unset, .unset, .unset, .unset, .unset, .unset, .unset, .unset, .unset] [(.ref b67)])) rfl (by rw [hml]; rfl) (Steps.refl _) (argsL := []) (rest := []) (lenOf pd_4 rfl) rfl (by show 2 * 0 + _ ≤ _; exact Nat.le_of_eq rfl) (hb hby at_55) (fun _ _ => ⟨rfl, rfl, (by decide : 1 + 0 ≤ _), (by decide : 2 + 0 ≤ _)⟩)
      dsimp only [Pt.U, Pt.locs, Pt.cells, Pt.slots] at X77 l77 y77 z77 st77 hQ77
      subst l77 y77 z77
      obtain ⟨rfl, N77q, e77⟩ := hQ77
      have N77 := Fr.app N74 N77q
      refine Go.tr st77 ?_
      show Go p e below _ (T77.setTop (mkF m 58 #[.val (.long if_), .second, .val (.long id_), .second, .val (.int iq), .val (.int (1 : Int32)), .val (.int (0 : Int32)), .val (.ref b67), .unset, .unset, .unset, .unset, .unset, .unset, .unset, .unset, .unset, .unset] [(.int (1 : Int32))]))
      refine Go.by (fun t k => XS.istore X77.here hx rfl (hb hby at_58) rfl (l' := #[.val (.long if_), .second, .val (.long id_), .second, .val (.int iq), .val (.int (1 : Int32)), .val (.int (0 : Int32)), .val (.ref b67), .val (.int (1 : Int32)), .unset, .unset, .unset, .unset, .unset, .unset, .unset, .unset, .unset]) rfl k) ?_
      show Go p e below _ (T77.setTop (mkF m 60 #[.val (.long if_), .second, .val (.long id_), .second, .val (.int iq), .val (.int (1 : Int32)), .val (.int (0 : Int32)), .val (.ref b67), .val (.int (1 : Int32)), .unset, .unset, .unset, .unset, .unset, .unset, .unset, .unset, .unset] []))
      refine Go.by (fun t k => XS.aload X77.here hx rfl (hb hby at_60) rfl rfl k) ?_
      show Go p e below _ (T77.setTop (mkF m 62 #[.val (.long if_), .second, .val (.long id_), .second, .val (.int iq), .val (.int (1 : Int32)), .val (.int (0 : Int32)), .val (.ref b67), .val (.int (1 : Int32)), .unset, .unset, .unset, .unset, .unset, .unset, .unset, .unset, .unset] [(.ref b67)]))
      obtain ⟨cq80, kq80, q80a, q80b, q80c⟩ := isOf hZ e77 F74_0
      obtain ⟨_, _, ⟨T80, L80, k80, n80⟩, -, X80, ⟨Lc80, hQ80, l80, y80, z80⟩, st80⟩ := X77.virtualBack hx (y := (⟨"com/example/queue_manager_rpc/queuemanagerrpc/Cursor", "current", "()Lcom/example/queue_manager_rpc/queuemanagerrpc/Position;"⟩ : MethodName)) (z := (⟨"com/example/queue_manager_rpc/queuemanagerrpc/Cursor", "current", "()Lcom/example/queue_manager_rpc/queuemanagerrpc/Position;"⟩ : MethodName)) hown (mvT hZ (hw _ (List.mem_of_getElem? (i := 23) rfl))) (mvT hZ (hw _ (List.mem_of_getElem? (i := 24) rfl))) (notFace_of_selects (args := #[]) (mvT hZ (hw _ (List.mem_of_getElem? (i := 26) rfl)))) (mvT hZ (hw _ (List.mem_of_getElem? (i := 26) rfl))) (mvT hZ (hw _ (List.mem_of_getElem? (i := 25) rfl))) (by decide) (backOf (W := 0) (cur1 l Z a0 hw [] b67 id_ kat T74.heap n0 F78 P0 F74_2 F74_1) hZ (hw _ (List.mem_of_getElem? (i := 27) rfl)) (hw _ (List.mem_of_getElem? (i := 2) rfl)) (by decide) (by decide)) q80a q80c (g := (mkF m 62 #[.val (.long if_), .second, .val (.long id_), .second, .val (.int iq), .val (.int (1 : Int32)), .val (.int (0 : Int32)), .val (.ref b67), .val (.int (1 : Int32)), .unset, .unset, .unset, .unset, .unset, .unset, .unset, .unset, .unset] [(.ref b67)])) rfl (by rw [hml]; rfl) (Steps.refl _) (argsL := []) (rest := []) (lenOf pd_5 rfl) rfl (by show 2 * 0 + _ ≤ _; exact Nat.le_of_eq rfl) (hb hby at_62) (fun _ _ => ⟨rfl, e77, (by decide : 1 + 1 ≤ _), (by decide : 2 + 2 ≤ _)⟩)
      dsimp only [Pt.U, Pt.locs, Pt.cells, Pt.slots] at X80 l80 y80 z80 st80 hQ80
      subst l80 y80 z80
      obtain ⟨ob_80, rfl, N80q, K80, fz80_ob, F80_0, F80_1, F80_2⟩ := hQ80
      have N80 := Fr.app N77 N80q
      have ge_ob_80 : n0 ≤ ob_80 := Nat.le_trans (own_old_size F78) fz80_ob
      have sz_ob_80 : h0.size ≤ ob_80 := Nat.le_trans F79.1 fz80_ob
      have ne81 : b67 ≠ ob_80 := Nat.ne_of_lt (Nat.lt_of_lt_of_le F74_0.lt fz80_ob)
      refine Go.tr st80 ?_
      show Go p e below _ (T80.setTop (mkF m 65 #[.val (.long if_), .second, .val (.long id_), .second, .val (.int iq), .val (.int (1 : Int32)), .val (.int (0 : Int32)), .val (.ref b67), .val (.int (1 : Int32)), .unset, .unset, .unset, .unset, .unset, .unset, .unset, .unset, .unset] [(.ref ob_80)]))
      refine Go.by (fun t k => XS.astore X80.here hx rfl (hb hby at_65) rfl rfl (l' := #[.val (.long if_), .second, .val (.long id_), .second, .val (.int iq), .val (.int (1 : Int32)), .val (.int (0 : Int32)), .val (.ref b67), .val (.int (1 : Int32)), .val (.ref ob_80), .unset, .unset, .unset, .unset, .unset, .unset, .unset, .unset]) rfl k) ?_
      show Go p e below _ (T80.setTop (mkF m 67 #[.val (.long if_), .second, .val (.long id_), .second, .val (.int iq), .val (.int (1 : Int32)), .val (.int (0 : Int32)), .val (.ref b67), .val (.int (1 : Int32)), .val (.ref ob_80), .unset, .unset, .unset, .unset, .unset, .unset, .unset, .unset] []))
      refine Go.by (fun t k => XS.aload X80.here hx rfl (hb hby at_67) rfl rfl k) ?_
      show Go p e below _ (T80.setTop (mkF m 69 #[.val (.long if_), .second, .val (.long id_), .second, .val (.int iq), .val (.int (1 : Int32)), .val (.int (0 : Int32)), .val (.ref b67), .val (.int (1 : Int32)), .val (.ref ob_80), .unset, .unset, .unset, .unset, .unset, .unset, .unset, .unset] [(.ref ob_80)]))
      have F83 : Old Z n0 T80.heap := (F78.keep K80 all0)
      have F84 : Keep h0 T80.heap [] := (F79.trans K80 all0)
      obtain ⟨cq82, kq82, q82a, q82b, q82c⟩ := isOf hZ rfl F80_0
      obtain ⟨_, _, ⟨T82, L82, k82, n82⟩, -, X82, ⟨Lc82, hQ82, l82, y82, z82⟩, st82⟩ := X80.virtualBack hx (y := (⟨"com/example/queue_manager_rpc/queuemanagerrpc/Position", "kind", "()Lcom/example/queue_manager_rpc/queuemanagerrpc/Position$Kind;"⟩ : MethodName)) (z := (⟨"com/example/queue_manager_rpc/queuemanagerrpc/Position", "kind", "()Lcom/example/queue_manager_rpc/queuemanagerrpc/Position$Kind;"⟩ : MethodName)) hown (mvT hZ (hw _ (List.mem_of_getElem? (i := 45) rfl))) (mvT hZ (hw _ (List.mem_of_getElem? (i := 46) rfl))) (notFace_of_selects (args := #[]) (mvT hZ (hw _ (List.mem_of_getElem? (i := 48) rfl)))) (mvT hZ (hw _ (List.mem_of_getElem? (i := 48) rfl))) (mvT hZ (hw _ (List.mem_of_getElem? (i := 47) rfl))) (by decide) (backOf (W := 0) (kind l Z a0 hw [] ob_80 kat T80.heap n0 F83 F80_1) hZ (hw _ (List.mem_of_getElem? (i := 49) rfl)) (hw _ (List.mem_of_getElem? (i := 30) rfl)) (by decide) (by decide)) q82a q82c (g := (mkF m 69 #[.val (.long if_), .second, .val (.long id_), .second, .val (.int iq), .val (.int (1 : Int32)), .val (.int (0 : Int32)), .val (.ref b67), .val (.int (1 : Int32)), .val (.ref ob_80), .unset, .unset, .unset, .unset, .unset, .unset, .unset, .unset] [(.ref ob_80)])) rfl (by rw [hml]; rfl) (Steps.refl _) (argsL := []) (rest := []) (lenOf pd_6 rfl) rfl (by show 2 * 0 + _ ≤ _; exact Nat.le_of_eq rfl) (hb hby at_69) (fun _ _ => ⟨rfl, rfl, (by decide : 2 + 0 ≤ _), (by decide : 4 + 0 ≤ _)⟩)
      dsimp only [Pt.U, Pt.locs, Pt.cells, Pt.slots] at X82 l82 y82 z82 st82 hQ82
      subst l82 y82 z82
      obtain ⟨rfl, N82q, e82⟩ := hQ82
      have N82 := Fr.app N80 N82q
      refine Go.tr st82 ?_
      show Go p e below _ (T82.setTop (mkF m 72 #[.val (.long if_), .second, .val (.long id_), .second, .val (.int iq), .val (.int (1 : Int32)), .val (.int (0 : Int32)), .val (.ref b67), .val (.int (1 : Int32)), .val (.ref ob_80), .unset, .unset, .unset, .unset, .unset, .unset, .unset, .unset] [(.ref kat)]))
      refine Go.by (fun t k => XS.astore X82.here hx rfl (hb hby at_72) rfl rfl (l' := #[.val (.long if_), .second, .val (.long id_), .second, .val (.int iq), .val (.int (1 : Int32)), .val (.int (0 : Int32)), .val (.ref b67), .val (.int (1 : Int32)), .val (.ref ob_80), .val (.ref kat), .unset, .unset, .unset, .unset, .unset, .unset, .unset]) rfl k) ?_
      show Go p e below _ (T82.setTop (mkF m 74 #[.val (.long if_), .second, .val (.long id_), .second, .val (.int iq), .val (.int (1 : Int32)), .val (.int (0 : Int32)), .val (.ref b67), .val (.int (1 : Int32)), .val (.ref ob_80), .val (.ref kat), .unset, .unset, .unset, .unset, .unset, .unset, .unset] []))
      refine Go.by (fun t k => XS.aload X82.here hx rfl (hb hby at_74) rfl rfl k) ?_
      show Go p e below _ (T82.setTop (mkF m 76 #[.val (.long if_), .second, .val (.long id_), .second, .val (.int iq), .val (.int (1 : Int32)), .val (.int (0 : Int32)), .val (.ref b67), .val (.int (1 : Int32)), .val (.ref ob_80), .val (.ref kat), .unset, .unset, .unset, .unset, .unset, .unset, .unset] [(.ref ob_80)]))
      obtain ⟨cq85, kq85, q85a, q85b, q85c⟩ := isOf hZ e82 F80_0
      obtain ⟨_, _, ⟨T85, L85, k85, n85⟩, -, X85, ⟨Lc85, hQ85, l85, y85, z85⟩, st85⟩ := X82.virtualBack hx (y := (⟨"com/example/queue_manager_rpc/queuemanagerrpc/Position", "lookupId", "()J"⟩ : MethodName)) (z := (⟨"com/example/queue_manager_rpc/queuemanagerrpc/Position", "lookupId", "()J"⟩ : MethodName)) hown (mvT hZ (hw _ (List.mem_of_getElem? (i := 50) rfl))) (mvT hZ (hw _ (List.mem_of_getElem? (i := 51) rfl))) (notFace_of_selects (args := #[]) (mvT hZ (hw _ (List.mem_of_getElem? (i := 53) rfl)))) (mvT hZ (hw _ (List.mem_of_getElem? (i := 53) rfl))) (mvT hZ (hw _ (List.mem_of_getElem? (i := 52) rfl))) (by decide) (backOf (W := 0) (lookupId l Z a0 hw [] ob_80 id_ T80.heap n0 F83 F80_2) hZ (hw _ (List.mem_of_getElem? (i := 54) rfl)) (hw _ (List.mem_of_getElem? (i := 30) rfl)) (by decide) (by decide)) q85a q85c (g := (mkF m 76 #[.val (.long if_), .second, .val (.long id_), .second, .val (.int iq), .val (.int (1 : Int32)), .val (.int (0 : Int32)), .val (.ref b67), .val (.int (1 : Int32)), .val (.ref ob_80), .val (.ref kat), .unset, .unset, .unset, .unset, .unset, .unset, .unset] [(.ref ob_80)])) rfl (by rw [hml]; rfl) (Steps.refl _) (argsL := []) (rest := []) (lenOf pd_7 rfl) rfl (by show 2 * 0 + _ ≤ _; exact Nat.le_of_eq rfl) (hb hby at_76) (fun _ _ => ⟨rfl, e82, (by decide : 2 + 0 ≤ _), (by decide : 4 + 0 ≤ _)⟩)
      dsimp only [Pt.U, Pt.locs, Pt.cells, Pt.slots] at X85 l85 y85 z85 st85 hQ85
      subst l85 y85 z85
      obtain ⟨rfl, N85q, e85⟩ := hQ85
      have N85 := Fr.app N82 N85q
      refine Go.tr st85 ?_
      show Go p e below _ (T85.setTop (mkF m 79 #[.val (.long if_), .second, .val (.long id_), .second, .val (.int iq), .val (.int (1 : Int32)), .val (.int (0 : Int32)), .val (.ref b67), .val (.int (1 : Int32)), .val (.ref ob_80), .val (.ref kat), .unset, .unset, .unset, .unset, .unset, .unset, .unset] [(.long id_)]))
      refine Go.by (fun t k => XS.lstore X85.here hx rfl (hb hby at_79) rfl (l' := #[.val (.long if_), .second, .val (.long id_), .second, .val (.int iq), .val (.int (1 : Int32)), .val (.int (0 : Int32)), .val (.ref b67), .val (.int (1 : Int32)), .val (.ref ob_80), .val (.ref kat), .val (.long id_), .second, .unset, .unset, .unset, .unset, .unset]) rfl k) ?_
      show Go p e below _ (T85.setTop (mkF m 81 #[.val (.long if_), .second, .val (.long id_), .second, .val (.int iq), .val (.int (1 : Int32)), .val (.int (0 : Int32)), .val (.ref b67), .val (.int (1 : Int32)), .val (.ref ob_80), .val (.ref kat), .val (.long id_), .second, .unset, .unset, .unset, .unset, .unset] []))
      refine Go.by (fun t k => XS.aload X85.here hx rfl (hb hby at_81) rfl rfl k) ?_
      show Go p e below _ (T85.setTop (mkF m 83 #[.val (.long if_), .second, .val (.long id_), .second, .val (.int iq), .val (.int (1 : Int32)), .val (.int (0 : Int32)), .val (.ref b67), .val (.int (1 : Int32)), .val (.ref ob_80), .val (.ref kat), .val (.long id_), .second, .unset, .unset, .unset, .unset, .unset] [(.ref b67)]))
      have F87 : Fld Z T80.heap b67 "com/example/queue_manager_rpc/queuemanagerrpc/Cursor" "lookupId" "J" (.long id_) := (F74_1.keep K80 nin0)
      have F88 : Exa Z T80.heap b67 "com/example/queue_manager_rpc/queuemanagerrpc/Cursor" := (F74_0.keep K80)
      obtain ⟨cq86, kq86, q86a, q86b, q86c⟩ := isOf hZ e85 F88
      obtain ⟨_, _, ⟨T86, L86, k86, n86⟩, -, X86, ⟨Lc86, hQ86, l86, y86, z86⟩, st86⟩ := X85.virtualBack hx (y := (⟨"com/example/queue_manager_rpc/queuemanagerrpc/Cursor", "next", "()Lcom/example/queue_manager_rpc/queuemanagerrpc/Position;"⟩ : MethodName)) (z := (⟨"com/example/queue_manager_rpc/queuemanagerrpc/Cursor", "next", "()Lcom/example/queue_manager_rpc/queuemanagerrpc/Position;"⟩ : MethodName)) hown (mvT hZ (hw _ (List.mem_of_getElem? (i := 55) rfl))) (mvT hZ (hw _ (List.mem_of_getElem? (i := 56) rfl))) (notFace_of_selects (args := #[]) (mvT hZ (hw _ (List.mem_of_getElem? (i := 58) rfl)))) (mvT hZ (hw _ (List.mem_of_getElem? (i := 58) rfl))) (mvT hZ (hw _ (List.mem_of_getElem? (i := 57) rfl))) (by decide) (backOf (W := 0) (next l Z a0 hw [] b67 id_ kaf T80.heap n0 F83 P1 F87) hZ (hw _ (List.mem_of_getElem? (i := 59) rfl)) (hw _ (List.mem_of_getElem? (i := 2) rfl)) (by decide) (by decide)) q86a q86c (g := (mkF m 83 #[.val (.long if_), .second, .val (.long id_), .second, .val (.int iq), .val (.int (1 : Int32)), .val (.int (0 : Int32)), .val (.ref b67), .val (.int (1 : Int32)), .val (.ref ob_80), .val (.ref kat), .val (.long id_), .second, .unset, .unset, .unset, .unset, .unset] [(.ref b67)])) rfl (by rw [hml]; rfl) (Steps.refl _) (argsL := []) (rest := []) (lenOf pd_5 rfl) rfl (by show 2 * 0 + _ ≤ _; exact Nat.le_of_eq rfl) (hb hby at_83) (fun _ _ => ⟨rfl, e85, (by decide : 2 + 1 ≤ _), (by decide : 4 + 2 ≤ _)⟩)
      dsimp only [Pt.U, Pt.locs, Pt.cells, Pt.slots] at X86 l86 y86 z86 st86 hQ86
      subst l86 y86 z86
      obtain ⟨ob_86, rfl, N86q, K86, fz86_ob, F86_0, F86_1, F86_2⟩ := hQ86
      have N86 := Fr.app N85 N86q
      have ge_ob_86 : n0 ≤ ob_86 := Nat.le_trans (own_old_size F83) fz86_ob
      have sz_ob_86 : h0.size ≤ ob_86 := Nat.le_trans F84.1 fz86_ob
      have ne89 : b67 ≠ ob_86 := Nat.ne_of_lt (Nat.lt_of_lt_of_le F88.lt fz86_ob)
      have ne90 : ob_80 ≠ ob_86 := Nat.ne_of_lt (Nat.lt_of_lt_of_le F80_0.lt fz86_ob)
      refine Go.tr st86 ?_
      show Go p e below _ (T86.setTop (mkF m 86 #[.val (.long if_), .second, .val (.long id_), .second, .val (.int iq), .val (.int (1 : Int32)), .val (.int (0 : Int32)), .val (.ref b67), .val (.int (1 : Int32)), .val (.ref ob_80), .val (.ref kat), .val (.long id_), .second, .unset, .unset, .unset, .unset, .unset] [(.ref ob_86)]))
      refine Go.by (fun t k => XS.astore X86.here hx rfl (hb hby at_86) rfl rfl (l' := #[.val (.long if_), .second, .val (.long id_), .second, .val (.int iq), .val (.int (1 : Int32)), .val (.int (0 : Int32)), .val (.ref b67), .val (.int (1 : Int32)), .val (.ref ob_80), .val (.ref kat), .val (.long id_), .second, .val (.ref ob_86), .unset, .unset, .unset, .unset]) rfl k) ?_
      show Go p e below _ (T86.setTop (mkF m 88 #[.val (.long if_), .second, .val (.long id_), .second, .val (.int iq), .val (.int (1 : Int32)), .val (.int (0 : Int32)), .val (.ref b67), .val (.int (1 : Int32)), .val (.ref ob_80), .val (.ref kat), .val (.long id_), .second, .val (.ref ob_86), .unset, .unset, .unset, .unset] []))
      refine Go.by (fun t k => XS.aload X86.here hx rfl (hb hby at_88) rfl rfl k) ?_
      show Go p e below _ (T86.setTop (mkF m 90 #[.val (.long if_), .second, .val (.long id_), .second, .val (.int iq), .val (.int (1 : Int32)), .val (.int (0 : Int32)), .val (.ref b67), .val (.int (1 : Int32)), .val (.ref ob_80), .val (.ref kat), .val (.long id_), .second, .val (.ref ob_86), .unset, .unset, .unset, .unset] [(.ref ob_86)]))
      have F92 : Old Z n0 T86.heap := (F83.keep K86 all0)
      have F93 : Keep h0 T86.heap [] := (F84.trans K86 all0)
      obtain ⟨cq91, kq91, q91a, q91b, q91c⟩ := isOf hZ rfl F86_0
      obtain ⟨_, _, ⟨T91, L91, k91, n91⟩, -, X91, ⟨Lc91, hQ91, l91, y91, z91⟩, st91⟩ := X86.virtualBack hx (y := (⟨"com/example/queue_manager_rpc/queuemanagerrpc/Position", "kind", "()Lcom/example/queue_manager_rpc/queuemanagerrpc/Position$Kind;"⟩ : MethodName)) (z := (⟨"com/example/queue_manager_rpc/queuemanagerrpc/Position", "kind", "()Lcom/example/queue_manager_rpc/queuemanagerrpc/Position$Kind;"⟩ : MethodName)) hown (mvT hZ (hw _ (List.mem_of_getElem? (i := 45) rfl))) (mvT hZ (hw _ (List.mem_of_getElem? (i := 46) rfl))) (notFace_of_selects (args := #[]) (mvT hZ (hw _ (List.mem_of_getElem? (i := 48) rfl)))) (mvT hZ (hw _ (List.mem_of_getElem? (i := 48) rfl))) (mvT hZ (hw _ (List.mem_of_getElem? (i := 47) rfl))) (by decide) (backOf (W := 0) (kind l Z a0 hw [] ob_86 kaf T86.heap n0 F92 F86_1) hZ (hw _ (List.mem_of_getElem? (i := 49) rfl)) (hw _ (List.mem_of_getElem? (i := 30) rfl)) (by decide) (by decide)) q91a q91c (g := (mkF m 90 #[.val (.long if_), .second, .val (.long id_), .second, .val (.int iq), .val (.int (1 : Int32)), .val (.int (0 : Int32)), .val (.ref b67), .val (.int (1 : Int32)), .val (.ref ob_80), .val (.ref kat), .val (.long id_), .second, .val (.ref ob_86), .unset, .unset, .unset, .unset] [(.ref ob_86)])) rfl (by rw [hml]; rfl) (Steps.refl _) (argsL := []) (rest := []) (lenOf pd_6 rfl) rfl (by show 2 * 0 + _ ≤ _; exact Nat.le_of_eq rfl) (hb hby at_90) (fun _ _ => ⟨rfl, rfl, (by decide : 3 + 0 ≤ _), (by decide : 6 + 0 ≤ _)⟩)
      dsimp only [Pt.U, Pt.locs, Pt.cells, Pt.slots] at X91 l91 y91 z91 st91 hQ91
      subst l91 y91 z91
      obtain ⟨rfl, N91q, e91⟩ := hQ91
      have N91 := Fr.app N86 N91q
      refine Go.tr st91 ?_
      show Go p e below _ (T91.setTop (mkF m 93 #[.val (.long if_), .second, .val (.long id_), .second, .val (.int iq), .val (.int (1 : Int32)), .val (.int (0 : Int32)), .val (.ref b67), .val (.int (1 : Int32)), .val (.ref ob_80), .val (.ref kat), .val (.long id_), .second, .val (.ref ob_86), .unset, .unset, .unset, .unset] [(.ref kaf)]))
      refine Go.by (fun t k => XS.astore X91.here hx rfl (hb hby at_93) rfl rfl (l' := #[.val (.long if_), .second, .val (.long id_), .second, .val (.int iq), .val (.int (1 : Int32)), .val (.int (0 : Int32)), .val (.ref b67), .val (.int (1 : Int32)), .val (.ref ob_80), .val (.ref kat), .val (.long id_), .second, .val (.ref ob_86), .val (.ref kaf), .unset, .unset, .unset]) rfl k) ?_
      show Go p e below _ (T91.setTop (mkF m 95 #[.val (.long if_), .second, .val (.long id_), .second, .val (.int iq), .val (.int (1 : Int32)), .val (.int (0 : Int32)), .val (.ref b67), .val (.int (1 : Int32)), .val (.ref ob_80), .val (.ref kat), .val (.long id_), .second, .val (.ref ob_86), .val (.ref kaf), .unset, .unset, .unset] []))
      refine Go.by (fun t k => XS.aload X91.here hx rfl (hb hby at_95) rfl rfl k) ?_
      show Go p e below _ (T91.setTop (mkF m 97 #[.val (.long if_), .second, .val (.long id_), .second, .val (.int iq), .val (.int (1 : Int32)), .val (.int (0 : Int32)), .val (.ref b67), .val (.int (1 : Int32)), .val (.ref ob_80), .val (.ref kat), .val (.long id_), .second, .val (.ref ob_86), .val (.ref kaf), .unset, .unset, .unset] [(.ref ob_86)]))
      obtain ⟨cq94, kq94, q94a, q94b, q94c⟩ := isOf hZ e91 F86_0
      obtain ⟨_, _, ⟨T94, L94, k94, n94⟩, -, X94, ⟨Lc94, hQ94, l94, y94, z94⟩, st94⟩ := X91.virtualBack hx (y := (⟨"com/example/queue_manager_rpc/queuemanagerrpc/Position", "lookupId", "()J"⟩ : MethodName)) (z := (⟨"com/example/queue_manager_rpc/queuemanagerrpc/Position", "lookupId", "()J"⟩ : MethodName)) hown (mvT hZ (hw _ (List.mem_of_getElem? (i := 50) rfl))) (mvT hZ (hw _ (List.mem_of_getElem? (i := 51) rfl))) (notFace_of_selects (args := #[]) (mvT hZ (hw _ (List.mem_of_getElem? (i := 53) rfl)))) (mvT hZ (hw _ (List.mem_of_getElem? (i := 53) rfl))) (mvT hZ (hw _ (List.mem_of_getElem? (i := 52) rfl))) (by decide) (backOf (W := 0) (lookupId l Z a0 hw [] ob_86 id_ T86.heap n0 F92 F86_2) hZ (hw _ (List.mem_of_getElem? (i := 54) rfl)) (hw _ (List.mem_of_getElem? (i := 30) rfl)) (by decide) (by decide)) q94a q94c (g := (mkF m 97 #[.val (.long if_), .second, .val (.long id_), .second, .val (.int iq), .val (.int (1 : Int32)), .val (.int (0 : Int32)), .val (.ref b67), .val (.int (1 : Int32)), .val (.ref ob_80), .val (.ref kat), .val (.long id_), .second, .val (.ref ob_86), .val (.ref kaf), .unset, .unset, .unset] [(.ref ob_86)])) rfl (by rw [hml]; rfl) (Steps.refl _) (argsL := []) (rest := []) (lenOf pd_7 rfl) rfl (by show 2 * 0 + _ ≤ _; exact Nat.le_of_eq rfl) (hb hby at_97) (fun _ _ => ⟨rfl, e91, (by decide : 3 + 0 ≤ _), (by decide : 6 + 0 ≤ _)⟩)
      dsimp only [Pt.U, Pt.locs, Pt.cells, Pt.slots] at X94 l94 y94 z94 st94 hQ94
      subst l94 y94 z94
      obtain ⟨rfl, N94q, e94⟩ := hQ94
      have N94 := Fr.app N91 N94q
      refine Go.tr st94 ?_
      show Go p e below _ (T94.setTop (mkF m 100 #[.val (.long if_), .second, .val (.long id_), .second, .val (.int iq), .val (.int (1 : Int32)), .val (.int (0 : Int32)), .val (.ref b67), .val (.int (1 : Int32)), .val (.ref ob_80), .val (.ref kat), .val (.long id_), .second, .val (.ref ob_86), .val (.ref kaf), .unset, .unset, .unset] [(.long id_)]))
      refine Go.by (fun t k => XS.lstore X94.here hx rfl (hb hby at_100) rfl (l' := #[.val (.long if_), .second, .val (.long id_), .second, .val (.int iq), .val (.int (1 : Int32)), .val (.int (0 : Int32)), .val (.ref b67), .val (.int (1 : Int32)), .val (.ref ob_80), .val (.ref kat), .val (.long id_), .second, .val (.ref ob_86), .val (.ref kaf), .val (.long id_), .second, .unset]) rfl k) ?_
      show Go p e below _ (T94.setTop (mkF m 102 #[.val (.long if_), .second, .val (.long id_), .second, .val (.int iq), .val (.int (1 : Int32)), .val (.int (0 : Int32)), .val (.ref b67), .val (.int (1 : Int32)), .val (.ref ob_80), .val (.ref kat), .val (.long id_), .second, .val (.ref ob_86), .val (.ref kaf), .val (.long id_), .second, .unset] []))
      refine Go.by (fun t k => XS.iload X94.here hx rfl (hb hby at_102) rfl k) ?_
      show Go p e below _ (T94.setTop (mkF m 104 #[.val (.long if_), .second, .val (.long id_), .second, .val (.int iq), .val (.int (1 : Int32)), .val (.int (0 : Int32)), .val (.ref b67), .val (.int (1 : Int32)), .val (.ref ob_80), .val (.ref kat), .val (.long id_), .second, .val (.ref ob_86), .val (.ref kaf), .val (.long id_), .second, .unset] [(.int (0 : Int32))]))
      refine Go.by (fun t k => XS.ifYes X94.here hx rfl (pc0 := 104) (pc' := 115) rfl (hb hby at_104) rfl ((if0 _ _).trans (teq rfl).1) (by decide) (by decide) k) ?_
      show Go p e below _ (T94.setTop (mkF m 115 #[.val (.long if_), .second, .val (.long id_), .second, .val (.int iq), .val (.int (1 : Int32)), .val (.int (0 : Int32)), .val (.ref b67), .val (.int (1 : Int32)), .val (.ref ob_80), .val (.ref kat), .val (.long id_), .second, .val (.ref ob_86), .val (.ref kaf), .val (.long id_), .second, .unset] []))
      have F95 : Sta Z T86.heap "com/example/queue_manager_rpc/queuemanagerrpc/Position$Kind" "AT" "Lcom/example/queue_manager_rpc/queuemanagerrpc/Position$Kind;" (.ref kat) := P0.ext F92.2
      obtain ⟨T96, X96, e96, st96⟩ := getS2 X94 hx hZ hown (host := "") (Or.inl (hw _ (List.mem_of_getElem? (i := 65) rfl))) Via.refl e94 F95 (g := (mkF m 115 #[.val (.long if_), .second, .val (.long id_), .second, .val (.int iq), .val (.int (1 : Int32)), .val (.int (0 : Int32)), .val (.ref b67), .val (.int (1 : Int32)), .val (.ref ob_80), .val (.ref kat), .val (.long id_), .second, .val (.ref ob_86), .val (.ref kaf), .val (.long id_), .second, .unset] [])) rfl (hb hby at_115)
      refine Go.by st96 ?_
      show Go p e below _ (T96.setTop (mkF m 118 #[.val (.long if_), .second, .val (.long id_), .second, .val (.int iq), .val (.int (1 : Int32)), .val (.int (0 : Int32)), .val (.ref b67), .val (.int (1 : Int32)), .val (.ref ob_80), .val (.ref kat), .val (.long id_), .second, .val (.ref ob_86), .val (.ref kaf), .val (.long id_), .second, .unset] [(.ref kat)]))
      refine Go.by (fun t k => XS.astore X96.here hx rfl (hb hby at_118) rfl rfl (l' := #[.val (.long if_), .second, .val (.long id_), .second, .val (.int iq), .val (.int (1 : Int32)), .val (.int (0 : Int32)), .val (.ref b67), .val (.int (1 : Int32)), .val (.ref ob_80), .val (.ref kat), .val (.long id_), .second, .val (.ref ob_86), .val (.ref kaf), .val (.long id_), .second, .val (.ref kat)]) rfl k) ?_
      show Go p e below _ (T96.setTop (mkF m 120 #[.val (.long if_), .second, .val (.long id_), .second, .val (.int iq), .val (.int (1 : Int32)), .val (.int (0 : Int32)), .val (.ref b67), .val (.int (1 : Int32)), .val (.ref ob_80), .val (.ref kat), .val (.long id_), .second, .val (.ref ob_86), .val (.ref kaf), .val (.long id_), .second, .val (.ref kat)] []))
      refine Go.by (fun t k => XS.iload X96.here hx rfl (hb hby at_120) rfl k) ?_
      show Go p e below _ (T96.setTop (mkF m 122 #[.val (.long if_), .second, .val (.long id_), .second, .val (.int iq), .val (.int (1 : Int32)), .val (.int (0 : Int32)), .val (.ref b67), .val (.int (1 : Int32)), .val (.ref ob_80), .val (.ref kat), .val (.long id_), .second, .val (.ref ob_86), .val (.ref kaf), .val (.long id_), .second, .val (.ref kat)] [(.int (1 : Int32))]))
      refine Go.by (fun t k => XS.iload X96.here hx rfl (hb hby at_122) rfl k) ?_
      show Go p e below _ (T96.setTop (mkF m 124 #[.val (.long if_), .second, .val (.long id_), .second, .val (.int iq), .val (.int (1 : Int32)), .val (.int (0 : Int32)), .val (.ref b67), .val (.int (1 : Int32)), .val (.ref ob_80), .val (.ref kat), .val (.long id_), .second, .val (.ref ob_86), .val (.ref kaf), .val (.long id_), .second, .val (.ref kat)] [(.int (0 : Int32)), (.int (1 : Int32))]))
      refine Go.by (fun t k => XS.ifNo X96.here hx rfl (hb hby at_124) rfl ((if0 _ _).trans (teq rfl).2) k) ?_
      show Go p e below _ (T96.setTop (mkF m 127 #[.val (.long if_), .second, .val (.long id_), .second, .val (.int iq), .val (.int (1 : Int32)), .val (.int (0 : Int32)), .val (.ref b67), .val (.int (1 : Int32)), .val (.ref ob_80), .val (.ref kat), .val (.long id_), .second, .val (.ref ob_86), .val (.ref kaf), .val (.long id_), .second, .val (.ref kat)] [(.int (1 : Int32))]))
      refine Go.by (fun t k => XS.iconst X96.here hx rfl (hb hby at_127) k) ?_
      show Go p e below _ (T96.setTop (mkF m 128 #[.val (.long if_), .second, .val (.long id_), .second, .val (.int iq), .val (.int (1 : Int32)), .val (.int (0 : Int32)), .val (.ref b67), .val (.int (1 : Int32)), .val (.ref ob_80), .val (.ref kat), .val (.long id_), .second, .val (.ref ob_86), .val (.ref kaf), .val (.long id_), .second, .val (.ref kat)] [(.int (1 : Int32)), (.int (1 : Int32))]))
      refine Go.by (fun t k => XS.goto X96.here hx rfl (pc0 := 128) (pc' := 132) rfl (hb hby at_128) (by decide) (by decide) k) ?_
      show Go p e below _ (T96.setTop (mkF m 132 #[.val (.long if_), .second, .val (.long id_), .second, .val (.int iq), .val (.int (1 : Int32)), .val (.int (0 : Int32)), .val (.ref b67), .val (.int (1 : Int32)), .val (.ref ob_80), .val (.ref kat), .val (.long id_), .second, .val (.ref ob_86), .val (.ref kaf), .val (.long id_), .second, .val (.ref kat)] [(.int (1 : Int32)), (.int (1 : Int32))]))
      refine Go.by (fun t k => XS.icmpNo X96.here hx rfl (hb hby at_132) rfl (teq rfl).2 k) ?_
      show Go p e below _ (T96.setTop (mkF m 135 #[.val (.long if_), .second, .val (.long id_), .second, .val (.int iq), .val (.int (1 : Int32)), .val (.int (0 : Int32)), .val (.ref b67), .val (.int (1 : Int32)), .val (.ref ob_80), .val (.ref kat), .val (.long id_), .second, .val (.ref ob_86), .val (.ref kaf), .val (.long id_), .second, .val (.ref kat)] []))
      refine Go.by (fun t k => XS.aload X96.here hx rfl (hb hby at_135) rfl rfl k) ?_
      show Go p e below _ (T96.setTop (mkF m 137 #[.val (.long if_), .second, .val (.long id_), .second, .val (.int iq), .val (.int (1 : Int32)), .val (.int (0 : Int32)), .val (.ref b67), .val (.int (1 : Int32)), .val (.ref ob_80), .val (.ref kat), .val (.long id_), .second, .val (.ref ob_86), .val (.ref kaf), .val (.long id_), .second, .val (.ref kat)] [(.ref kat)]))
      refine Go.by (fun t k => XS.aload X96.here hx rfl (hb hby at_137) rfl rfl k) ?_
      show Go p e below _ (T96.setTop (mkF m 139 #[.val (.long if_), .second, .val (.long id_), .second, .val (.int iq), .val (.int (1 : Int32)), .val (.int (0 : Int32)), .val (.ref b67), .val (.int (1 : Int32)), .val (.ref ob_80), .val (.ref kat), .val (.long id_), .second, .val (.ref ob_86), .val (.ref kaf), .val (.long id_), .second, .val (.ref kat)] [(.ref kat), (.ref kat)]))
      refine Go.by (fun t k => Jvm.RoadKit.acmp (g := (mkF m 139 #[.val (.long if_), .second, .val (.long id_), .second, .val (.int iq), .val (.int (1 : Int32)), .val (.int (0 : Int32)), .val (.ref b67), .val (.int (1 : Int32)), .val (.ref ob_80), .val (.ref kat), .val (.long id_), .second, .val (.ref ob_86), .val (.ref kaf), .val (.long id_), .second, .val (.ref kat)] [(.ref kat), (.ref kat)])) X96 hx rfl rfl rfl (pc0 := 139) (pc' := 142) (same := true) rfl (hb hby at_139) rfl (decide_eq_true rfl) (by decide) (by decide) k) ?_
      show Go p e below _ (T96.setTop (mkF m 142 #[.val (.long if_), .second, .val (.long id_), .second, .val (.int iq), .val (.int (1 : Int32)), .val (.int (0 : Int32)), .val (.ref b67), .val (.int (1 : Int32)), .val (.ref ob_80), .val (.ref kat), .val (.long id_), .second, .val (.ref ob_86), .val (.ref kaf), .val (.long id_), .second, .val (.ref kat)] []))
      refine Go.by (fun t k => XS.lload X96.here hx rfl (hb hby at_142) rfl k) ?_
      show Go p e below _ (T96.setTop (mkF m 144 #[.val (.long if_), .second, .val (.long id_), .second, .val (.int iq), .val (.int (1 : Int32)), .val (.int (0 : Int32)), .val (.ref b67), .val (.int (1 : Int32)), .val (.ref ob_80), .val (.ref kat), .val (.long id_), .second, .val (.ref ob_86), .val (.ref kaf), .val (.long id_), .second, .val (.ref kat)] [(.long id_)]))
      refine Go.by (fun t k => XS.lloadN X96.here hx rfl (hb hby at_144) rfl k) ?_
      show Go p e below _ (T96.setTop (mkF m 145 #[.val (.long if_), .second, .val (.long id_), .second, .val (.int iq), .val (.int (1 : Int32)), .val (.int (0 : Int32)), .val (.ref b67), .val (.int (1 : Int32)), .val (.ref ob_80), .val (.ref kat), .val (.long id_), .second, .val (.ref ob_86), .val (.ref kaf), .val (.long id_), .second, .val (.ref kat)] [(.long id_), (.long id_)]))
      refine Go.by (fun t k => XS.lcmp X96.here hx rfl (hb hby at_145) rfl k) ?_
      show Go p e below _ (T96.setTop (mkF m 146 #[.val (.long if_), .second, .val (.long id_), .second, .val (.int iq), .val (.int (1 : Int32)), .val (.int (0 : Int32)), .val (.ref b67), .val (.int (1 : Int32)), .val (.ref ob_80), .val (.ref kat), .val (.long id_), .second, .val (.ref ob_86), .val (.ref kaf), .val (.long id_), .second, .val (.ref kat)] [(.int (lcmpW id_ id_))]))
      refine Go.by (fun t k => XS.ifNo X96.here hx rfl (hb hby at_146) rfl ((if0 _ _).trans (teq ((lw_eq id_ id_).mpr rfl)).2) k) ?_
      show Go p e below _ (T96.setTop (mkF m 149 #[.val (.long if_), .second, .val (.long id_), .second, .val (.int iq), .val (.int (1 : Int32)), .val (.int (0 : Int32)), .val (.ref b67), .val (.int (1 : Int32)), .val (.ref ob_80), .val (.ref kat), .val (.long id_), .second, .val (.ref ob_86), .val (.ref kaf), .val (.long id_), .second, .val (.ref kat)] []))
      refine Go.by (fun t k => XS.aload X96.here hx rfl (hb hby at_149) rfl rfl k) ?_
      show Go p e below _ (T96.setTop (mkF m 151 #[.val (.long if_), .second, .val (.long id_), .second, .val (.int iq), .val (.int (1 : Int32)), .val (.int (0 : Int32)), .val (.ref b67), .val (.int (1 : Int32)), .val (.ref ob_80), .val (.ref kat), .val (.long id_), .second, .val (.ref ob_86), .val (.ref kaf), .val (.long id_), .second, .val (.ref kat)] [(.ref kaf)]))
      have F97 : Sta Z T86.heap "com/example/queue_manager_rpc/queuemanagerrpc/Position$Kind" "AFTER" "Lcom/example/queue_manager_rpc/queuemanagerrpc/Position$Kind;" (.ref kaf) := P1.ext F92.2
      obtain ⟨T98, X98, e98, st98⟩ := getS2 X96 hx hZ hown (host := "") (Or.inl (hw _ (List.mem_of_getElem? (i := 66) rfl))) Via.refl e96 F97 (g := (mkF m 151 #[.val (.long if_), .second, .val (.long id_), .second, .val (.int iq), .val (.int (1 : Int32)), .val (.int (0 : Int32)), .val (.ref b67), .val (.int (1 : Int32)), .val (.ref ob_80), .val (.ref kat), .val (.long id_), .second, .val (.ref ob_86), .val (.ref kaf), .val (.long id_), .second, .val (.ref kat)] [(.ref kaf)])) rfl (hb hby at_151)
      refine Go.by st98 ?_
      show Go p e below _ (T98.setTop (mkF m 154 #[.val (.long if_), .second, .val (.long id_), .second, .val (.int iq), .val (.int (1 : Int32)), .val (.int (0 : Int32)), .val (.ref b67), .val (.int (1 : Int32)), .val (.ref ob_80), .val (.ref kat), .val (.long id_), .second, .val (.ref ob_86), .val (.ref kaf), .val (.long id_), .second, .val (.ref kat)] [(.ref kaf), (.ref kaf)]))
      refine Go.by (fun t k => Jvm.RoadKit.acmp (g := (mkF m 154 #[.val (.long if_), .second, .val (.long id_), .second, .val (.int iq), .val (.int (1 : Int32)), .val (.int (0 : Int32)), .val (.ref b67), .val (.int (1 : Int32)), .val (.ref ob_80), .val (.ref kat), .val (.long id_), .second, .val (.ref ob_86), .val (.ref kaf), .val (.long id_), .second, .val (.ref kat)] [(.ref kaf), (.ref kaf)])) X98 hx rfl rfl rfl (pc0 := 154) (pc' := 157) (same := true) rfl (hb hby at_154) rfl (decide_eq_true rfl) (by decide) (by decide) k) ?_
      show Go p e below _ (T98.setTop (mkF m 157 #[.val (.long if_), .second, .val (.long id_), .second, .val (.int iq), .val (.int (1 : Int32)), .val (.int (0 : Int32)), .val (.ref b67), .val (.int (1 : Int32)), .val (.ref ob_80), .val (.ref kat), .val (.long id_), .second, .val (.ref ob_86), .val (.ref kaf), .val (.long id_), .second, .val (.ref kat)] []))
      refine Go.by (fun t k => XS.lload X98.here hx rfl (hb hby at_157) rfl k) ?_
      show Go p e below _ (T98.setTop (mkF m 159 #[.val (.long if_), .second, .val (.long id_), .second, .val (.int iq), .val (.int (1 : Int32)), .val (.int (0 : Int32)), .val (.ref b67), .val (.int (1 : Int32)), .val (.ref ob_80), .val (.ref kat), .val (.long id_), .second, .val (.ref ob_86), .val (.ref kaf), .val (.long id_), .second, .val (.ref kat)] [(.long id_)]))
      refine Go.by (fun t k => XS.lloadN X98.here hx rfl (hb hby at_159) rfl k) ?_
      show Go p e below _ (T98.setTop (mkF m 160 #[.val (.long if_), .second, .val (.long id_), .second, .val (.int iq), .val (.int (1 : Int32)), .val (.int (0 : Int32)), .val (.ref b67), .val (.int (1 : Int32)), .val (.ref ob_80), .val (.ref kat), .val (.long id_), .second, .val (.ref ob_86), .val (.ref kaf), .val (.long id_), .second, .val (.ref kat)] [(.long id_), (.long id_)]))
      refine Go.by (fun t k => XS.lcmp X98.here hx rfl (hb hby at_160) rfl k) ?_
      show Go p e below _ (T98.setTop (mkF m 161 #[.val (.long if_), .second, .val (.long id_), .second, .val (.int iq), .val (.int (1 : Int32)), .val (.int (0 : Int32)), .val (.ref b67), .val (.int (1 : Int32)), .val (.ref ob_80), .val (.ref kat), .val (.long id_), .second, .val (.ref ob_86), .val (.ref kaf), .val (.long id_), .second, .val (.ref kat)] [(.int (lcmpW id_ id_))]))
      refine Go.by (fun t k => XS.ifNo X98.here hx rfl (hb hby at_161) rfl ((if0 _ _).trans (teq ((lw_eq id_ id_).mpr rfl)).2) k) ?_
      show Go p e below _ (T98.setTop (mkF m 164 #[.val (.long if_), .second, .val (.long id_), .second, .val (.int iq), .val (.int (1 : Int32)), .val (.int (0 : Int32)), .val (.ref b67), .val (.int (1 : Int32)), .val (.ref ob_80), .val (.ref kat), .val (.long id_), .second, .val (.ref ob_86), .val (.ref kaf), .val (.long id_), .second, .val (.ref kat)] []))
      refine Go.by (fun t k => XS.iconst X98.here hx rfl (hb hby at_164) k) ?_
      show Go p e below _ (T98.setTop (mkF m 165 #[.val (.long if_), .second, .val (.long id_), .second, .val (.int iq), .val (.int (1 : Int32)), .val (.int (0 : Int32)), .val (.ref b67), .val (.int (1 : Int32)), .val (.ref ob_80), .val (.ref kat), .val (.long id_), .second, .val (.ref ob_86), .val (.ref kaf), .val (.long id_), .second, .val (.ref kat)] [(.int (1 : Int32))]))
      refine Go.by (fun t k => XS.goto X98.here hx rfl (pc0 := 165) (pc' := 169) rfl (hb hby at_165) (by decide) (by decide) k) ?_
      show Go p e below _ (T98.setTop (mkF m 169 #[.val (.long if_), .second, .val (.long id_), .second, .val (.int iq), .val (.int (1 : Int32)), .val (.int (0 : Int32)), .val (.ref b67), .val (.int (1 : Int32)), .val (.ref ob_80), .val (.ref kat), .val (.long id_), .second, .val (.ref ob_86), .val (.ref kaf), .val (.long id_), .second, .val (.ref kat)] [(.int (1 : Int32))]))
      have hq : Q_law Z if_ id_ iq kat kaf h0 n0 (some (.int (nar .boolean (1 : Int32)))) T86.heap _ := ⟨rfl, N94, F93⟩
      exact Go.retN X98 hx (t := .boolean) Bd.returns (by simp) hlk (hb hby at_169) (by decide) (by decide) (by rw [e98]; exact hq)
    · skip
      refine Go.by (fun t k => XS.ifNo X0.here hx rfl (hb hby at_18) rfl ((if0 _ _).trans (feq hc66).1) k) ?_
      show Go p e below _ (s₁.setTop (mkF m 21 #[.val (.long if_), .second, .val (.long id_), .second, .val (.int iq), .val (.int (1 : Int32)), .unset, .unset, .unset, .unset, .unset, .unset, .unset, .unset, .unset, .unset, .unset, .unset] []))
      refine Go.by (fun t k => XS.iconst X0.here hx rfl (hb hby at_21) k) ?_
      show Go p e below _ (s₁.setTop (mkF m 22 #[.val (.long if_), .second, .val (.long id_), .second, .val (.int iq), .val (.int (1 : Int32)), .unset, .unset, .unset, .unset, .unset, .unset, .unset, .unset, .unset, .unset, .unset, .unset] [(.int (1 : Int32))]))
      refine Go.by (fun t k => XS.goto X0.here hx rfl (pc0 := 22) (pc' := 26) rfl (hb hby at_22) (by decide) (by decide) k) ?_
      show Go p e below _ (s₁.setTop (mkF m 26 #[.val (.long if_), .second, .val (.long id_), .second, .val (.int iq), .val (.int (1 : Int32)), .unset, .unset, .unset, .unset, .unset, .unset, .unset, .unset, .unset, .unset, .unset, .unset] [(.int (1 : Int32))]))
      refine Go.by (fun t k => XS.istore X0.here hx rfl (hb hby at_26) rfl (l' := #[.val (.long if_), .second, .val (.long id_), .second, .val (.int iq), .val (.int (1 : Int32)), .val (.int (1 : Int32)), .unset, .unset, .unset, .unset, .unset, .unset, .unset, .unset, .unset, .unset, .unset]) rfl k) ?_
      show Go p e below _ (s₁.setTop (mkF m 28 #[.val (.long if_), .second, .val (.long id_), .second, .val (.int iq), .val (.int (1 : Int32)), .val (.int (1 : Int32)), .unset, .unset, .unset, .unset, .unset, .unset, .unset, .unset, .unset, .unset, .unset] []))
      obtain ⟨T99, h99, X99, e99, E99, A99, D99, -, st99⟩ := newO X0 hx hZ hown (hw _ (List.mem_of_getElem? (i := 0) rfl)) (hw _ (List.mem_of_getElem? (i := 1) rfl)) (hw _ (List.mem_of_getElem? (i := 2) rfl)) e0 (g := (mkF m 28 #[.val (.long if_), .second, .val (.long id_), .second, .val (.int iq), .val (.int (1 : Int32)), .val (.int (1 : Int32)), .unset, .unset, .unset, .unset, .unset, .unset, .unset, .unset, .unset, .unset, .unset] [])) rfl (hb hby at_28) (by decide) (by decide)
      obtain ⟨b99, g99⟩ : ∃ z, z = h0.size := ⟨_, rfl⟩
      rw [← g99] at A99 D99 st99
      have gl99 : h0.size ≤ b99 := Nat.le_of_eq g99.symm
      have ge99 : n0 ≤ b99 := Nat.le_trans (own_old_size O0) gl99
      have sz99 : h0.size ≤ b99 := Nat.le_trans (Keep.refl h0 []).1 gl99
      have F100 : Fld Z h99 b99 "com/example/queue_manager_rpc/queuemanagerrpc/Cursor" "lookupId" "J" (.long (0 : Int64)) := D99 (Or.inl (hw _ (List.mem_of_getElem? (i := 15) rfl))) (ty := .long) (by decide)
      have F101 : Fld Z h99 b99 "com/example/queue_manager_rpc/queuemanagerrpc/Cursor" "onMessage" "Z" (.int (0 : Int32)) := D99 (Or.inl (hw _ (List.mem_of_getElem? (i := 17) rfl))) (ty := .boolean) (by decide)
      refine Go.by st99 ?_
      show Go p e below _ (T99.setTop (mkF m 31 #[.val (.long if_), .second, .val (.long id_), .second, .val (.int iq), .val (.int (1 : Int32)), .val (.int (1 : Int32)), .unset, .unset, .unset, .unset, .unset, .unset, .unset, .unset, .unset, .unset, .unset] [(.ref b99)]))
      refine Go.by (fun t k => XS.dup X99.here hx rfl (hb hby at_31) rfl rfl k) ?_
      show Go p e below _ (T99.setTop (mkF m 32 #[.val (.long if_), .second, .val (.long id_), .second, .val (.int iq), .val (.int (1 : Int32)), .val (.int (1 : Int32)), .unset, .unset, .unset, .unset, .unset, .unset, .unset, .unset, .unset, .unset, .unset] [(.ref b99), (.ref b99)]))
      have F103 : Old Z n0 h99 := (O0.ext E99)
      have F104 : Keep h0 h99 [] := ((Keep.refl h0 []).ext E99)
      obtain ⟨_, _, ⟨T102, L102, k102, n102⟩, -, X102, ⟨Lc102, hQ102, l102, y102, z102⟩, st102⟩ := X99.specialBack hx (y := (⟨"com/example/queue_manager_rpc/queuemanagerrpc/Cursor", "<init>", "()V"⟩ : MethodName)) rfl hown (mvT hZ (hw _ (List.mem_of_getElem? (i := 3) rfl))) (mvT hZ (hw _ (List.mem_of_getElem? (i := 4) rfl))) (mvT hZ (hw _ (List.mem_of_getElem? (i := 5) rfl))) (by decide) (backOf (W := 1) (cinit l Z a0 hw [] b99 h99 n0 F103) hZ (hw _ (List.mem_of_getElem? (i := 5) rfl)) (hw _ (List.mem_of_getElem? (i := 2) rfl)) (by decide) (by decide)) (g := (mkF m 32 #[.val (.long if_), .second, .val (.long id_), .second, .val (.int iq), .val (.int (1 : Int32)), .val (.int (1 : Int32)), .unset, .unset, .unset, .unset, .unset, .unset, .unset, .unset, .unset, .unset, .unset] [(.ref b99), (.ref b99)])) rfl (by rw [hml]; rfl) (Steps.refl _) (a := b99) (argsL := []) (rest := [(.ref b99)]) (lenOf pd_2 rfl) rfl (by show 2 * 0 + _ ≤ _; exact Nat.le_of_eq rfl) (hb hby at_32) (fun _ _ => ⟨rfl, e99, (by decide : 1 + 0 ≤ _), (by decide : 2 + 0 ≤ _)⟩)
      dsimp only [Pt.U, Pt.locs, Pt.cells, Pt.slots] at X102 l102 y102 z102 st102 hQ102
      subst l102 y102 z102
      obtain ⟨rfl, N102q, e102⟩ := hQ102
      have N102 := Fr.app N0 N102q
      refine Go.tr st102 ?_
      show Go p e below _ (T102.setTop (mkF m 35 #[.val (.long if_), .second, .val (.long id_), .second, .val (.int iq), .val (.int (1 : Int32)), .val (.int (1 : Int32)), .unset, .unset, .unset, .unset, .unset, .unset, .unset, .unset, .unset, .unset, .unset] [(.ref b99)]))
      refine Go.by (fun t k => XS.astore X102.here hx rfl (hb hby at_35) rfl rfl (l' := #[.val (.long if_), .second, .val (.long id_), .second, .val (.int iq), .val (.int (1 : Int32)), .val (.int (1 : Int32)), .val (.ref b99), .unset, .unset, .unset, .unset, .unset, .unset, .unset, .unset, .unset, .unset]) rfl k) ?_
      show Go p e below _ (T102.setTop (mkF m 37 #[.val (.long if_), .second, .val (.long id_), .second, .val (.int iq), .val (.int (1 : Int32)), .val (.int (1 : Int32)), .val (.ref b99), .unset, .unset, .unset, .unset, .unset, .unset, .unset, .unset, .unset, .unset] []))
      refine Go.by (fun t k => XS.aload X102.here hx rfl (hb hby at_37) rfl rfl k) ?_
      show Go p e below _ (T102.setTop (mkF m 39 #[.val (.long if_), .second, .val (.long id_), .second, .val (.int iq), .val (.int (1 : Int32)), .val (.int (1 : Int32)), .val (.ref b99), .unset, .unset, .unset, .unset, .unset, .unset, .unset, .unset, .unset, .unset] [(.ref b99)]))
      refine Go.by (fun t k => XS.lloadN X102.here hx rfl (hb hby at_39) rfl k) ?_
      show Go p e below _ (T102.setTop (mkF m 40 #[.val (.long if_), .second, .val (.long id_), .second, .val (.int iq), .val (.int (1 : Int32)), .val (.int (1 : Int32)), .val (.ref b99), .unset, .unset, .unset, .unset, .unset, .unset, .unset, .unset, .unset, .unset] [(.long if_), (.ref b99)]))
      refine Go.by (fun t k => XS.iload X102.here hx rfl (hb hby at_40) rfl k) ?_
      show Go p e below _ (T102.setTop (mkF m 42 #[.val (.long if_), .second, .val (.long id_), .second, .val (.int iq), .val (.int (1 : Int32)), .val (.int (1 : Int32)), .val (.ref b99), .unset, .unset, .unset, .unset, .unset, .unset, .unset, .unset, .unset, .unset] [(.int (1 : Int32)), (.long if_), (.ref b99)]))
      obtain ⟨cq105, kq105, q105a, q105b, q105c⟩ := isOf hZ e102 A99
      obtain ⟨_, _, ⟨T105, L105, k105, n105⟩, -, X105, ⟨Lc105, hQ105, l105, y105, z105⟩, st105⟩ := X102.virtualBack hx (y := (⟨"com/example/queue_manager_rpc/queuemanagerrpc/Cursor", "moveTo", "(JZ)V"⟩ : MethodName)) (z := (⟨"com/example/queue_manager_rpc/queuemanagerrpc/Cursor", "moveTo", "(JZ)V"⟩ : MethodName)) hown (mvT hZ (hw _ (List.mem_of_getElem? (i := 9) rfl))) (mvT hZ (hw _ (List.mem_of_getElem? (i := 10) rfl))) (notFace_of_selects (args := #[]) (mvT hZ (hw _ (List.mem_of_getElem? (i := 12) rfl)))) (mvT hZ (hw _ (List.mem_of_getElem? (i := 12) rfl))) (mvT hZ (hw _ (List.mem_of_getElem? (i := 11) rfl))) (by decide) (backOf (W := 0) (move1 l Z a0 hw [] b99 if_ (0 : Int64) (0 : Int32) h99 n0 F103 A99 F100 F101 ge99) hZ (hw _ (List.mem_of_getElem? (i := 13) rfl)) (hw _ (List.mem_of_getElem? (i := 2) rfl)) (by decide) (by decide)) q105a q105c (g := (mkF m 42 #[.val (.long if_), .second, .val (.long id_), .second, .val (.int iq), .val (.int (1 : Int32)), .val (.int (1 : Int32)), .val (.ref b99), .unset, .unset, .unset, .unset, .unset, .unset, .unset, .unset, .unset, .unset] [(.int (1 : Int32)), (.long if_), (.ref b99)])) rfl (by rw [hml]; rfl) (Steps.refl _) (argsL := [(.long if_), (.int (1 : Int32))]) (rest := []) (lenOf pd_3 rfl) rfl (by show 2 * 0 + _ ≤ _; exact Nat.le_of_eq rfl) (hb hby at_42) (fun _ _ => ⟨rfl, e102, (by decide : 1 + 0 ≤ _), (by decide : 2 + 0 ≤ _)⟩)
      dsimp only [Pt.U, Pt.locs, Pt.cells, Pt.slots] at X105 l105 y105 z105 st105 hQ105
      subst l105 y105 z105
      obtain ⟨rfl, N105q, K105, F105_0, F105_1, F105_2⟩ := hQ105
      have N105 := Fr.app N102 N105q
      refine Go.tr st105 ?_
      show Go p e below _ (T105.setTop (mkF m 45 #[.val (.long if_), .second, .val (.long id_), .second, .val (.int iq), .val (.int (1 : Int32)), .val (.int (1 : Int32)), .val (.ref b99), .unset, .unset, .unset, .unset, .unset, .unset, .unset, .unset, .unset, .unset] []))
      refine Go.by (fun t k => XS.aload X105.here hx rfl (hb hby at_45) rfl rfl k) ?_
      show Go p e below _ (T105.setTop (mkF m 47 #[.val (.long if_), .second, .val (.long id_), .second, .val (.int iq), .val (.int (1 : Int32)), .val (.int (1 : Int32)), .val (.ref b99), .unset, .unset, .unset, .unset, .unset, .unset, .unset, .unset, .unset, .unset] [(.ref b99)]))
      refine Go.by (fun t k => XS.lloadN X105.here hx rfl (hb hby at_47) rfl k) ?_
      show Go p e below _ (T105.setTop (mkF m 48 #[.val (.long if_), .second, .val (.long id_), .second, .val (.int iq), .val (.int (1 : Int32)), .val (.int (1 : Int32)), .val (.ref b99), .unset, .unset, .unset, .unset, .unset, .unset, .unset, .unset, .unset, .unset] [(.long id_), (.ref b99)]))
      refine Go.by (fun t k => XS.iload X105.here hx rfl (hb hby at_48) rfl k) ?_
      show Go p e below _ (T105.setTop (mkF m 50 #[.val (.long if_), .second, .val (.long id_), .second, .val (.int iq), .val (.int (1 : Int32)), .val (.int (1 : Int32)), .val (.ref b99), .unset, .unset, .unset, .unset, .unset, .unset, .unset, .unset, .unset, .unset] [(.int (1 : Int32)), (.long id_), (.ref b99)]))
      have F107 : Old Z n0 T105.heap := (F103.keep K105 (allS ge99 all0))
      have F108 : Keep h0 T105.heap [] := (F104.trans K105 (allS (Or.inr sz99) all0))
      obtain ⟨cq106, kq106, q106a, q106b, q106c⟩ := isOf hZ rfl F105_0
      obtain ⟨_, _, ⟨T106, L106, k106, n106⟩, -, X106, ⟨Lc106, hQ106, l106, y106, z106⟩, st106⟩ := X105.virtualBack hx (y := (⟨"com/example/queue_manager_rpc/queuemanagerrpc/Cursor", "moveTo", "(JZ)V"⟩ : MethodName)) (z := (⟨"com/example/queue_manager_rpc/queuemanagerrpc/Cursor", "moveTo", "(JZ)V"⟩ : MethodName)) hown (mvT hZ (hw _ (List.mem_of_getElem? (i := 9) rfl))) (mvT hZ (hw _ (List.mem_of_getElem? (i := 10) rfl))) (notFace_of_selects (args := #[]) (mvT hZ (hw _ (List.mem_of_getElem? (i := 12) rfl)))) (mvT hZ (hw _ (List.mem_of_getElem? (i := 12) rfl))) (mvT hZ (hw _ (List.mem_of_getElem? (i := 11) rfl))) (by decide) (backOf (W := 0) (move1 l Z a0 hw [] b99 id_ if_ (0 : Int32) T105.heap n0 F107 F105_0 F105_1 F105_2 ge99) hZ (hw _ (List.mem_of_getElem? (i := 13) rfl)) (hw _ (List.mem_of_getElem? (i := 2) rfl)) (by decide) (by decide)) q106a q106c (g := (mkF m 50 #[.val (.long if_), .second, .val (.long id_), .second, .val (.int iq), .val (.int (1 : Int32)), .val (.int (1 : Int32)), .val (.ref b99), .unset, .unset, .unset, .unset, .unset, .unset, .unset, .unset, .unset, .unset] [(.int (1 : Int32)), (.long id_), (.ref b99)])) rfl (by rw [hml]; rfl) (Steps.refl _) (argsL := [(.long id_), (.int (1 : Int32))]) (rest := []) (lenOf pd_3 rfl) rfl (by show 2 * 0 + _ ≤ _; exact Nat.le_of_eq rfl) (hb hby at_50) (fun _ _ => ⟨rfl, rfl, (by decide : 1 + 0 ≤ _), (by decide : 2 + 0 ≤ _)⟩)
      dsimp only [Pt.U, Pt.locs, Pt.cells, Pt.slots] at X106 l106 y106 z106 st106 hQ106
      subst l106 y106 z106
      obtain ⟨rfl, N106q, K106, F106_0, F106_1, F106_2⟩ := hQ106
      have N106 := Fr.app N105 N106q
      refine Go.tr st106 ?_
      show Go p e below _ (T106.setTop (mkF m 53 #[.val (.long if_), .second, .val (.long id_), .second, .val (.int iq), .val (.int (1 : Int32)), .val (.int (1 : Int32)), .val (.ref b99), .unset, .unset, .unset, .unset, .unset, .unset, .unset, .unset, .unset, .unset] []))
      refine Go.by (fun t k => XS.aload X106.here hx rfl (hb hby at_53) rfl rfl k) ?_
      show Go p e below _ (T106.setTop (mkF m 55 #[.val (.long if_), .second, .val (.long id_), .second, .val (.int iq), .val (.int (1 : Int32)), .val (.int (1 : Int32)), .val (.ref b99), .unset, .unset, .unset, .unset, .unset, .unset, .unset, .unset, .unset, .unset] [(.ref b99)]))
      have F110 : Old Z n0 T106.heap := (F107.keep K106 (allS ge99 all0))
      have F111 : Keep h0 T106.heap [] := (F108.trans K106 (allS (Or.inr sz99) all0))
      obtain ⟨cq109, kq109, q109a, q109b, q109c⟩ := isOf hZ rfl F106_0
      obtain ⟨_, _, ⟨T109, L109, k109, n109⟩, -, X109, ⟨Lc109, hQ109, l109, y109, z109⟩, st109⟩ := X106.virtualBack hx (y := (⟨"com/example/queue_manager_rpc/queuemanagerrpc/Cursor", "isOnMessage", "()Z"⟩ : MethodName)) (z := (⟨"com/example/queue_manager_rpc/queuemanagerrpc/Cursor", "isOnMessage", "()Z"⟩ : MethodName)) hown (mvT hZ (hw _ (List.mem_of_getElem? (i := 18) rfl))) (mvT hZ (hw _ (List.mem_of_getElem? (i := 19) rfl))) (notFace_of_selects (args := #[]) (mvT hZ (hw _ (List.mem_of_getElem? (i := 21) rfl)))) (mvT hZ (hw _ (List.mem_of_getElem? (i := 21) rfl))) (mvT hZ (hw _ (List.mem_of_getElem? (i := 20) rfl))) (by decide) (backOf (W := 0) (isOn0 l Z a0 hw [] b99 T106.heap n0 F110 F106_2) hZ (hw _ (List.mem_of_getElem? (i := 22) rfl)) (hw _ (List.mem_of_getElem? (i := 2) rfl)) (by decide) (by decide)) q109a q109c (g := (mkF m 55 #[.val (.long if_), .second, .val (.long id_), .second, .val (.int iq), .val (.int (1 : Int32)), .val (.int (1 : Int32)), .val (.ref b99), .unset, .unset, .unset, .unset, .unset, .unset, .unset, .unset, .unset, .unset] [(.ref b99)])) rfl (by rw [hml]; rfl) (Steps.refl _) (argsL := []) (rest := []) (lenOf pd_4 rfl) rfl (by show 2 * 0 + _ ≤ _; exact Nat.le_of_eq rfl) (hb hby at_55) (fun _ _ => ⟨rfl, rfl, (by decide : 1 + 0 ≤ _), (by decide : 2 + 0 ≤ _)⟩)
      dsimp only [Pt.U, Pt.locs, Pt.cells, Pt.slots] at X109 l109 y109 z109 st109 hQ109
      subst l109 y109 z109
      obtain ⟨rfl, N109q, e109⟩ := hQ109
      have N109 := Fr.app N106 N109q
      refine Go.tr st109 ?_
      show Go p e below _ (T109.setTop (mkF m 58 #[.val (.long if_), .second, .val (.long id_), .second, .val (.int iq), .val (.int (1 : Int32)), .val (.int (1 : Int32)), .val (.ref b99), .unset, .unset, .unset, .unset, .unset, .unset, .unset, .unset, .unset, .unset] [(.int (0 : Int32))]))
      refine Go.by (fun t k => XS.istore X109.here hx rfl (hb hby at_58) rfl (l' := #[.val (.long if_), .second, .val (.long id_), .second, .val (.int iq), .val (.int (1 : Int32)), .val (.int (1 : Int32)), .val (.ref b99), .val (.int (0 : Int32)), .unset, .unset, .unset, .unset, .unset, .unset, .unset, .unset, .unset]) rfl k) ?_
      show Go p e below _ (T109.setTop (mkF m 60 #[.val (.long if_), .second, .val (.long id_), .second, .val (.int iq), .val (.int (1 : Int32)), .val (.int (1 : Int32)), .val (.ref b99), .val (.int (0 : Int32)), .unset, .unset, .unset, .unset, .unset, .unset, .unset, .unset, .unset] []))
      refine Go.by (fun t k => XS.aload X109.here hx rfl (hb hby at_60) rfl rfl k) ?_
      show Go p e below _ (T109.setTop (mkF m 62 #[.val (.long if_), .second, .val (.long id_), .second, .val (.int iq), .val (.int (1 : Int32)), .val (.int (1 : Int32)), .val (.ref b99), .val (.int (0 : Int32)), .unset, .unset, .unset, .unset, .unset, .unset, .unset, .unset, .unset] [(.ref b99)]))
      obtain ⟨cq112, kq112, q112a, q112b, q112c⟩ := isOf hZ e109 F106_0
      obtain ⟨_, _, ⟨T112, L112, k112, n112⟩, -, X112, ⟨Lc112, hQ112, l112, y112, z112⟩, st112⟩ := X109.virtualBack hx (y := (⟨"com/example/queue_manager_rpc/queuemanagerrpc/Cursor", "current", "()Lcom/example/queue_manager_rpc/queuemanagerrpc/Position;"⟩ : MethodName)) (z := (⟨"com/example/queue_manager_rpc/queuemanagerrpc/Cursor", "current", "()Lcom/example/queue_manager_rpc/queuemanagerrpc/Position;"⟩ : MethodName)) hown (mvT hZ (hw _ (List.mem_of_getElem? (i := 23) rfl))) (mvT hZ (hw _ (List.mem_of_getElem? (i := 24) rfl))) (notFace_of_selects (args := #[]) (mvT hZ (hw _ (List.mem_of_getElem? (i := 26) rfl)))) (mvT hZ (hw _ (List.mem_of_getElem? (i := 26) rfl))) (mvT hZ (hw _ (List.mem_of_getElem? (i := 25) rfl))) (by decide) (backOf (W := 0) (cur0 l Z a0 hw [] b99 id_ kaf T106.heap n0 F110 P1 F106_2 F106_1) hZ (hw _ (List.mem_of_getElem? (i := 27) rfl)) (hw _ (List.mem_of_getElem? (i := 2) rfl)) (by decide) (by decide)) q112a q112c (g := (mkF m 62 #[.val (.long if_), .second, .val (.long id_), .second, .val (.int iq), .val (.int (1 : Int32)), .val (.int (1 : Int32)), .val (.ref b99), .val (.int (0 : Int32)), .unset, .unset, .unset, .unset, .unset, .unset, .unset, .unset, .unset] [(.ref b99)])) rfl (by rw [hml]; rfl) (Steps.refl _) (argsL := []) (rest := []) (lenOf pd_5 rfl) rfl (by show 2 * 0 + _ ≤ _; exact Nat.le_of_eq rfl) (hb hby at_62) (fun _ _ => ⟨rfl, e109, (by decide : 1 + 1 ≤ _), (by decide : 2 + 2 ≤ _)⟩)
      dsimp only [Pt.U, Pt.locs, Pt.cells, Pt.slots] at X112 l112 y112 z112 st112 hQ112
      subst l112 y112 z112
      obtain ⟨ob_112, rfl, N112q, K112, fz112_ob, F112_0, F112_1, F112_2⟩ := hQ112
      have N112 := Fr.app N109 N112q
      have ge_ob_112 : n0 ≤ ob_112 := Nat.le_trans (own_old_size F110) fz112_ob
      have sz_ob_112 : h0.size ≤ ob_112 := Nat.le_trans F111.1 fz112_ob
      have ne113 : b99 ≠ ob_112 := Nat.ne_of_lt (Nat.lt_of_lt_of_le F106_0.lt fz112_ob)
      refine Go.tr st112 ?_
      show Go p e below _ (T112.setTop (mkF m 65 #[.val (.long if_), .second, .val (.long id_), .second, .val (.int iq), .val (.int (1 : Int32)), .val (.int (1 : Int32)), .val (.ref b99), .val (.int (0 : Int32)), .unset, .unset, .unset, .unset, .unset, .unset, .unset, .unset, .unset] [(.ref ob_112)]))
      refine Go.by (fun t k => XS.astore X112.here hx rfl (hb hby at_65) rfl rfl (l' := #[.val (.long if_), .second, .val (.long id_), .second, .val (.int iq), .val (.int (1 : Int32)), .val (.int (1 : Int32)), .val (.ref b99), .val (.int (0 : Int32)), .val (.ref ob_112), .unset, .unset, .unset, .unset, .unset, .unset, .unset, .unset]) rfl k) ?_
      show Go p e below _ (T112.setTop (mkF m 67 #[.val (.long if_), .second, .val (.long id_), .second, .val (.int iq), .val (.int (1 : Int32)), .val (.int (1 : Int32)), .val (.ref b99), .val (.int (0 : Int32)), .val (.ref ob_112), .unset, .unset, .unset, .unset, .unset, .unset, .unset, .unset] []))
      refine Go.by (fun t k => XS.aload X112.here hx rfl (hb hby at_67) rfl rfl k) ?_
      show Go p e below _ (T112.setTop (mkF m 69 #[.val (.long if_), .second, .val (.long id_), .second, .val (.int iq), .val (.int (1 : Int32)), .val (.int (1 : Int32)), .val (.ref b99), .val (.int (0 : Int32)), .val (.ref ob_112), .unset, .unset, .unset, .unset, .unset, .unset, .unset, .unset] [(.ref ob_112)]))
      have F115 : Old Z n0 T112.heap := (F110.keep K112 all0)
      have F116 : Keep h0 T112.heap [] := (F111.trans K112 all0)
      obtain ⟨cq114, kq114, q114a, q114b, q114c⟩ := isOf hZ rfl F112_0
      obtain ⟨_, _, ⟨T114, L114, k114, n114⟩, -, X114, ⟨Lc114, hQ114, l114, y114, z114⟩, st114⟩ := X112.virtualBack hx (y := (⟨"com/example/queue_manager_rpc/queuemanagerrpc/Position", "kind", "()Lcom/example/queue_manager_rpc/queuemanagerrpc/Position$Kind;"⟩ : MethodName)) (z := (⟨"com/example/queue_manager_rpc/queuemanagerrpc/Position", "kind", "()Lcom/example/queue_manager_rpc/queuemanagerrpc/Position$Kind;"⟩ : MethodName)) hown (mvT hZ (hw _ (List.mem_of_getElem? (i := 45) rfl))) (mvT hZ (hw _ (List.mem_of_getElem? (i := 46) rfl))) (notFace_of_selects (args := #[]) (mvT hZ (hw _ (List.mem_of_getElem? (i := 48) rfl)))) (mvT hZ (hw _ (List.mem_of_getElem? (i := 48) rfl))) (mvT hZ (hw _ (List.mem_of_getElem? (i := 47) rfl))) (by decide) (backOf (W := 0) (kind l Z a0 hw [] ob_112 kaf T112.heap n0 F115 F112_1) hZ (hw _ (List.mem_of_getElem? (i := 49) rfl)) (hw _ (List.mem_of_getElem? (i := 30) rfl)) (by decide) (by decide)) q114a q114c (g := (mkF m 69 #[.val (.long if_), .second, .val (.long id_), .second, .val (.int iq), .val (.int (1 : Int32)), .val (.int (1 : Int32)), .val (.ref b99), .val (.int (0 : Int32)), .val (.ref ob_112), .unset, .unset, .unset, .unset, .unset, .unset, .unset, .unset] [(.ref ob_112)])) rfl (by rw [hml]; rfl) (Steps.refl _) (argsL := []) (rest := []) (lenOf pd_6 rfl) rfl (by show 2 * 0 + _ ≤ _; exact Nat.le_of_eq rfl) (hb hby at_69) (fun _ _ => ⟨rfl, rfl, (by decide : 2 + 0 ≤ _), (by decide : 4 + 0 ≤ _)⟩)
      dsimp only [Pt.U, Pt.locs, Pt.cells, Pt.slots] at X114 l114 y114 z114 st114 hQ114
      subst l114 y114 z114
      obtain ⟨rfl, N114q, e114⟩ := hQ114
      have N114 := Fr.app N112 N114q
      refine Go.tr st114 ?_
      show Go p e below _ (T114.setTop (mkF m 72 #[.val (.long if_), .second, .val (.long id_), .second, .val (.int iq), .val (.int (1 : Int32)), .val (.int (1 : Int32)), .val (.ref b99), .val (.int (0 : Int32)), .val (.ref ob_112), .unset, .unset, .unset, .unset, .unset, .unset, .unset, .unset] [(.ref kaf)]))
      refine Go.by (fun t k => XS.astore X114.here hx rfl (hb hby at_72) rfl rfl (l' := #[.val (.long if_), .second, .val (.long id_), .second, .val (.int iq), .val (.int (1 : Int32)), .val (.int (1 : Int32)), .val (.ref b99), .val (.int (0 : Int32)), .val (.ref ob_112), .val (.ref kaf), .unset, .unset, .unset, .unset, .unset, .unset, .unset]) rfl k) ?_
      show Go p e below _ (T114.setTop (mkF m 74 #[.val (.long if_), .second, .val (.long id_), .second, .val (.int iq), .val (.int (1 : Int32)), .val (.int (1 : Int32)), .val (.ref b99), .val (.int (0 : Int32)), .val (.ref ob_112), .val (.ref kaf), .unset, .unset, .unset, .unset, .unset, .unset, .unset] []))
      refine Go.by (fun t k => XS.aload X114.here hx rfl (hb hby at_74) rfl rfl k) ?_
      show Go p e below _ (T114.setTop (mkF m 76 #[.val (.long if_), .second, .val (.long id_), .second, .val (.int iq), .val (.int (1 : Int32)), .val (.int (1 : Int32)), .val (.ref b99), .val (.int (0 : Int32)), .val (.ref ob_112), .val (.ref kaf), .unset, .unset, .unset, .unset, .unset, .unset, .unset] [(.ref ob_112)]))
      obtain ⟨cq117, kq117, q117a, q117b, q117c⟩ := isOf hZ e114 F112_0
      obtain ⟨_, _, ⟨T117, L117, k117, n117⟩, -, X117, ⟨Lc117, hQ117, l117, y117, z117⟩, st117⟩ := X114.virtualBack hx (y := (⟨"com/example/queue_manager_rpc/queuemanagerrpc/Position", "lookupId", "()J"⟩ : MethodName)) (z := (⟨"com/example/queue_manager_rpc/queuemanagerrpc/Position", "lookupId", "()J"⟩ : MethodName)) hown (mvT hZ (hw _ (List.mem_of_getElem? (i := 50) rfl))) (mvT hZ (hw _ (List.mem_of_getElem? (i := 51) rfl))) (notFace_of_selects (args := #[]) (mvT hZ (hw _ (List.mem_of_getElem? (i := 53) rfl)))) (mvT hZ (hw _ (List.mem_of_getElem? (i := 53) rfl))) (mvT hZ (hw _ (List.mem_of_getElem? (i := 52) rfl))) (by decide) (backOf (W := 0) (lookupId l Z a0 hw [] ob_112 id_ T112.heap n0 F115 F112_2) hZ (hw _ (List.mem_of_getElem? (i := 54) rfl)) (hw _ (List.mem_of_getElem? (i := 30) rfl)) (by decide) (by decide)) q117a q117c (g := (mkF m 76 #[.val (.long if_), .second, .val (.long id_), .second, .val (.int iq), .val (.int (1 : Int32)), .val (.int (1 : Int32)), .val (.ref b99), .val (.int (0 : Int32)), .val (.ref ob_112), .val (.ref kaf), .unset, .unset, .unset, .unset, .unset, .unset, .unset] [(.ref ob_112)])) rfl (by rw [hml]; rfl) (Steps.refl _) (argsL := []) (rest := []) (lenOf pd_7 rfl) rfl (by show 2 * 0 + _ ≤ _; exact Nat.le_of_eq rfl) (hb hby at_76) (fun _ _ => ⟨rfl, e114, (by decide : 2 + 0 ≤ _), (by decide : 4 + 0 ≤ _)⟩)
      dsimp only [Pt.U, Pt.locs, Pt.cells, Pt.slots] at X117 l117 y117 z117 st117 hQ117
      subst l117 y117 z117
      obtain ⟨rfl, N117q, e117⟩ := hQ117
      have N117 := Fr.app N114 N117q
      refine Go.tr st117 ?_
      show Go p e below _ (T117.setTop (mkF m 79 #[.val (.long if_), .second, .val (.long id_), .second, .val (.int iq), .val (.int (1 : Int32)), .val (.int (1 : Int32)), .val (.ref b99), .val (.int (0 : Int32)), .val (.ref ob_112), .val (.ref kaf), .unset, .unset, .unset, .unset, .unset, .unset, .unset] [(.long id_)]))
      refine Go.by (fun t k => XS.lstore X117.here hx rfl (hb hby at_79) rfl (l' := #[.val (.long if_), .second, .val (.long id_), .second, .val (.int iq), .val (.int (1 : Int32)), .val (.int (1 : Int32)), .val (.ref b99), .val (.int (0 : Int32)), .val (.ref ob_112), .val (.ref kaf), .val (.long id_), .second, .unset, .unset, .unset, .unset, .unset]) rfl k) ?_
      show Go p e below _ (T117.setTop (mkF m 81 #[.val (.long if_), .second, .val (.long id_), .second, .val (.int iq), .val (.int (1 : Int32)), .val (.int (1 : Int32)), .val (.ref b99), .val (.int (0 : Int32)), .val (.ref ob_112), .val (.ref kaf), .val (.long id_), .second, .unset, .unset, .unset, .unset, .unset] []))
      refine Go.by (fun t k => XS.aload X117.here hx rfl (hb hby at_81) rfl rfl k) ?_
      show Go p e below _ (T117.setTop (mkF m 83 #[.val (.long if_), .second, .val (.long id_), .second, .val (.int iq), .val (.int (1 : Int32)), .val (.int (1 : Int32)), .val (.ref b99), .val (.int (0 : Int32)), .val (.ref ob_112), .val (.ref kaf), .val (.long id_), .second, .unset, .unset, .unset, .unset, .unset] [(.ref b99)]))
      have F119 : Fld Z T112.heap b99 "com/example/queue_manager_rpc/queuemanagerrpc/Cursor" "lookupId" "J" (.long id_) := (F106_1.keep K112 nin0)
      have F120 : Exa Z T112.heap b99 "com/example/queue_manager_rpc/queuemanagerrpc/Cursor" := (F106_0.keep K112)
      obtain ⟨cq118, kq118, q118a, q118b, q118c⟩ := isOf hZ e117 F120
      obtain ⟨_, _, ⟨T118, L118, k118, n118⟩, -, X118, ⟨Lc118, hQ118, l118, y118, z118⟩, st118⟩ := X117.virtualBack hx (y := (⟨"com/example/queue_manager_rpc/queuemanagerrpc/Cursor", "next", "()Lcom/example/queue_manager_rpc/queuemanagerrpc/Position;"⟩ : MethodName)) (z := (⟨"com/example/queue_manager_rpc/queuemanagerrpc/Cursor", "next", "()Lcom/example/queue_manager_rpc/queuemanagerrpc/Position;"⟩ : MethodName)) hown (mvT hZ (hw _ (List.mem_of_getElem? (i := 55) rfl))) (mvT hZ (hw _ (List.mem_of_getElem? (i := 56) rfl))) (notFace_of_selects (args := #[]) (mvT hZ (hw _ (List.mem_of_getElem? (i := 58) rfl)))) (mvT hZ (hw _ (List.mem_of_getElem? (i := 58) rfl))) (mvT hZ (hw _ (List.mem_of_getElem? (i := 57) rfl))) (by decide) (backOf (W := 0) (next l Z a0 hw [] b99 id_ kaf T112.heap n0 F115 P1 F119) hZ (hw _ (List.mem_of_getElem? (i := 59) rfl)) (hw _ (List.mem_of_getElem? (i := 2) rfl)) (by decide) (by decide)) q118a q118c (g := (mkF m 83 #[.val (.long if_), .second, .val (.long id_), .second, .val (.int iq), .val (.int (1 : Int32)), .val (.int (1 : Int32)), .val (.ref b99), .val (.int (0 : Int32)), .val (.ref ob_112), .val (.ref kaf), .val (.long id_), .second, .unset, .unset, .unset, .unset, .unset] [(.ref b99)])) rfl (by rw [hml]; rfl) (Steps.refl _) (argsL := []) (rest := []) (lenOf pd_5 rfl) rfl (by show 2 * 0 + _ ≤ _; exact Nat.le_of_eq rfl) (hb hby at_83) (fun _ _ => ⟨rfl, e117, (by decide : 2 + 1 ≤ _), (by decide : 4 + 2 ≤ _)⟩)
      dsimp only [Pt.U, Pt.locs, Pt.cells, Pt.slots] at X118 l118 y118 z118 st118 hQ118
      subst l118 y118 z118
      obtain ⟨ob_118, rfl, N118q, K118, fz118_ob, F118_0, F118_1, F118_2⟩ := hQ118
      have N118 := Fr.app N117 N118q
      have ge_ob_118 : n0 ≤ ob_118 := Nat.le_trans (own_old_size F115) fz118_ob
      have sz_ob_118 : h0.size ≤ ob_118 := Nat.le_trans F116.1 fz118_ob
      have ne121 : b99 ≠ ob_118 := Nat.ne_of_lt (Nat.lt_of_lt_of_le F120.lt fz118_ob)
      have ne122 : ob_112 ≠ ob_118 := Nat.ne_of_lt (Nat.lt_of_lt_of_le F112_0.lt fz118_ob)
      refine Go.tr st118 ?_
      show Go p e below _ (T118.setTop (mkF m 86 #[.val (.long if_), .second, .val (.long id_), .second, .val (.int iq), .val (.int (1 : Int32)), .val (.int (1 : Int32)), .val (.ref b99), .val (.int (0 : Int32)), .val (.ref ob_112), .val (.ref kaf), .val (.long id_), .second, .unset, .unset, .unset, .unset, .unset] [(.ref ob_118)]))
      refine Go.by (fun t k => XS.astore X118.here hx rfl (hb hby at_86) rfl rfl (l' := #[.val (.long if_), .second, .val (.long id_), .second, .val (.int iq), .val (.int (1 : Int32)), .val (.int (1 : Int32)), .val (.ref b99), .val (.int (0 : Int32)), .val (.ref ob_112), .val (.ref kaf), .val (.long id_), .second, .val (.ref ob_118), .unset, .unset, .unset, .unset]) rfl k) ?_
      show Go p e below _ (T118.setTop (mkF m 88 #[.val (.long if_), .second, .val (.long id_), .second, .val (.int iq), .val (.int (1 : Int32)), .val (.int (1 : Int32)), .val (.ref b99), .val (.int (0 : Int32)), .val (.ref ob_112), .val (.ref kaf), .val (.long id_), .second, .val (.ref ob_118), .unset, .unset, .unset, .unset] []))
      refine Go.by (fun t k => XS.aload X118.here hx rfl (hb hby at_88) rfl rfl k) ?_
      show Go p e below _ (T118.setTop (mkF m 90 #[.val (.long if_), .second, .val (.long id_), .second, .val (.int iq), .val (.int (1 : Int32)), .val (.int (1 : Int32)), .val (.ref b99), .val (.int (0 : Int32)), .val (.ref ob_112), .val (.ref kaf), .val (.long id_), .second, .val (.ref ob_118), .unset, .unset, .unset, .unset] [(.ref ob_118)]))
      have F124 : Old Z n0 T118.heap := (F115.keep K118 all0)
      have F125 : Keep h0 T118.heap [] := (F116.trans K118 all0)
      obtain ⟨cq123, kq123, q123a, q123b, q123c⟩ := isOf hZ rfl F118_0
      obtain ⟨_, _, ⟨T123, L123, k123, n123⟩, -, X123, ⟨Lc123, hQ123, l123, y123, z123⟩, st123⟩ := X118.virtualBack hx (y := (⟨"com/example/queue_manager_rpc/queuemanagerrpc/Position", "kind", "()Lcom/example/queue_manager_rpc/queuemanagerrpc/Position$Kind;"⟩ : MethodName)) (z := (⟨"com/example/queue_manager_rpc/queuemanagerrpc/Position", "kind", "()Lcom/example/queue_manager_rpc/queuemanagerrpc/Position$Kind;"⟩ : MethodName)) hown (mvT hZ (hw _ (List.mem_of_getElem? (i := 45) rfl))) (mvT hZ (hw _ (List.mem_of_getElem? (i := 46) rfl))) (notFace_of_selects (args := #[]) (mvT hZ (hw _ (List.mem_of_getElem? (i := 48) rfl)))) (mvT hZ (hw _ (List.mem_of_getElem? (i := 48) rfl))) (mvT hZ (hw _ (List.mem_of_getElem? (i := 47) rfl))) (by decide) (backOf (W := 0) (kind l Z a0 hw [] ob_118 kaf T118.heap n0 F124 F118_1) hZ (hw _ (List.mem_of_getElem? (i := 49) rfl)) (hw _ (List.mem_of_getElem? (i := 30) rfl)) (by decide) (by decide)) q123a q123c (g := (mkF m 90 #[.val (.long if_), .second, .val (.long id_), .second, .val (.int iq), .val (.int (1 : Int32)), .val (.int (1 : Int32)), .val (.ref b99), .val (.int (0 : Int32)), .val (.ref ob_112), .val (.ref kaf), .val (.long id_), .second, .val (.ref ob_118), .unset, .unset, .unset, .unset] [(.ref ob_118)])) rfl (by rw [hml]; rfl) (Steps.refl _) (argsL := []) (rest := []) (lenOf pd_6 rfl) rfl (by show 2 * 0 + _ ≤ _; exact Nat.le_of_eq rfl) (hb hby at_90) (fun _ _ => ⟨rfl, rfl, (by decide : 3 + 0 ≤ _), (by decide : 6 + 0 ≤ _)⟩)
      dsimp only [Pt.U, Pt.locs, Pt.cells, Pt.slots] at X123 l123 y123 z123 st123 hQ123
      subst l123 y123 z123
      obtain ⟨rfl, N123q, e123⟩ := hQ123
      have N123 := Fr.app N118 N123q
      refine Go.tr st123 ?_
      show Go p e below _ (T123.setTop (mkF m 93 #[.val (.long if_), .second, .val (.long id_), .second, .val (.int iq), .val (.int (1 : Int32)), .val (.int (1 : Int32)), .val (.ref b99), .val (.int (0 : Int32)), .val (.ref ob_112), .val (.ref kaf), .val (.long id_), .second, .val (.ref ob_118), .unset, .unset, .unset, .unset] [(.ref kaf)]))
      refine Go.by (fun t k => XS.astore X123.here hx rfl (hb hby at_93) rfl rfl (l' := #[.val (.long if_), .second, .val (.long id_), .second, .val (.int iq), .val (.int (1 : Int32)), .val (.int (1 : Int32)), .val (.ref b99), .val (.int (0 : Int32)), .val (.ref ob_112), .val (.ref kaf), .val (.long id_), .second, .val (.ref ob_118), .val (.ref kaf), .unset, .unset, .unset]) rfl k) ?_
      show Go p e below _ (T123.setTop (mkF m 95 #[.val (.long if_), .second, .val (.long id_), .second, .val (.int iq), .val (.int (1 : Int32)), .val (.int (1 : Int32)), .val (.ref b99), .val (.int (0 : Int32)), .val (.ref ob_112), .val (.ref kaf), .val (.long id_), .second, .val (.ref ob_118), .val (.ref kaf), .unset, .unset, .unset] []))
      refine Go.by (fun t k => XS.aload X123.here hx rfl (hb hby at_95) rfl rfl k) ?_
      show Go p e below _ (T123.setTop (mkF m 97 #[.val (.long if_), .second, .val (.long id_), .second, .val (.int iq), .val (.int (1 : Int32)), .val (.int (1 : Int32)), .val (.ref b99), .val (.int (0 : Int32)), .val (.ref ob_112), .val (.ref kaf), .val (.long id_), .second, .val (.ref ob_118), .val (.ref kaf), .unset, .unset, .unset] [(.ref ob_118)]))
      obtain ⟨cq126, kq126, q126a, q126b, q126c⟩ := isOf hZ e123 F118_0
      obtain ⟨_, _, ⟨T126, L126, k126, n126⟩, -, X126, ⟨Lc126, hQ126, l126, y126, z126⟩, st126⟩ := X123.virtualBack hx (y := (⟨"com/example/queue_manager_rpc/queuemanagerrpc/Position", "lookupId", "()J"⟩ : MethodName)) (z := (⟨"com/example/queue_manager_rpc/queuemanagerrpc/Position", "lookupId", "()J"⟩ : MethodName)) hown (mvT hZ (hw _ (List.mem_of_getElem? (i := 50) rfl))) (mvT hZ (hw _ (List.mem_of_getElem? (i := 51) rfl))) (notFace_of_selects (args := #[]) (mvT hZ (hw _ (List.mem_of_getElem? (i := 53) rfl)))) (mvT hZ (hw _ (List.mem_of_getElem? (i := 53) rfl))) (mvT hZ (hw _ (List.mem_of_getElem? (i := 52) rfl))) (by decide) (backOf (W := 0) (lookupId l Z a0 hw [] ob_118 id_ T118.heap n0 F124 F118_2) hZ (hw _ (List.mem_of_getElem? (i := 54) rfl)) (hw _ (List.mem_of_getElem? (i := 30) rfl)) (by decide) (by decide)) q126a q126c (g := (mkF m 97 #[.val (.long if_), .second, .val (.long id_), .second, .val (.int iq), .val (.int (1 : Int32)), .val (.int (1 : Int32)), .val (.ref b99), .val (.int (0 : Int32)), .val (.ref ob_112), .val (.ref kaf), .val (.long id_), .second, .val (.ref ob_118), .val (.ref kaf), .unset, .unset, .unset] [(.ref ob_118)])) rfl (by rw [hml]; rfl) (Steps.refl _) (argsL := []) (rest := []) (lenOf pd_7 rfl) rfl (by show 2 * 0 + _ ≤ _; exact Nat.le_of_eq rfl) (hb hby at_97) (fun _ _ => ⟨rfl, e123, (by decide : 3 + 0 ≤ _), (by decide : 6 + 0 ≤ _)⟩)
      dsimp only [Pt.U, Pt.locs, Pt.cells, Pt.slots] at X126 l126 y126 z126 st126 hQ126
      subst l126 y126 z126
      obtain ⟨rfl, N126q, e126⟩ := hQ126
      have N126 := Fr.app N123 N126q
      refine Go.tr st126 ?_
      show Go p e below _ (T126.setTop (mkF m 100 #[.val (.long if_), .second, .val (.long id_), .second, .val (.int iq), .val (.int (1 : Int32)), .val (.int (1 : Int32)), .val (.ref b99), .val (.int (0 : Int32)), .val (.ref ob_112), .val (.ref kaf), .val (.long id_), .second, .val (.ref ob_118), .val (.ref kaf), .unset, .unset, .unset] [(.long id_)]))
      refine Go.by (fun t k => XS.lstore X126.here hx rfl (hb hby at_100) rfl (l' := #[.val (.long if_), .second, .val (.long id_), .second, .val (.int iq), .val (.int (1 : Int32)), .val (.int (1 : Int32)), .val (.ref b99), .val (.int (0 : Int32)), .val (.ref ob_112), .val (.ref kaf), .val (.long id_), .second, .val (.ref ob_118), .val (.ref kaf), .val (.long id_), .second, .unset]) rfl k) ?_
      show Go p e below _ (T126.setTop (mkF m 102 #[.val (.long if_), .second, .val (.long id_), .second, .val (.int iq), .val (.int (1 : Int32)), .val (.int (1 : Int32)), .val (.ref b99), .val (.int (0 : Int32)), .val (.ref ob_112), .val (.ref kaf), .val (.long id_), .second, .val (.ref ob_118), .val (.ref kaf), .val (.long id_), .second, .unset] []))
      refine Go.by (fun t k => XS.iload X126.here hx rfl (hb hby at_102) rfl k) ?_
      show Go p e below _ (T126.setTop (mkF m 104 #[.val (.long if_), .second, .val (.long id_), .second, .val (.int iq), .val (.int (1 : Int32)), .val (.int (1 : Int32)), .val (.ref b99), .val (.int (0 : Int32)), .val (.ref ob_112), .val (.ref kaf), .val (.long id_), .second, .val (.ref ob_118), .val (.ref kaf), .val (.long id_), .second, .unset] [(.int (1 : Int32))]))
      refine Go.by (fun t k => XS.ifNo X126.here hx rfl (hb hby at_104) rfl ((if0 _ _).trans (feq (by decide : ¬ ((1 : Int32) = (0 : Int32)))).1) k) ?_
      show Go p e below _ (T126.setTop (mkF m 107 #[.val (.long if_), .second, .val (.long id_), .second, .val (.int iq), .val (.int (1 : Int32)), .val (.int (1 : Int32)), .val (.ref b99), .val (.int (0 : Int32)), .val (.ref ob_112), .val (.ref kaf), .val (.long id_), .second, .val (.ref ob_118), .val (.ref kaf), .val (.long id_), .second, .unset] []))
      have F127 : Sta Z T118.heap "com/example/queue_manager_rpc/queuemanagerrpc/Position$Kind" "AFTER" "Lcom/example/queue_manager_rpc/queuemanagerrpc/Position$Kind;" (.ref kaf) := P1.ext F124.2
      obtain ⟨T128, X128, e128, st128⟩ := getS2 X126 hx hZ hown (host := "") (Or.inl (hw _ (List.mem_of_getElem? (i := 66) rfl))) Via.refl e126 F127 (g := (mkF m 107 #[.val (.long if_), .second, .val (.long id_), .second, .val (.int iq), .val (.int (1 : Int32)), .val (.int (1 : Int32)), .val (.ref b99), .val (.int (0 : Int32)), .val (.ref ob_112), .val (.ref kaf), .val (.long id_), .second, .val (.ref ob_118), .val (.ref kaf), .val (.long id_), .second, .unset] [])) rfl (hb hby at_107)
      refine Go.by st128 ?_
      show Go p e below _ (T128.setTop (mkF m 110 #[.val (.long if_), .second, .val (.long id_), .second, .val (.int iq), .val (.int (1 : Int32)), .val (.int (1 : Int32)), .val (.ref b99), .val (.int (0 : Int32)), .val (.ref ob_112), .val (.ref kaf), .val (.long id_), .second, .val (.ref ob_118), .val (.ref kaf), .val (.long id_), .second, .unset] [(.ref kaf)]))
      refine Go.by (fun t k => XS.astore X128.here hx rfl (hb hby at_110) rfl rfl (l' := #[.val (.long if_), .second, .val (.long id_), .second, .val (.int iq), .val (.int (1 : Int32)), .val (.int (1 : Int32)), .val (.ref b99), .val (.int (0 : Int32)), .val (.ref ob_112), .val (.ref kaf), .val (.long id_), .second, .val (.ref ob_118), .val (.ref kaf), .val (.long id_), .second, .val (.ref kaf)]) rfl k) ?_
      show Go p e below _ (T128.setTop (mkF m 112 #[.val (.long if_), .second, .val (.long id_), .second, .val (.int iq), .val (.int (1 : Int32)), .val (.int (1 : Int32)), .val (.ref b99), .val (.int (0 : Int32)), .val (.ref ob_112), .val (.ref kaf), .val (.long id_), .second, .val (.ref ob_118), .val (.ref kaf), .val (.long id_), .second, .val (.ref kaf)] []))
      refine Go.by (fun t k => XS.goto X128.here hx rfl (pc0 := 112) (pc' := 120) rfl (hb hby at_112) (by decide) (by decide) k) ?_
      show Go p e below _ (T128.setTop (mkF m 120 #[.val (.long if_), .second, .val (.long id_), .second, .val (.int iq), .val (.int (1 : Int32)), .val (.int (1 : Int32)), .val (.ref b99), .val (.int (0 : Int32)), .val (.ref ob_112), .val (.ref kaf), .val (.long id_), .second, .val (.ref ob_118), .val (.ref kaf), .val (.long id_), .second, .val (.ref kaf)] []))
      refine Go.by (fun t k => XS.iload X128.here hx rfl (hb hby at_120) rfl k) ?_
      show Go p e below _ (T128.setTop (mkF m 122 #[.val (.long if_), .second, .val (.long id_), .second, .val (.int iq), .val (.int (1 : Int32)), .val (.int (1 : Int32)), .val (.ref b99), .val (.int (0 : Int32)), .val (.ref ob_112), .val (.ref kaf), .val (.long id_), .second, .val (.ref ob_118), .val (.ref kaf), .val (.long id_), .second, .val (.ref kaf)] [(.int (0 : Int32))]))
      refine Go.by (fun t k => XS.iload X128.here hx rfl (hb hby at_122) rfl k) ?_
      show Go p e below _ (T128.setTop (mkF m 124 #[.val (.long if_), .second, .val (.long id_), .second, .val (.int iq), .val (.int (1 : Int32)), .val (.int (1 : Int32)), .val (.ref b99), .val (.int (0 : Int32)), .val (.ref ob_112), .val (.ref kaf), .val (.long id_), .second, .val (.ref ob_118), .val (.ref kaf), .val (.long id_), .second, .val (.ref kaf)] [(.int (1 : Int32)), (.int (0 : Int32))]))
      refine Go.by (fun t k => XS.ifYes X128.here hx rfl (pc0 := 124) (pc' := 131) rfl (hb hby at_124) rfl ((if0 _ _).trans (feq (by decide : ¬ ((1 : Int32) = (0 : Int32)))).2) (by decide) (by decide) k) ?_
      show Go p e below _ (T128.setTop (mkF m 131 #[.val (.long if_), .second, .val (.long id_), .second, .val (.int iq), .val (.int (1 : Int32)), .val (.int (1 : Int32)), .val (.ref b99), .val (.int (0 : Int32)), .val (.ref ob_112), .val (.ref kaf), .val (.long id_), .second, .val (.ref ob_118), .val (.ref kaf), .val (.long id_), .second, .val (.ref kaf)] [(.int (0 : Int32))]))
      refine Go.by (fun t k => XS.iconst X128.here hx rfl (hb hby at_131) k) ?_
      show Go p e below _ (T128.setTop (mkF m 132 #[.val (.long if_), .second, .val (.long id_), .second, .val (.int iq), .val (.int (1 : Int32)), .val (.int (1 : Int32)), .val (.ref b99), .val (.int (0 : Int32)), .val (.ref ob_112), .val (.ref kaf), .val (.long id_), .second, .val (.ref ob_118), .val (.ref kaf), .val (.long id_), .second, .val (.ref kaf)] [(.int (0 : Int32)), (.int (0 : Int32))]))
      refine Go.by (fun t k => XS.icmpNo X128.here hx rfl (hb hby at_132) rfl (teq rfl).2 k) ?_
      show Go p e below _ (T128.setTop (mkF m 135 #[.val (.long if_), .second, .val (.long id_), .second, .val (.int iq), .val (.int (1 : Int32)), .val (.int (1 : Int32)), .val (.ref b99), .val (.int (0 : Int32)), .val (.ref ob_112), .val (.ref kaf), .val (.long id_), .second, .val (.ref ob_118), .val (.ref kaf), .val (.long id_), .second, .val (.ref kaf)] []))
      refine Go.by (fun t k => XS.aload X128.here hx rfl (hb hby at_135) rfl rfl k) ?_
      show Go p e below _ (T128.setTop (mkF m 137 #[.val (.long if_), .second, .val (.long id_), .second, .val (.int iq), .val (.int (1 : Int32)), .val (.int (1 : Int32)), .val (.ref b99), .val (.int (0 : Int32)), .val (.ref ob_112), .val (.ref kaf), .val (.long id_), .second, .val (.ref ob_118), .val (.ref kaf), .val (.long id_), .second, .val (.ref kaf)] [(.ref kaf)]))
      refine Go.by (fun t k => XS.aload X128.here hx rfl (hb hby at_137) rfl rfl k) ?_
      show Go p e below _ (T128.setTop (mkF m 139 #[.val (.long if_), .second, .val (.long id_), .second, .val (.int iq), .val (.int (1 : Int32)), .val (.int (1 : Int32)), .val (.ref b99), .val (.int (0 : Int32)), .val (.ref ob_112), .val (.ref kaf), .val (.long id_), .second, .val (.ref ob_118), .val (.ref kaf), .val (.long id_), .second, .val (.ref kaf)] [(.ref kaf), (.ref kaf)]))
      refine Go.by (fun t k => Jvm.RoadKit.acmp (g := (mkF m 139 #[.val (.long if_), .second, .val (.long id_), .second, .val (.int iq), .val (.int (1 : Int32)), .val (.int (1 : Int32)), .val (.ref b99), .val (.int (0 : Int32)), .val (.ref ob_112), .val (.ref kaf), .val (.long id_), .second, .val (.ref ob_118), .val (.ref kaf), .val (.long id_), .second, .val (.ref kaf)] [(.ref kaf), (.ref kaf)])) X128 hx rfl rfl rfl (pc0 := 139) (pc' := 142) (same := true) rfl (hb hby at_139) rfl (decide_eq_true rfl) (by decide) (by decide) k) ?_
      show Go p e below _ (T128.setTop (mkF m 142 #[.val (.long if_), .second, .val (.long id_), .second, .val (.int iq), .val (.int (1 : Int32)), .val (.int (1 : Int32)), .val (.ref b99), .val (.int (0 : Int32)), .val (.ref ob_112), .val (.ref kaf), .val (.long id_), .second, .val (.ref ob_118), .val (.ref kaf), .val (.long id_), .second, .val (.ref kaf)] []))
      refine Go.by (fun t k => XS.lload X128.here hx rfl (hb hby at_142) rfl k) ?_
      show Go p e below _ (T128.setTop (mkF m 144 #[.val (.long if_), .second, .val (.long id_), .second, .val (.int iq), .val (.int (1 : Int32)), .val (.int (1 : Int32)), .val (.ref b99), .val (.int (0 : Int32)), .val (.ref ob_112), .val (.ref kaf), .val (.long id_), .second, .val (.ref ob_118), .val (.ref kaf), .val (.long id_), .second, .val (.ref kaf)] [(.long id_)]))
      refine Go.by (fun t k => XS.lloadN X128.here hx rfl (hb hby at_144) rfl k) ?_
      show Go p e below _ (T128.setTop (mkF m 145 #[.val (.long if_), .second, .val (.long id_), .second, .val (.int iq), .val (.int (1 : Int32)), .val (.int (1 : Int32)), .val (.ref b99), .val (.int (0 : Int32)), .val (.ref ob_112), .val (.ref kaf), .val (.long id_), .second, .val (.ref ob_118), .val (.ref kaf), .val (.long id_), .second, .val (.ref kaf)] [(.long id_), (.long id_)]))
      refine Go.by (fun t k => XS.lcmp X128.here hx rfl (hb hby at_145) rfl k) ?_
      show Go p e below _ (T128.setTop (mkF m 146 #[.val (.long if_), .second, .val (.long id_), .second, .val (.int iq), .val (.int (1 : Int32)), .val (.int (1 : Int32)), .val (.ref b99), .val (.int (0 : Int32)), .val (.ref ob_112), .val (.ref kaf), .val (.long id_), .second, .val (.ref ob_118), .val (.ref kaf), .val (.long id_), .second, .val (.ref kaf)] [(.int (lcmpW id_ id_))]))
      refine Go.by (fun t k => XS.ifNo X128.here hx rfl (hb hby at_146) rfl ((if0 _ _).trans (teq ((lw_eq id_ id_).mpr rfl)).2) k) ?_
      show Go p e below _ (T128.setTop (mkF m 149 #[.val (.long if_), .second, .val (.long id_), .second, .val (.int iq), .val (.int (1 : Int32)), .val (.int (1 : Int32)), .val (.ref b99), .val (.int (0 : Int32)), .val (.ref ob_112), .val (.ref kaf), .val (.long id_), .second, .val (.ref ob_118), .val (.ref kaf), .val (.long id_), .second, .val (.ref kaf)] []))
      refine Go.by (fun t k => XS.aload X128.here hx rfl (hb hby at_149) rfl rfl k) ?_
      show Go p e below _ (T128.setTop (mkF m 151 #[.val (.long if_), .second, .val (.long id_), .second, .val (.int iq), .val (.int (1 : Int32)), .val (.int (1 : Int32)), .val (.ref b99), .val (.int (0 : Int32)), .val (.ref ob_112), .val (.ref kaf), .val (.long id_), .second, .val (.ref ob_118), .val (.ref kaf), .val (.long id_), .second, .val (.ref kaf)] [(.ref kaf)]))
      obtain ⟨T129, X129, e129, st129⟩ := getS2 X128 hx hZ hown (host := "") (Or.inl (hw _ (List.mem_of_getElem? (i := 66) rfl))) Via.refl e128 F127 (g := (mkF m 151 #[.val (.long if_), .second, .val (.long id_), .second, .val (.int iq), .val (.int (1 : Int32)), .val (.int (1 : Int32)), .val (.ref b99), .val (.int (0 : Int32)), .val (.ref ob_112), .val (.ref kaf), .val (.long id_), .second, .val (.ref ob_118), .val (.ref kaf), .val (.long id_), .second, .val (.ref kaf)] [(.ref kaf)])) rfl (hb hby at_151)
      refine Go.by st129 ?_
      show Go p e below _ (T129.setTop (mkF m 154 #[.val (.long if_), .second, .val (.long id_), .second, .val (.int iq), .val (.int (1 : Int32)), .val (.int (1 : Int32)), .val (.ref b99), .val (.int (0 : Int32)), .val (.ref ob_112), .val (.ref kaf), .val (.long id_), .second, .val (.ref ob_118), .val (.ref kaf), .val (.long id_), .second, .val (.ref kaf)] [(.ref kaf), (.ref kaf)]))
      refine Go.by (fun t k => Jvm.RoadKit.acmp (g := (mkF m 154 #[.val (.long if_), .second, .val (.long id_), .second, .val (.int iq), .val (.int (1 : Int32)), .val (.int (1 : Int32)), .val (.ref b99), .val (.int (0 : Int32)), .val (.ref ob_112), .val (.ref kaf), .val (.long id_), .second, .val (.ref ob_118), .val (.ref kaf), .val (.long id_), .second, .val (.ref kaf)] [(.ref kaf), (.ref kaf)])) X129 hx rfl rfl rfl (pc0 := 154) (pc' := 157) (same := true) rfl (hb hby at_154) rfl (decide_eq_true rfl) (by decide) (by decide) k) ?_
      show Go p e below _ (T129.setTop (mkF m 157 #[.val (.long if_), .second, .val (.long id_), .second, .val (.int iq), .val (.int (1 : Int32)), .val (.int (1 : Int32)), .val (.ref b99), .val (.int (0 : Int32)), .val (.ref ob_112), .val (.ref kaf), .val (.long id_), .second, .val (.ref ob_118), .val (.ref kaf), .val (.long id_), .second, .val (.ref kaf)] []))
      refine Go.by (fun t k => XS.lload X129.here hx rfl (hb hby at_157) rfl k) ?_
      show Go p e below _ (T129.setTop (mkF m 159 #[.val (.long if_), .second, .val (.long id_), .second, .val (.int iq), .val (.int (1 : Int32)), .val (.int (1 : Int32)), .val (.ref b99), .val (.int (0 : Int32)), .val (.ref ob_112), .val (.ref kaf), .val (.long id_), .second, .val (.ref ob_118), .val (.ref kaf), .val (.long id_), .second, .val (.ref kaf)] [(.long id_)]))
      refine Go.by (fun t k => XS.lloadN X129.here hx rfl (hb hby at_159) rfl k) ?_
      show Go p e below _ (T129.setTop (mkF m 160 #[.val (.long if_), .second, .val (.long id_), .second, .val (.int iq), .val (.int (1 : Int32)), .val (.int (1 : Int32)), .val (.ref b99), .val (.int (0 : Int32)), .val (.ref ob_112), .val (.ref kaf), .val (.long id_), .second, .val (.ref ob_118), .val (.ref kaf), .val (.long id_), .second, .val (.ref kaf)] [(.long id_), (.long id_)]))
      refine Go.by (fun t k => XS.lcmp X129.here hx rfl (hb hby at_160) rfl k) ?_
      show Go p e below _ (T129.setTop (mkF m 161 #[.val (.long if_), .second, .val (.long id_), .second, .val (.int iq), .val (.int (1 : Int32)), .val (.int (1 : Int32)), .val (.ref b99), .val (.int (0 : Int32)), .val (.ref ob_112), .val (.ref kaf), .val (.long id_), .second, .val (.ref ob_118), .val (.ref kaf), .val (.long id_), .second, .val (.ref kaf)] [(.int (lcmpW id_ id_))]))
      refine Go.by (fun t k => XS.ifNo X129.here hx rfl (hb hby at_161) rfl ((if0 _ _).trans (teq ((lw_eq id_ id_).mpr rfl)).2) k) ?_
      show Go p e below _ (T129.setTop (mkF m 164 #[.val (.long if_), .second, .val (.long id_), .second, .val (.int iq), .val (.int (1 : Int32)), .val (.int (1 : Int32)), .val (.ref b99), .val (.int (0 : Int32)), .val (.ref ob_112), .val (.ref kaf), .val (.long id_), .second, .val (.ref ob_118), .val (.ref kaf), .val (.long id_), .second, .val (.ref kaf)] []))
      refine Go.by (fun t k => XS.iconst X129.here hx rfl (hb hby at_164) k) ?_
      show Go p e below _ (T129.setTop (mkF m 165 #[.val (.long if_), .second, .val (.long id_), .second, .val (.int iq), .val (.int (1 : Int32)), .val (.int (1 : Int32)), .val (.ref b99), .val (.int (0 : Int32)), .val (.ref ob_112), .val (.ref kaf), .val (.long id_), .second, .val (.ref ob_118), .val (.ref kaf), .val (.long id_), .second, .val (.ref kaf)] [(.int (1 : Int32))]))
      refine Go.by (fun t k => XS.goto X129.here hx rfl (pc0 := 165) (pc' := 169) rfl (hb hby at_165) (by decide) (by decide) k) ?_
      show Go p e below _ (T129.setTop (mkF m 169 #[.val (.long if_), .second, .val (.long id_), .second, .val (.int iq), .val (.int (1 : Int32)), .val (.int (1 : Int32)), .val (.ref b99), .val (.int (0 : Int32)), .val (.ref ob_112), .val (.ref kaf), .val (.long id_), .second, .val (.ref ob_118), .val (.ref kaf), .val (.long id_), .second, .val (.ref kaf)] [(.int (1 : Int32))]))
      have hq : Q_law Z if_ id_ iq kat kaf h0 n0 (some (.int (nar .boolean (1 : Int32)))) T118.heap _ := ⟨rfl, N126, F125⟩
      exact Go.retN X129 hx (t := .boolean) Bd.returns (by simp) hlk (hb hby at_169) (by decide) (by decide) (by rw [e129]; exact hq)
set_option maxRecDepth 65536 in
set_option maxHeartbeats 40000000 in
theorem comes_1 {Post : Tables → Env → Array Value → State → Outcome → State → Prop} (hpost : ∀ tb e args s v u, (limb_1_1.after args s (.returned v) u = true ∧ limb_1_2.after args s (.returned v) u = true ∧ True) → FrameEnd s (.returned v) u (Jvm.fieldLocs frame_1_writes args s ++ Jvm.arrayLocs frame_1_arrays args s ++ Jvm.staticLocs frame_1_statics s) 16 128 → Post tb e args s (.returned v) u) :
    ArmFor flags0 classFile x code maxLocals ret World_1 tables_1 room_1 Calls_1 rest_1 Pre_1 Post := by
  intro l hfl _ _ p e ha hc hk s m args below hf hA hF happ hP
  obtain ⟨hcalls, hrest, hpre⟩ := hP
  obtain ⟨-, -, -, hnamed, -, -, -, hat⟩ := (Spec.applies_iff hf).mp happ
  obtain ⟨hg, hn⟩ := and_e (Cond.before_iff.mp (show (Jvm.Cond.and given_1 narrow_1).before args s = true from hpre))
  obtain ⟨hcnt, hr1⟩ := and_e hg
  obtain ⟨hv0, hr2⟩ := and_e hr1
  obtain ⟨hv1, hv2⟩ := and_e hr2
  obtain ⟨w0, w1, w2, rfl⟩ : ∃ w0 w1 w2 : Value, args = #[w0, w1, w2] := by
    have hs : args.size = 3 := by simpa [Cond.value, given_1] using hcnt
    obtain ⟨L⟩ := args
    match L, hs with
    | [w0, w1, w2], _ => exact ⟨w0, w1, w2, rfl⟩
  have hw := fun d (hd : d ∈ tables_1) => atoms_spec (ws := Jvm.Cond.code x code maxLocals ret :: tables_1) hat d (List.mem_cons_of_mem _ hd)
  have hfit : Fit s := fun {y c} hc i hi => by
    obtain ⟨ha, rfl⟩ := Array.getElem?_eq_some_iff.mp hc
    have q := List.all_eq_true.mp ((Array.all_eq_true_iff_forall_mem.mp hF) _ (Array.getElem_mem ha)) i (List.mem_range.mpr hi)
    simpa [Array.getElem?_eq_getElem hi] using q
  obtain ⟨i0, ei0⟩ := isL_v hv0
  obtain rfl : w0 = (.long i0) := Option.some.inj ei0
  obtain ⟨i1, ei1⟩ := isL_v hv1
  obtain rfl : w1 = (.long i1) := Option.some.inj ei1
  obtain ⟨i2, ei2⟩ := is_v hv2
  obtain rfl : w2 = (.int i2) := Option.some.inj ei2
  obtain ⟨hn1, hn2⟩ := and_e hn
  obtain ⟨kat, hs1⟩ := exa_v hn1
  have S1 := Sta.start hs1 (Or.inr ⟨(hw _ (List.mem_of_getElem? (i := 35) rfl)), (hw _ (List.mem_of_getElem? (i := 36) rfl))⟩)
  obtain ⟨kaf, hs2⟩ := exa_v hn2
  have S2 := Sta.start hs2 (Or.inr ⟨(hw _ (List.mem_of_getElem? (i := 35) rfl)), (hw _ (List.mem_of_getElem? (i := 64) rfl))⟩)
  obtain ⟨n, o, h1, h2, h3, _, L, rfl, ⟨rfl, N, -⟩, hq⟩ := law l s _ hw tables_1 i0 i1 i2 kat kaf s.heap s.heap.size (Old.start s) S1 S2 p e ha hc hk s m _ below hf ((Spec.applies_iff_loose hf).mp happ).1 ⟨rfl, State.Warmed39.refl s, rfl⟩ trivial
  refine ⟨n, _, h1, h2, h3, hpost _ _ _ _ _ _ ⟨Cond.after_iff.mpr rfl, Cond.after_iff.mpr (eq_i res_at (Term.int_eval (1)) rfl), trivial⟩ ⟨hq.1, hq.2.1, (hq.2.2.sift fun y hy => Or.inr (N y hy)).mono (by decide) (by decide)⟩⟩
theorem main_1_1 : Claimed_1_1 := comes_1 fun _ _ _ _ _ _ h hF => ⟨h.1, hF⟩
theorem main_1_2 : Claimed_1_2 := comes_1 fun _ _ _ _ _ _ h hF => ⟨h.2.1, hF⟩
end Jvm.Pilot.@@N@@
namespace Jvm.Pilot.@@N@@
open Jvm Jvm.ClassFile Sem Op Lib Jvm.Free Jvm.Stand Jvm.Pilot.@@N@@.Jvm.D
/-! MADE BY PROGRAM (witnessworld.py) out of the Statement's table words and the real class files: 14 classes; the members and pool entries that the words name. The judged class is class 1, her method 1. -/
namespace start1
open Jvm.ClassFile
def u (s : String) : CpInfo := .utf8 (stringToUtf16 s)
/-- a pool by its gaps: so many unusable entries, then the entry; so many at the end -/
def gap : Nat → List CpInfo → List CpInfo
  | 0, r => r
  | n + 1, r => .unusable :: gap n r
def poolList (es : List (Nat × CpInfo)) (last : Nat) : List CpInfo := es.foldr (fun e r => gap e.1 (e.2 :: r)) (gap last [])
def pool (es : List (Nat × CpInfo)) (last : Nat) : Array CpInfo := ⟨poolList es last⟩
def fileOf (pool : Array CpInfo) (this : Nat) (attrs : Array Attribute := #[]) (ms : Array MethodInfo := #[]) (fl : Nat := 33) (sup : Nat := 0) (ifs : Array Nat := #[]) (fds : Array FieldInfo := #[]) : ClassFile where
  minorVersion := 0
  majorVersion := 65
  constantPool := pool
  accessFlags := fl
  thisClass := this
  superClass := sup
  interfaces := ifs
  fields := fds
  methods := ms
  attributes := attrs
def plain (name : String) (sup : Option ClassId) : Class where
  name := name
  kind := .ordinary
  loader := none
  accessFlags := 33
  super := sup
  interfaces := #[]
  cf := none
  fields := #[]
  methods := #[]
  instanceTypes := #[]
  staticTypes := #[]
  resolved := #[]
  callSites := []
  init := .initialized
  statics := none
  mirror := none

def pool0 : Array CpInfo := pool [(5, u "<init>"), (0, u "()V"), (1, .class_ 10), (1, u "java/lang/Object")] 113

def k0c0 : Code := { maxStack := 0, maxLocals := 1, code := object_method_1_code, exceptionTable := #[], attributes := #[] }
def k0m0 : Method := { name := "<init>", desc := "()V", sig := { parameters := [], returnType := none }, accessFlags := 1, code := some k0c0 }
/-- java/lang/Object -/
def k0 : Class := { plain "java/lang/Object" none with
  accessFlags := 33
  interfaces := #[]
  cf := some (fileOf pool0 8 #[] #[{ accessFlags := 1, nameIndex := 5, descriptorIndex := 6, attributes := #[] }] 33 0 #[] #[])
  fields := #[]
  methods := #[k0m0]
  instanceTypes := #[]
  staticTypes := #[]
  resolved := Array.replicate 124 none
  statics := none }

def pool1 : Array CpInfo := pool [(2, .class_ 4), (0, .nameAndType 5 6), (0, u "java/lang/Object"), (0, u "<init>"), (0, u "()V"), (0, .class_ 8), (0, u "com/example/queue_manager_rpc/queuemanagerrpc/Cursor"), (0, .methodref 7 3), (0, .methodref 7 11), (0, .nameAndType 12 13), (0, u "moveTo"), (0, u "(JZ)V"), (0, .methodref 7 15), (0, .nameAndType 16 17), (0, u "isOnMessage"), (0, u "()Z"), (0, .methodref 7 19), (0, .nameAndType 20 21), (0, u "current"), (0, u "()Lcom/example/queue_manager_rpc/queuemanagerrpc/Position;"), (0, .methodref 23 24), (0, .class_ 25), (0, .nameAndType 26 27), (0, u "com/example/queue_manager_rpc/queuemanagerrpc/Position"), (0, u "kind"), (0, u "()Lcom/example/queue_manager_rpc/queuemanagerrpc/Position$Kind;"), (0, .methodref 23 29), (0, .nameAndType 30 31), (0, u "lookupId"), (0, u "()J"), (0, .methodref 7 33), (0, .nameAndType 34 21), (0, u "next"), (0, .fieldref 36 37), (0, .class_ 38), (0, .nameAndType 39 40), (0, u "com/example/queue_manager_rpc/queuemanagerrpc/Position$Kind"), (0, u "AFTER"), (0, u "Lcom/example/queue_manager_rpc/queuemanagerrpc/Position$Kind;"), (0, .fieldref 36 42), (0, .nameAndType 43 40), (0, u "AT"), (0, .class_ 45), (0, u "com/example/queue_manager_rpc/queuemanagerrpc/CursorMoveToPinLaw"), (2, u "law"), (0, u "(JJI)Z")] 5

def k1m0 : Method := { name := "<init>", desc := "()V", sig := { parameters := [], returnType := none }, accessFlags := 2, code := none }
def k1c1 : Code := { maxStack := 4, maxLocals := 18, code := code, exceptionTable := #[], attributes := #[] }
def k1m1 : Method := { name := "law", desc := "(JJI)Z", sig := { parameters := [.long, .long, .int], returnType := some .boolean }, accessFlags := 9, code := some k1c1 }
/-- com/example/queue_manager_rpc/queuemanagerrpc/CursorMoveToPinLaw -/
def k1 : Class := { plain "com/example/queue_manager_rpc/queuemanagerrpc/CursorMoveToPinLaw" (some 0) with
  accessFlags := 49
  interfaces := #[]
  cf := some (fileOf pool1 44 #[] #[{ accessFlags := 2, nameIndex := 5, descriptorIndex := 6, attributes := #[] }, { accessFlags := 9, nameIndex := 48, descriptorIndex := 49, attributes := #[] }] 49 2 #[] #[])
  fields := #[]
  methods := #[k1m0, k1m1]
  instanceTypes := #[]
  staticTypes := #[]
  resolved := Array.replicate 55 none
  statics := none }

def pool2 : Array CpInfo := pool [(1, .methodref 2 3), (0, .class_ 4), (0, .nameAndType 5 6), (0, u "java/lang/Object"), (0, u "<init>"), (0, u "()V"), (0, .fieldref 8 9), (0, .class_ 10), (0, .nameAndType 11 12), (0, u "com/example/queue_manager_rpc/queuemanagerrpc/Cursor"), (0, u "onMessage"), (0, u "Z"), (0, .fieldref 8 14), (0, .nameAndType 15 16), (0, u "lookupId"), (0, u "J"), (0, .methodref 18 19), (0, .class_ 20), (0, .nameAndType 21 22), (0, u "com/example/queue_manager_rpc/queuemanagerrpc/Position"), (0, u "at"), (0, u "(J)Lcom/example/queue_manager_rpc/queuemanagerrpc/Position;"), (0, .methodref 18 24), (0, .nameAndType 25 22), (0, u "after"), (2, u "current"), (0, u "()Lcom/example/queue_manager_rpc/queuemanagerrpc/Position;"), (1, u "next"), (0, u "isOnMessage"), (0, u "()Z"), (0, u "moveTo"), (0, u "(JZ)V")] 2

def k2c0 : Code := { maxStack := 1, maxLocals := 1, code := prog_5_method_1_code, exceptionTable := #[], attributes := #[] }
def k2m0 : Method := { name := "<init>", desc := "()V", sig := { parameters := [], returnType := none }, accessFlags := 0, code := some k2c0 }
def k2c1 : Code := { maxStack := 2, maxLocals := 1, code := prog_5_method_2_code, exceptionTable := #[], attributes := #[] }
def k2m1 : Method := { name := "current", desc := "()Lcom/example/queue_manager_rpc/queuemanagerrpc/Position;", sig := { parameters := [], returnType := some (.object "com/example/queue_manager_rpc/queuemanagerrpc/Position") }, accessFlags := 0, code := some k2c1 }
def k2c2 : Code := { maxStack := 2, maxLocals := 1, code := prog_5_method_3_code, exceptionTable := #[], attributes := #[] }
def k2m2 : Method := { name := "next", desc := "()Lcom/example/queue_manager_rpc/queuemanagerrpc/Position;", sig := { parameters := [], returnType := some (.object "com/example/queue_manager_rpc/queuemanagerrpc/Position") }, accessFlags := 0, code := some k2c2 }
def k2c3 : Code := { maxStack := 1, maxLocals := 1, code := prog_5_method_4_code, exceptionTable := #[], attributes := #[] }
def k2m3 : Method := { name := "isOnMessage", desc := "()Z", sig := { parameters := [], returnType := some .boolean }, accessFlags := 0, code := some k2c3 }
def k2c4 : Code := { maxStack := 3, maxLocals := 4, code := prog_5_method_5_code, exceptionTable := #[], attributes := #[] }
def k2m4 : Method := { name := "moveTo", desc := "(JZ)V", sig := { parameters := [.long, .boolean], returnType := none }, accessFlags := 0, code := some k2c4 }
/-- com/example/queue_manager_rpc/queuemanagerrpc/Cursor -/
def k2 : Class := { plain "com/example/queue_manager_rpc/queuemanagerrpc/Cursor" (some 0) with
  accessFlags := 49
  interfaces := #[]
  cf := some (fileOf pool2 8 #[] #[{ accessFlags := 0, nameIndex := 5, descriptorIndex := 6, attributes := #[] }, { accessFlags := 0, nameIndex := 28, descriptorIndex := 29, attributes := #[] }, { accessFlags := 0, nameIndex := 31, descriptorIndex := 29, attributes := #[] }, { accessFlags := 0, nameIndex := 32, descriptorIndex := 33, attributes := #[] }, { accessFlags := 0, nameIndex := 34, descriptorIndex := 35, attributes := #[] }] 49 2 #[] #[{ accessFlags := 2, nameIndex := 15, descriptorIndex := 16, attributes := #[] }, { accessFlags := 2, nameIndex := 11, descriptorIndex := 12, attributes := #[] }])
  fields := #[{ name := "lookupId", type := .long, accessFlags := 2, slot := 0, constantValue := 0 }, { name := "onMessage", type := .boolean, accessFlags := 2, slot := 1, constantValue := 0 }]
  methods := #[k2m0, k2m1, k2m2, k2m3, k2m4]
  instanceTypes := #[.long, .boolean]
  staticTypes := #[]
  resolved := Array.replicate 38 none
  statics := none }

def pool3 : Array CpInfo := pool [(1, .methodref 2 3), (0, .class_ 4), (0, .nameAndType 5 6), (0, u "java/lang/Object"), (0, u "<init>"), (0, u "()V"), (0, .fieldref 8 9), (0, .class_ 10), (0, .nameAndType 11 12), (0, u "com/example/queue_manager_rpc/queuemanagerrpc/Position"), (0, u "kind"), (0, u "Lcom/example/queue_manager_rpc/queuemanagerrpc/Position$Kind;"), (0, .fieldref 8 14), (0, .nameAndType 15 16), (0, u "lookupId"), (0, u "J"), (0, .fieldref 18 19), (0, .class_ 20), (0, .nameAndType 21 12), (0, u "com/example/queue_manager_rpc/queuemanagerrpc/Position$Kind"), (0, u "AT"), (0, .methodref 8 23), (0, .nameAndType 5 24), (0, u "(Lcom/example/queue_manager_rpc/queuemanagerrpc/Position$Kind;J)V"), (0, .fieldref 18 26), (0, .nameAndType 27 12), (0, u "AFTER"), (5, u "after"), (0, u "(J)Lcom/example/queue_manager_rpc/queuemanagerrpc/Position;"), (2, u "FRONT"), (0, u "Lcom/example/queue_manager_rpc/queuemanagerrpc/Position;"), (2, u "at"), (4, u "()Lcom/example/queue_manager_rpc/queuemanagerrpc/Position$Kind;"), (0, u "()J")] 6

def k3c0 : Code := { maxStack := 3, maxLocals := 4, code := prog_10_method_1_code, exceptionTable := #[], attributes := #[] }
def k3m0 : Method := { name := "<init>", desc := "(Lcom/example/queue_manager_rpc/queuemanagerrpc/Position$Kind;J)V", sig := { parameters := [(.object "com/example/queue_manager_rpc/queuemanagerrpc/Position$Kind"), .long], returnType := none }, accessFlags := 2, code := some k3c0 }
def k3c1 : Code := { maxStack := 5, maxLocals := 2, code := prog_10_method_2_code, exceptionTable := #[], attributes := #[] }
def k3m1 : Method := { name := "at", desc := "(J)Lcom/example/queue_manager_rpc/queuemanagerrpc/Position;", sig := { parameters := [.long], returnType := some (.object "com/example/queue_manager_rpc/queuemanagerrpc/Position") }, accessFlags := 9, code := some k3c1 }
def k3c2 : Code := { maxStack := 5, maxLocals := 2, code := prog_10_method_3_code, exceptionTable := #[], attributes := #[] }
def k3m2 : Method := { name := "after", desc := "(J)Lcom/example/queue_manager_rpc/queuemanagerrpc/Position;", sig := { parameters := [.long], returnType := some (.object "com/example/queue_manager_rpc/queuemanagerrpc/Position") }, accessFlags := 9, code := some k3c2 }
def k3c3 : Code := { maxStack := 1, maxLocals := 1, code := prog_10_method_6_code, exceptionTable := #[], attributes := #[] }
def k3m3 : Method := { name := "kind", desc := "()Lcom/example/queue_manager_rpc/queuemanagerrpc/Position$Kind;", sig := { parameters := [], returnType := some (.object "com/example/queue_manager_rpc/queuemanagerrpc/Position$Kind") }, accessFlags := 0, code := some k3c3 }
def k3c4 : Code := { maxStack := 2, maxLocals := 1, code := prog_10_method_7_code, exceptionTable := #[], attributes := #[] }
def k3m4 : Method := { name := "lookupId", desc := "()J", sig := { parameters := [], returnType := some .long }, accessFlags := 0, code := some k3c4 }
/-- com/example/queue_manager_rpc/queuemanagerrpc/Position -/
def k3 : Class := { plain "com/example/queue_manager_rpc/queuemanagerrpc/Position" (some 0) with
  accessFlags := 49
  interfaces := #[]
  cf := some (fileOf pool3 8 #[.nestMembers #[18]] #[{ accessFlags := 2, nameIndex := 5, descriptorIndex := 24, attributes := #[] }, { accessFlags := 9, nameIndex := 41, descriptorIndex := 34, attributes := #[] }, { accessFlags := 9, nameIndex := 33, descriptorIndex := 34, attributes := #[] }, { accessFlags := 0, nameIndex := 11, descriptorIndex := 46, attributes := #[] }, { accessFlags := 0, nameIndex := 15, descriptorIndex := 47, attributes := #[] }] 49 2 #[] #[{ accessFlags := 25, nameIndex := 37, descriptorIndex := 38, attributes := #[] }, { accessFlags := 18, nameIndex := 11, descriptorIndex := 12, attributes := #[] }, { accessFlags := 18, nameIndex := 15, descriptorIndex := 16, attributes := #[] }])
  fields := #[{ name := "FRONT", type := (.object "com/example/queue_manager_rpc/queuemanagerrpc/Position"), accessFlags := 25, slot := 0, constantValue := 0 }, { name := "kind", type := (.object "com/example/queue_manager_rpc/queuemanagerrpc/Position$Kind"), accessFlags := 18, slot := 0, constantValue := 0 }, { name := "lookupId", type := .long, accessFlags := 18, slot := 1, constantValue := 0 }]
  methods := #[k3m0, k3m1, k3m2, k3m3, k3m4]
  instanceTypes := #[(.object "com/example/queue_manager_rpc/queuemanagerrpc/Position$Kind"), .long]
  staticTypes := #[(.object "com/example/queue_manager_rpc/queuemanagerrpc/Position")]
  resolved := Array.replicate 54 none
  statics := none }

def pool4 : Array CpInfo := pool [(1, .class_ 2), (0, u "java/lang/constant/Constable"), (0, .class_ 4), (0, u "java/lang/Object")] 6

/-- java/lang/constant/Constable -/
def k4 : Class := { plain "java/lang/constant/Constable" (some 0) with
  accessFlags := 1537
  interfaces := #[]
  cf := some (fileOf pool4 1 #[] #[] 1537 3 #[] #[])
  fields := #[]
  methods := #[]
  instanceTypes := #[]
  staticTypes := #[]
  resolved := Array.replicate 11 none
  statics := none }

def pool5 : Array CpInfo := pool [(1, .class_ 2), (0, u "java/lang/Comparable"), (0, .class_ 4), (0, u "java/lang/Object")] 7

/-- java/lang/Comparable -/
def k5 : Class := { plain "java/lang/Comparable" (some 0) with
  accessFlags := 1537
  interfaces := #[]
  cf := some (fileOf pool5 1 #[] #[] 1537 3 #[] #[])
  fields := #[]
  methods := #[]
  instanceTypes := #[]
  staticTypes := #[]
  resolved := Array.replicate 12 none
  statics := none }

def pool6 : Array CpInfo := pool [(1, .class_ 2), (0, u "java/io/Serializable"), (0, .class_ 4), (0, u "java/lang/Object")] 2

/-- java/io/Serializable -/
def k6 : Class := { plain "java/io/Serializable" (some 0) with
  accessFlags := 1537
  interfaces := #[]
  cf := some (fileOf pool6 1 #[] #[] 1537 3 #[] #[])
  fields := #[]
  methods := #[]
  instanceTypes := #[]
  staticTypes := #[]
  resolved := Array.replicate 7 none
  statics := none }

def pool7 : Array CpInfo := pool [(2, .class_ 4), (1, u "java/lang/Enum"), (0, u "name"), (0, u "Ljava/lang/String;"), (2, u "ordinal"), (0, u "I"), (1, .class_ 14), (1, u "java/lang/Object"), (4, u "hash"), (86, .class_ 108), (1, u "java/lang/Enum$EnumDesc"), (2, .class_ 112), (0, u "java/lang/constant/Constable"), (0, .class_ 114), (0, u "java/lang/Comparable"), (0, .class_ 116), (0, u "java/io/Serializable")] 87

/-- java/lang/Enum -/
def k7 : Class := { plain "java/lang/Enum" (some 0) with
  accessFlags := 1057
  interfaces := #[4, 5, 6]
  cf := some (fileOf pool7 2 #[.nestMembers #[106]] #[] 1057 12 #[111, 113, 115] #[{ accessFlags := 18, nameIndex := 5, descriptorIndex := 6, attributes := #[] }, { accessFlags := 18, nameIndex := 9, descriptorIndex := 10, attributes := #[] }, { accessFlags := 2, nameIndex := 19, descriptorIndex := 10, attributes := #[] }])
  fields := #[{ name := "name", type := (.object "java/lang/String"), accessFlags := 18, slot := 0, constantValue := 0 }, { name := "ordinal", type := .int, accessFlags := 18, slot := 1, constantValue := 0 }, { name := "hash", type := .int, accessFlags := 2, slot := 2, constantValue := 0 }]
  methods := #[]
  instanceTypes := #[(.object "java/lang/String"), .int, .int]
  staticTypes := #[]
  resolved := Array.replicate 204 none
  statics := none }

def pool8 : Array CpInfo := pool [(1, .class_ 2), (0, u "com/example/queue_manager_rpc/queuemanagerrpc/Position$Kind"), (2, u "AT"), (0, u "Lcom/example/queue_manager_rpc/queuemanagerrpc/Position$Kind;"), (2, u "AFTER"), (2, u "BEFORE"), (2, u "$VALUES"), (0, u "[Lcom/example/queue_manager_rpc/queuemanagerrpc/Position$Kind;"), (6, .class_ 25), (1, u "java/lang/Enum"), (26, .class_ 53), (0, u "com/example/queue_manager_rpc/queuemanagerrpc/Position")] 2

/-- com/example/queue_manager_rpc/queuemanagerrpc/Position$Kind -/
def k8 : Class := { plain "com/example/queue_manager_rpc/queuemanagerrpc/Position$Kind" (some 7) with
  accessFlags := 16432
  interfaces := #[]
  cf := some (fileOf pool8 1 #[.nestHost 52] #[] 16432 23 #[] #[{ accessFlags := 16409, nameIndex := 5, descriptorIndex := 6, attributes := #[] }, { accessFlags := 16409, nameIndex := 9, descriptorIndex := 6, attributes := #[] }, { accessFlags := 16409, nameIndex := 12, descriptorIndex := 6, attributes := #[] }, { accessFlags := 4122, nameIndex := 15, descriptorIndex := 16, attributes := #[] }])
  fields := #[{ name := "AT", type := (.object "com/example/queue_manager_rpc/queuemanagerrpc/Position$Kind"), accessFlags := 16409, slot := 0, constantValue := 0 }, { name := "AFTER", type := (.object "com/example/queue_manager_rpc/queuemanagerrpc/Position$Kind"), accessFlags := 16409, slot := 1, constantValue := 0 }, { name := "BEFORE", type := (.object "com/example/queue_manager_rpc/queuemanagerrpc/Position$Kind"), accessFlags := 16409, slot := 2, constantValue := 0 }, { name := "$VALUES", type := (.array (.object "com/example/queue_manager_rpc/queuemanagerrpc/Position$Kind")), accessFlags := 4122, slot := 3, constantValue := 0 }]
  methods := #[]
  instanceTypes := #[(.object "java/lang/String"), .int, .int]
  staticTypes := #[(.object "com/example/queue_manager_rpc/queuemanagerrpc/Position$Kind"), (.object "com/example/queue_manager_rpc/queuemanagerrpc/Position$Kind"), (.object "com/example/queue_manager_rpc/queuemanagerrpc/Position$Kind"), (.array (.object "com/example/queue_manager_rpc/queuemanagerrpc/Position$Kind"))]
  resolved := Array.replicate 56 none
  statics := some 0 }

def pool9 : Array CpInfo := pool [(1, u "java/lang/Cloneable"), (0, .class_ 1), (0, u "java/lang/Object"), (0, .class_ 3)] 3

/-- java/lang/Cloneable -/
def k9 : Class := { plain "java/lang/Cloneable" (some 0) with
  accessFlags := 1537
  interfaces := #[]
  cf := some (fileOf pool9 2 #[] #[] 1537 4 #[] #[])
  fields := #[]
  methods := #[]
  instanceTypes := #[]
  staticTypes := #[]
  resolved := Array.replicate 8 none
  statics := none }

/-- the primitive byte -/
def k10 : Class := { plain "byte" none with kind := .primitive 'B', accessFlags := 0x411 }
/-- [B -/
def k11 : Class := { plain "[B" (some 0) with kind := .array 10 .byte, interfaces := #[9, 6], accessFlags := 1041 }

/-- the primitive int -/
def k12 : Class := { plain "int" none with kind := .primitive 'I', accessFlags := 0x411 }
/-- [I -/
def k13 : Class := { plain "[I" (some 0) with kind := .array 12 .int, interfaces := #[9, 6], accessFlags := 1041 }

def heap : Heap := #[{ cls := 8, slots := #[.ref 1, .ref 2, .null, .null], vm := .statics 8 },
  { cls := 8, slots := #[.null, .int 0, .int 0], vm := .none },
  { cls := 8, slots := #[.null, .int 1, .int 0], vm := .none }]
def classes : Array Class := #[k0, k1, k2, k3, k4, k5, k6, k7, k8, k9, k10, k11, k12, k13]
def interned : List (Array UInt16 × Addr) := []
def slotsUsed : Nat := 10
def theMethod : MethodId := ⟨1, 1⟩
def args0 : Array Value := #[.long 5, .long 6, .int 7]
def aboutOver (below : List Frame) : State where
  vm := { classes := classes, interned := interned.toArray }
  heap := heap
  slotsUsed := slotsUsed
  threads := #[{ frames := .invoking theMethod args0 :: below }]
def below0 : List Frame := [.native { method := ⟨0, 0⟩, args := #[] }]
def about1 : State := aboutOver below0
def p0 : Program := .bare "" "" ""
def e0 : Env := launch0.env 0 0 0
theorem w_frames : about1.frames = Frame.invoking theMethod args0 :: below0 := rfl
set_option maxRecDepth 65536 in
theorem w_args : argsFit about1.vm theMethod args0 = true := by decide +kernel
set_option maxRecDepth 65536 in
theorem w_heap : heapFits about1 = true := by decide +kernel
set_option maxRecDepth 65536 in
theorem w_runnable : about1.curStatus? = some .runnable := by decide +kernel
set_option maxRecDepth 65536 in
theorem w_alone : about1.alone = true := by decide +kernel
set_option maxRecDepth 65536 in
theorem w_named : about1.methodNamed? x = some theMethod := by decide +kernel
set_option maxRecDepth 65536 in
theorem w_hears : about1.hears theMethod below0 = true := by decide +kernel
set_option maxRecDepth 65536 in
theorem w_ripe : about1.ripe theMethod args0 below0 = true := by decide +kernel
theorem w_running : about1.status = .running := rfl
set_option maxRecDepth 65536 in
theorem w_room : about1.hasRoom e0.platform room_1 = true :=
  launch0.hasRoom_least _ room_1 (by decide +kernel) (by decide +kernel) (by decide +kernel) (by decide +kernel) (by decide +kernel) (by decide +kernel)
theorem allAtoms_all (ts : List Jvm.Cond) (a : Array Jvm.Value) (st : Jvm.State) : (allAtoms ts).before a st = ts.all (fun c => c.before a st) := by
  induction ts with
  | nil => rfl
  | cons c t ih =>
    show (Jvm.Cond.and c (allAtoms t)).before a st = _
    rw [Jvm.Cond.before_and, ih, List.all_cons]
def words1 : List Jvm.Cond := Jvm.Cond.code x code maxLocals ret :: tables_1
/-- a 'code' word, met by the world's own term for the bytes: nothing is compared byte by byte -/
theorem code_word {y : MethodName} {bytes : ByteArray} {mx : Nat} {rt : Option FieldType} {a : Array Value} {s : State} {m : MethodId} {meth : Method} {c : Code} (h1 : s.methodNamed? y = some m) (h2 : s.vm.method? m = some meth) (h3 : meth.code = some c) (h4 : c.code = bytes)
    (h5 : (c.maxLocals == mx && c.exceptionTable.isEmpty && decide (c.maxStack ≤ mostOperands) && decide (meth.sig.returnType = rt) && !meth.locks && decide (parseMethodDescriptor y.desc = some meth.sig)) = true) : (Jvm.Cond.code y bytes mx rt).before a s = true := by
  simp only [Bool.and_eq_true, beq_iff_eq, Bool.not_eq_true', decide_eq_true_eq] at h5
  obtain ⟨⟨⟨⟨⟨g1, g2⟩, g3⟩, g4⟩, g5⟩, g6⟩ := h5
  simp [Cond.before, Cond.holds, Cond.value, h1, h2, h3, h4, g1, g2, g3, g4, g5, g6]
def isCode : Jvm.Cond → Bool
  | .code _ _ _ _ => true
  | _ => false
theorem all_split {L : List Jvm.Cond} {P : Jvm.Cond → Bool} (h1 : L.all (fun c => isCode c || P c) = true) (h2 : ∀ c ∈ L.filter isCode, P c = true) : L.all P = true := by
  refine List.all_eq_true.mpr fun c hc => ?_
  have h := List.all_eq_true.mp h1 c hc
  rcases Bool.eq_false_or_eq_true (isCode c) with hi | hi
  · exact h2 c (List.mem_filter.mpr ⟨hc, hi⟩)
  · simpa [hi] using h
set_option maxRecDepth 65536 in
theorem w_c0 : (Jvm.Cond.code x code maxLocals ret).before args0 about1 = true := code_word (m := ⟨1, 1⟩) (meth := k1m1) (c := k1c1) (by decide +kernel) rfl rfl rfl (by decide +kernel)
set_option maxRecDepth 65536 in
theorem w_c1 : (Jvm.Cond.code ({ cls := "com/example/queue_manager_rpc/queuemanagerrpc/Cursor", name := "<init>", desc := "()V" } : Jvm.MethodName) prog_5_method_1_code (1 : Nat) (Option.none : Option Jvm.ClassFile.FieldType)).before args0 about1 = true := code_word (m := ⟨2, 0⟩) (meth := k2m0) (c := k2c0) (by decide +kernel) rfl rfl rfl (by decide +kernel)
set_option maxRecDepth 65536 in
theorem w_c2 : (Jvm.Cond.code ({ cls := "java/lang/Object", name := "<init>", desc := "()V" } : Jvm.MethodName) object_method_1_code (1 : Nat) (Option.none : Option Jvm.ClassFile.FieldType)).before args0 about1 = true := code_word (m := ⟨0, 0⟩) (meth := k0m0) (c := k0c0) (by decide +kernel) rfl rfl rfl (by decide +kernel)
set_option maxRecDepth 65536 in
theorem w_c3 : (Jvm.Cond.code ({ cls := "com/example/queue_manager_rpc/queuemanagerrpc/Cursor", name := "moveTo", desc := "(JZ)V" } : Jvm.MethodName) prog_5_method_5_code (4 : Nat) (Option.none : Option Jvm.ClassFile.FieldType)).before args0 about1 = true := code_word (m := ⟨2, 4⟩) (meth := k2m4) (c := k2c4) (by decide +kernel) rfl rfl rfl (by decide +kernel)
set_option maxRecDepth 65536 in
theorem w_c4 : (Jvm.Cond.code ({ cls := "com/example/queue_manager_rpc/queuemanagerrpc/Cursor", name := "isOnMessage", desc := "()Z" } : Jvm.MethodName) prog_5_method_4_code (1 : Nat) (Option.some Jvm.ClassFile.FieldType.boolean)).before args0 about1 = true := code_word (m := ⟨2, 3⟩) (meth := k2m3) (c := k2c3) (by decide +kernel) rfl rfl rfl (by decide +kernel)
set_option maxRecDepth 65536 in
theorem w_c5 : (Jvm.Cond.code ({ cls := "com/example/queue_manager_rpc/queuemanagerrpc/Cursor", name := "current", desc := "()Lcom/example/queue_manager_rpc/queuemanagerrpc/Position;" } : Jvm.MethodName) prog_5_method_2_code (1 : Nat) (Option.some (Jvm.ClassFile.FieldType.object "com/example/queue_manager_rpc/queuemanagerrpc/Position"))).before args0 about1 = true := code_word (m := ⟨2, 1⟩) (meth := k2m1) (c := k2c1) (by decide +kernel) rfl rfl rfl (by decide +kernel)
set_option maxRecDepth 65536 in
theorem w_c6 : (Jvm.Cond.code ({ cls := "com/example/queue_manager_rpc/queuemanagerrpc/Position", name := "at", desc := "(J)Lcom/example/queue_manager_rpc/queuemanagerrpc/Position;" } : Jvm.MethodName) prog_10_method_2_code (2 : Nat) (Option.some (Jvm.ClassFile.FieldType.object "com/example/queue_manager_rpc/queuemanagerrpc/Position"))).before args0 about1 = true := code_word (m := ⟨3, 1⟩) (meth := k3m1) (c := k3c1) (by decide +kernel) rfl rfl rfl (by decide +kernel)
set_option maxRecDepth 65536 in
theorem w_c7 : (Jvm.Cond.code ({ cls := "com/example/queue_manager_rpc/queuemanagerrpc/Position", name := "<init>", desc := "(Lcom/example/queue_manager_rpc/queuemanagerrpc/Position$Kind;J)V" } : Jvm.MethodName) prog_10_method_1_code (4 : Nat) (Option.none : Option Jvm.ClassFile.FieldType)).before args0 about1 = true := code_word (m := ⟨3, 0⟩) (meth := k3m0) (c := k3c0) (by decide +kernel) rfl rfl rfl (by decide +kernel)
set_option maxRecDepth 65536 in
theorem w_c8 : (Jvm.Cond.code ({ cls := "com/example/queue_manager_rpc/queuemanagerrpc/Position", name := "kind", desc := "()Lcom/example/queue_manager_rpc/queuemanagerrpc/Position$Kind;" } : Jvm.MethodName) prog_10_method_6_code (1 : Nat) (Option.some (Jvm.ClassFile.FieldType.object "com/example/queue_manager_rpc/queuemanagerrpc/Position$Kind"))).before args0 about1 = true := code_word (m := ⟨3, 3⟩) (meth := k3m3) (c := k3c3) (by decide +kernel) rfl rfl rfl (by decide +kernel)
set_option maxRecDepth 65536 in
theorem w_c9 : (Jvm.Cond.code ({ cls := "com/example/queue_manager_rpc/queuemanagerrpc/Position", name := "lookupId", desc := "()J" } : Jvm.MethodName) prog_10_method_7_code (1 : Nat) (Option.some Jvm.ClassFile.FieldType.long)).before args0 about1 = true := code_word (m := ⟨3, 4⟩) (meth := k3m4) (c := k3c4) (by decide +kernel) rfl rfl rfl (by decide +kernel)
set_option maxRecDepth 65536 in
theorem w_c10 : (Jvm.Cond.code ({ cls := "com/example/queue_manager_rpc/queuemanagerrpc/Cursor", name := "next", desc := "()Lcom/example/queue_manager_rpc/queuemanagerrpc/Position;" } : Jvm.MethodName) prog_5_method_3_code (1 : Nat) (Option.some (Jvm.ClassFile.FieldType.object "com/example/queue_manager_rpc/queuemanagerrpc/Position"))).before args0 about1 = true := code_word (m := ⟨2, 2⟩) (meth := k2m2) (c := k2c2) (by decide +kernel) rfl rfl rfl (by decide +kernel)
set_option maxRecDepth 65536 in
theorem w_c11 : (Jvm.Cond.code ({ cls := "com/example/queue_manager_rpc/queuemanagerrpc/Position", name := "after", desc := "(J)Lcom/example/queue_manager_rpc/queuemanagerrpc/Position;" } : Jvm.MethodName) prog_10_method_3_code (2 : Nat) (Option.some (Jvm.ClassFile.FieldType.object "com/example/queue_manager_rpc/queuemanagerrpc/Position"))).before args0 about1 = true := code_word (m := ⟨3, 2⟩) (meth := k3m2) (c := k3c2) (by decide +kernel) rfl rfl rfl (by decide +kernel)
def codes1 : List Jvm.Cond := [Jvm.Cond.code x code maxLocals ret, Jvm.Cond.code ({ cls := "com/example/queue_manager_rpc/queuemanagerrpc/Cursor", name := "<init>", desc := "()V" } : Jvm.MethodName) prog_5_method_1_code (1 : Nat) (Option.none : Option Jvm.ClassFile.FieldType), Jvm.Cond.code ({ cls := "java/lang/Object", name := "<init>", desc := "()V" } : Jvm.MethodName) object_method_1_code (1 : Nat) (Option.none : Option Jvm.ClassFile.FieldType), Jvm.Cond.code ({ cls := "com/example/queue_manager_rpc/queuemanagerrpc/Cursor", name := "moveTo", desc := "(JZ)V" } : Jvm.MethodName) prog_5_method_5_code (4 : Nat) (Option.none : Option Jvm.ClassFile.FieldType), Jvm.Cond.code ({ cls := "com/example/queue_manager_rpc/queuemanagerrpc/Cursor", name := "isOnMessage", desc := "()Z" } : Jvm.MethodName) prog_5_method_4_code (1 : Nat) (Option.some Jvm.ClassFile.FieldType.boolean), Jvm.Cond.code ({ cls := "com/example/queue_manager_rpc/queuemanagerrpc/Cursor", name := "current", desc := "()Lcom/example/queue_manager_rpc/queuemanagerrpc/Position;" } : Jvm.MethodName) prog_5_method_2_code (1 : Nat) (Option.some (Jvm.ClassFile.FieldType.object "com/example/queue_manager_rpc/queuemanagerrpc/Position")), Jvm.Cond.code ({ cls := "com/example/queue_manager_rpc/queuemanagerrpc/Position", name := "at", desc := "(J)Lcom/example/queue_manager_rpc/queuemanagerrpc/Position;" } : Jvm.MethodName) prog_10_method_2_code (2 : Nat) (Option.some (Jvm.ClassFile.FieldType.object "com/example/queue_manager_rpc/queuemanagerrpc/Position")), Jvm.Cond.code ({ cls := "com/example/queue_manager_rpc/queuemanagerrpc/Position", name := "<init>", desc := "(Lcom/example/queue_manager_rpc/queuemanagerrpc/Position$Kind;J)V" } : Jvm.MethodName) prog_10_method_1_code (4 : Nat) (Option.none : Option Jvm.ClassFile.FieldType), Jvm.Cond.code ({ cls := "com/example/queue_manager_rpc/queuemanagerrpc/Position", name := "kind", desc := "()Lcom/example/queue_manager_rpc/queuemanagerrpc/Position$Kind;" } : Jvm.MethodName) prog_10_method_6_code (1 : Nat) (Option.some (Jvm.ClassFile.FieldType.object "com/example/queue_manager_rpc/queuemanagerrpc/Position$Kind")), Jvm.Cond.code ({ cls := "com/example/queue_manager_rpc/queuemanagerrpc/Position", name := "lookupId", desc := "()J" } : Jvm.MethodName) prog_10_method_7_code (1 : Nat) (Option.some Jvm.ClassFile.FieldType.long), Jvm.Cond.code ({ cls := "com/example/queue_manager_rpc/queuemanagerrpc/Cursor", name := "next", desc := "()Lcom/example/queue_manager_rpc/queuemanagerrpc/Position;" } : Jvm.MethodName) prog_5_method_3_code (1 : Nat) (Option.some (Jvm.ClassFile.FieldType.object "com/example/queue_manager_rpc/queuemanagerrpc/Position")), Jvm.Cond.code ({ cls := "com/example/queue_manager_rpc/queuemanagerrpc/Position", name := "after", desc := "(J)Lcom/example/queue_manager_rpc/queuemanagerrpc/Position;" } : Jvm.MethodName) prog_10_method_3_code (2 : Nat) (Option.some (Jvm.ClassFile.FieldType.object "com/example/queue_manager_rpc/queuemanagerrpc/Position"))]
set_option maxRecDepth 65536 in
theorem codes_eq : words1.filter isCode = codes1 := rfl
theorem w_codes : ∀ c ∈ words1.filter isCode, c.before args0 about1 = true := by
  rw [codes_eq]
  intro c hc
  simp only [codes1, List.mem_cons, List.not_mem_nil, or_false] at hc
  rcases hc with rfl | rfl | rfl | rfl | rfl | rfl | rfl | rfl | rfl | rfl | rfl | rfl
  · exact w_c0
  · exact w_c1
  · exact w_c2
  · exact w_c3
  · exact w_c4
  · exact w_c5
  · exact w_c6
  · exact w_c7
  · exact w_c8
  · exact w_c9
  · exact w_c10
  · exact w_c11
set_option maxRecDepth 65536 in
theorem w_t1 : (words1.take 24).all (fun c => isCode c || c.before args0 about1) = true := by decide +kernel
set_option maxRecDepth 65536 in
theorem w_t2 : ((words1.drop 24).take 24).all (fun c => isCode c || c.before args0 about1) = true := by decide +kernel
set_option maxRecDepth 65536 in
theorem w_t3 : ((words1.drop 24).drop 24).all (fun c => isCode c || c.before args0 about1) = true := by decide +kernel
theorem w_tables : (allAtoms (Jvm.Cond.code x code maxLocals ret :: tables_1)).before args0 about1 = true := by
  rw [allAtoms_all]
  show words1.all (fun c => c.before args0 about1) = true
  refine all_split ?_ w_codes
  rw [← List.take_append_drop 24 words1, List.all_append, w_t1, ← List.take_append_drop 24 (words1.drop 24), List.all_append, w_t2, w_t3]
  rfl
set_option maxRecDepth 65536 in
theorem w_case : (Jvm.Cond.and given_1 narrow_1).before args0 about1 = true := by decide +kernel
theorem w_applies : (headSpec (Jvm.Cond.code x code maxLocals ret :: tables_1) room_1).applies x e0.platform about1 = true :=
  (Spec.applies_iff w_frames).mpr ⟨w_running, w_runnable, w_alone, w_named, w_hears, w_ripe, w_room, w_tables⟩
theorem atStart : AtStart classFile x code maxLocals ret World_1 tables_1 room_1 Calls_1 rest_1 Pre_1 launch0 p0 e0 about1 theMethod args0 below0 :=
  ⟨lists_1, trivial, launch0.admits_env _ _ _, launch0.least_env, fairChoices_fair.cas, fairChoices_fair.clock, w_frames, w_args, w_heap, w_applies, trivial, trivial, w_case⟩
end start1
theorem witness_1 : WitnessClaimed_1 := ⟨start1.p0, start1.e0, start1.about1, start1.theMethod, start1.args0, start1.below0, start1.atStart⟩
end Jvm.Pilot.@@N@@
