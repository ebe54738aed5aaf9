import JvmDerived
import JvmDerived.Pilot.@@N@@Statement
import JvmDerived.Pilot.@@N@@Code
set_option linter.unusedVariables false
set_option linter.unusedSimpArgs false
namespace Jvm.RoadKit
open Sem ClassFile Op Lib Jvm.Stand Jvm.Free Jvm.LawKit
section New
variable {p : Program} {l : Launch} {e : Env} {R : Room} {s : State} {m : MethodId} {args : Array Value} {below : List Frame} {meth : Method} {c : Code} {T : State} {locs : List Loc} {cells slots : Nat}
theorem retI (X : Stand p l e R s m args below meth c T locs cells slots) (hx : p.tables.exec = Jvm.exec) {pc : Nat} {Ls : Array Slot} {z : Int32} {rest : List Value} (hret : meth.sig.returnType = some .int) (hd : decode c.code pc = .ok (.ireturn, 1)) {fs : List Frame}
    (hl : ∀ (f : JFrame) (acts : List Action), f.method = m → f.locked = none → f.entered = [] → (doReturn e (T.setTop f) acts (some (.int z))).1 = T.setFrames fs) : Steps p.tables e below (T.setTop (mkF m pc Ls (.int z :: rest))) (T.setFrames fs) := by
  have hm' : T.vm.method? m = some meth := X.method'
  have hn : narrow .int (.int z) = .int z := rfl
  show Steps p.tables e below (T.setTop { method := m, pc := pc, locals := Ls, stack := _ :: rest, locked := none }) _
  jvm_step X.here [X.here.top, hx, hd, hm', hret, hn]
  first | (intro acts; rw [hl _ acts rfl rfl rfl]) | rw [hl _ _ rfl rfl rfl]
  exact Steps.refl _
theorem own_retL (X : Stand p l e R s m args below meth c T locs cells slots) (hx : p.tables.exec = Jvm.exec) {pc : Nat} {Ls : Array Slot} {z : Int64} {rest : List Value} (hret : meth.sig.returnType = some .long) (hd : decode c.code pc = .ok (.lreturn, 1)) {fs : List Frame}
    (hl : ∀ (f : JFrame) (acts : List Action), f.method = m → f.locked = none → f.entered = [] → (doReturn e (T.setTop f) acts (some (.long z))).1 = T.setFrames fs) : Steps p.tables e below (T.setTop (mkF m pc Ls (.long z :: rest))) (T.setFrames fs) := by
  have hm' : T.vm.method? m = some meth := X.method'
  show Steps p.tables e below (T.setTop { method := m, pc := pc, locals := Ls, stack := _ :: rest, locked := none }) _
  jvm_step X.here [X.here.top, hx, hd, hm', hret, narrow]
  first | (intro acts; rw [hl _ acts rfl rfl rfl]) | rw [hl _ _ rfl rfl rfl]
  exact Steps.refl _
theorem own_retA (X : Stand p l e R s m args below meth c T locs cells slots) (hx : p.tables.exec = Jvm.exec) {pc : Nat} {Ls : Array Slot} {v : Value} {t : FieldType} {rest : List Value} (hret : meth.sig.returnType = some t) (ht : t.isReference = true) (hv : v.isRef = true) (hd : decode c.code pc = .ok (.areturn, 1)) {fs : List Frame}
    (hl : ∀ (f : JFrame) (acts : List Action), f.method = m → f.locked = none → f.entered = [] → (doReturn e (T.setTop f) acts (some v)).1 = T.setFrames fs) : Steps p.tables e below (T.setTop (mkF m pc Ls (v :: rest))) (T.setFrames fs) := by
  have hm' : T.vm.method? m = some meth := X.method'
  show Steps p.tables e below (T.setTop { method := m, pc := pc, locals := Ls, stack := v :: rest, locked := none }) _
  rcases ref_cases hv with rfl | ⟨a, rfl⟩
  all_goals
    jvm_step X.here [X.here.top, hx, hd, hm', hret, ht, Value.isRef]
    first | (intro acts; rw [hl _ acts rfl rfl rfl]) | rw [hl _ _ rfl rfl rfl]
    exact Steps.refl _
def Go (p : Program) (e : Env) (below : List Frame) (P : Outcome → State → Prop) (S : State) : Prop := ∃ s₂ o, Steps p.tables e below S s₂ ∧ s₂.status = .running ∧ Ended s₂ below o ∧ P o s₂
variable {P : Outcome → State → Prop}
theorem Go.by {A B : State} (st : ∀ t, Steps p.tables e below B t → Steps p.tables e below A t) (g : Go p e below P B) : Go p e below P A := by
  obtain ⟨u, o, h1, h2⟩ := g; exact ⟨u, o, st _ h1, h2⟩
theorem Go.tr {A B : State} (st : Steps p.tables e below A B) (g : Go p e below P B) : Go p e below P A := by
  obtain ⟨u, o, h1, h2⟩ := g; exact ⟨u, o, st.trans h1, h2⟩
theorem Go.start {f g : JFrame} (q : f = g) (h : Go p e below P (T.setTop g)) : ∃ s₂ o, Steps p.tables e below (T.setTop f) s₂ ∧ s₂.status = .running ∧ Ended s₂ below o ∧ P o s₂ := q ▸ h
variable {Q : Option Value → Heap → List Loc → Prop} {rc rs : Nat}
theorem Go.retI (X : Stand p l e R s m args below meth c T locs cells slots) (hx : p.tables.exec = Jvm.exec) {pc : Nat} {Ls : Array Slot} {z : Int32} {rest : List Value} (hret : meth.sig.returnType = some .int) (hlk : meth.locks = false) (hd : decode c.code pc = .ok (.ireturn, 1)) (hc : cells ≤ rc) (hs : slots ≤ rs) (hq : Q (some (.int z)) T.heap locs) :
    Go p e below (fun o U' => ∃ v L, o = .returned v ∧ Q v U'.heap L ∧ FrameEnd s o U' L rc rs) (T.setTop (mkF m pc Ls (.int z :: rest))) := by
  obtain ⟨fs, hr, hrun, hended, hW, hsame⟩ := X.leave (v := some (.int z)) (fun h => by rw [hret] at h; cases h) hlk
  exact ⟨_, _, RoadKit.retI X hx hret hd hr, hrun, hended, _, _, rfl, hq, ⟨_, rfl⟩, hW, hsame.mono hc hs⟩
theorem Go.retN (X : Stand p l e R s m args below meth c T locs cells slots) (hx : p.tables.exec = Jvm.exec) {pc : Nat} {Ls : Array Slot} {z : Int32} {t : FieldType} {rest : List Value} (hret : meth.sig.returnType = some t) (ht : t = .boolean ∨ t = .byte ∨ t = .char ∨ t = .short) (hlk : meth.locks = false) (hd : decode c.code pc = .ok (.ireturn, 1)) (hc : cells ≤ rc) (hs : slots ≤ rs) (hq : Q (some (.int (nar t z))) T.heap locs) :
    Go p e below (fun o U' => ∃ v L, o = .returned v ∧ Q v U'.heap L ∧ FrameEnd s o U' L rc rs) (T.setTop (mkF m pc Ls (.int z :: rest))) := by
  obtain ⟨fs, hr, hrun, hended, hW, hsame⟩ := X.leave (v := some (.int (nar t z))) (fun h => by rw [hret] at h; cases h) hlk
  exact ⟨_, _, RoadKit.retN X hx hret ht hd hr, hrun, hended, _, _, rfl, hq, ⟨_, rfl⟩, hW, hsame.mono hc hs⟩
theorem Go.retL (X : Stand p l e R s m args below meth c T locs cells slots) (hx : p.tables.exec = Jvm.exec) {pc : Nat} {Ls : Array Slot} {z : Int64} {rest : List Value} (hret : meth.sig.returnType = some .long) (hlk : meth.locks = false) (hd : decode c.code pc = .ok (.lreturn, 1)) (hc : cells ≤ rc) (hs : slots ≤ rs) (hq : Q (some (.long z)) T.heap locs) :
    Go p e below (fun o U' => ∃ v L, o = .returned v ∧ Q v U'.heap L ∧ FrameEnd s o U' L rc rs) (T.setTop (mkF m pc Ls (.long z :: rest))) := by
  obtain ⟨fs, hr, hrun, hended, hW, hsame⟩ := X.leave (v := some (.long z)) (fun h => by rw [hret] at h; cases h) hlk
  exact ⟨_, _, own_retL X hx hret hd hr, hrun, hended, _, _, rfl, hq, ⟨_, rfl⟩, hW, hsame.mono hc hs⟩
theorem Go.retA (X : Stand p l e R s m args below meth c T locs cells slots) (hx : p.tables.exec = Jvm.exec) {pc : Nat} {Ls : Array Slot} {v : Value} {t : FieldType} {rest : List Value} (hret : meth.sig.returnType = some t) (ht : t.isReference = true) (hv : v.isRef = true) (hlk : meth.locks = false) (hd : decode c.code pc = .ok (.areturn, 1)) (hc : cells ≤ rc) (hs : slots ≤ rs) (hq : Q (some v) T.heap locs) :
    Go p e below (fun o U' => ∃ v L, o = .returned v ∧ Q v U'.heap L ∧ FrameEnd s o U' L rc rs) (T.setTop (mkF m pc Ls (v :: rest))) := by
  obtain ⟨fs, hr, hrun, hended, hW, hsame⟩ := X.leave (v := some v) (fun h => by rw [hret] at h; cases h) hlk
  exact ⟨_, _, own_retA X hx hret ht hv hd hr, hrun, hended, _, _, rfl, hq, ⟨_, rfl⟩, hW, hsame.mono hc hs⟩
theorem Go.ret0 (X : Stand p l e R s m args below meth c T locs cells slots) (hx : p.tables.exec = Jvm.exec) {pc : Nat} {Ls : Array Slot} (hret : meth.sig.returnType = none) (hlk : meth.locks = false) (hd : decode c.code pc = .ok (.return_, 1)) (hc : cells ≤ rc) (hs : slots ≤ rs) (hq : Q none T.heap locs) :
    Go p e below (fun o U' => ∃ v L, o = .returned v ∧ Q v U'.heap L ∧ FrameEnd s o U' L rc rs) (T.setTop (mkF m pc Ls [])) := by
  obtain ⟨fs, hr, hrun, hended, hW, hsame⟩ := X.leave (v := none) (fun _ => rfl) hlk
  exact ⟨_, _, X.returnOut hx hret hd hr, hrun, hended, _, _, rfl, hq, ⟨_, rfl⟩, hW, hsame.mono hc hs⟩
section Wide
variable {vm₁ : Vm} {kS : Nat}
theorem Go.retIW (hS : s.Since vm₁ kS) (hn : kS ≤ T.heap.size) (X : Stand p l e R (s.setVm vm₁) m args below meth c T locs cells slots) (hx : p.tables.exec = Jvm.exec) {pc : Nat} {Ls : Array Slot} {z : Int32} {rest : List Value} (hret : meth.sig.returnType = some .int) (hlk : meth.locks = false) (hd : decode c.code pc = .ok (.ireturn, 1)) (hc : cells ≤ rc) (hs : slots ≤ rs) (hq : Q (some (.int z)) T.heap locs) :
    Go p e below (fun o U' => ∃ v L, o = .returned v ∧ Q v U'.heap L ∧ ReturnedEndW s o U' L rc rs) (T.setTop (mkF m pc Ls (.int z :: rest))) := by
  obtain ⟨fs, hr, hrun, hended, w1, w2, w3, w4⟩ := X.leaveW hS hn (v := some (.int z)) (fun h => by rw [hret] at h; cases h) hlk
  exact ⟨_, _, RoadKit.retI X hx hret hd hr, hrun, hended, _, _, rfl, hq, w1, w2, w3, w4.mono hc hs⟩
theorem Go.retNW (hS : s.Since vm₁ kS) (hn : kS ≤ T.heap.size) (X : Stand p l e R (s.setVm vm₁) m args below meth c T locs cells slots) (hx : p.tables.exec = Jvm.exec) {pc : Nat} {Ls : Array Slot} {z : Int32} {t : FieldType} {rest : List Value} (hret : meth.sig.returnType = some t) (ht : t = .boolean ∨ t = .byte ∨ t = .char ∨ t = .short) (hlk : meth.locks = false) (hd : decode c.code pc = .ok (.ireturn, 1)) (hc : cells ≤ rc) (hs : slots ≤ rs) (hq : Q (some (.int (nar t z))) T.heap locs) :
    Go p e below (fun o U' => ∃ v L, o = .returned v ∧ Q v U'.heap L ∧ ReturnedEndW s o U' L rc rs) (T.setTop (mkF m pc Ls (.int z :: rest))) := by
  obtain ⟨fs, hr, hrun, hended, w1, w2, w3, w4⟩ := X.leaveW hS hn (v := some (.int (nar t z))) (fun h => by rw [hret] at h; cases h) hlk
  exact ⟨_, _, RoadKit.retN X hx hret ht hd hr, hrun, hended, _, _, rfl, hq, w1, w2, w3, w4.mono hc hs⟩
theorem Go.retAW (hS : s.Since vm₁ kS) (hn : kS ≤ T.heap.size) (X : Stand p l e R (s.setVm vm₁) m args below meth c T locs cells slots) (hx : p.tables.exec = Jvm.exec) {pc : Nat} {Ls : Array Slot} {v : Value} {t : FieldType} {rest : List Value} (hret : meth.sig.returnType = some t) (ht : t.isReference = true) (hv : v.isRef = true) (hlk : meth.locks = false) (hd : decode c.code pc = .ok (.areturn, 1)) (hc : cells ≤ rc) (hs : slots ≤ rs) (hq : Q (some v) T.heap locs) :
    Go p e below (fun o U' => ∃ v L, o = .returned v ∧ Q v U'.heap L ∧ ReturnedEndW s o U' L rc rs) (T.setTop (mkF m pc Ls (v :: rest))) := by
  obtain ⟨fs, hr, hrun, hended, w1, w2, w3, w4⟩ := X.leaveW hS hn (v := some v) (fun h => by rw [hret] at h; cases h) hlk
  exact ⟨_, _, own_retA X hx hret ht hv hd hr, hrun, hended, _, _, rfl, hq, w1, w2, w3, w4.mono hc hs⟩
theorem Go.ret0W (hS : s.Since vm₁ kS) (hn : kS ≤ T.heap.size) (X : Stand p l e R (s.setVm vm₁) m args below meth c T locs cells slots) (hx : p.tables.exec = Jvm.exec) {pc : Nat} {Ls : Array Slot} (hret : meth.sig.returnType = none) (hlk : meth.locks = false) (hd : decode c.code pc = .ok (.return_, 1)) (hc : cells ≤ rc) (hs : slots ≤ rs) (hq : Q none T.heap locs) :
    Go p e below (fun o U' => ∃ v L, o = .returned v ∧ Q v U'.heap L ∧ ReturnedEndW s o U' L rc rs) (T.setTop (mkF m pc Ls [])) := by
  obtain ⟨fs, hr, hrun, hended, w1, w2, w3, w4⟩ := X.leaveW hS hn (v := none) (fun _ => rfl) hlk
  exact ⟨_, _, X.returnOut hx hret hd hr, hrun, hended, _, _, rfl, hq, w1, w2, w3, w4.mono hc hs⟩
end Wide
section Held
variable {vm₁ : Vm} {kS : Nat} {Z : State} {a0 : Array Value} {EL : List (String × Nat)} {h0 h h' : Heap} {vm0 : Vm}
theorem own_chE (A : CHr Z EL vm₁ h0 vm0 h) (E : Ext h h') : CHr Z EL vm₁ h0 vm0 h' := A.trans (CHr.ext E A.1)
theorem own_chW {a : Addr} {sl : Nat} {v : Value} (A : CHr Z EL vm₁ h0 vm0 h) (W : Wr h h' a sl v) (S : Safe Z EL vm0 h a) : CHr Z EL vm₁ h0 vm0 h' := A.trans (CHr.wr W S A.1)
theorem own_chK {ws : List Addr} (A : CHr Z EL vm₁ h0 vm0 h) (K : Keep h h' ws) (S : ∀ x ∈ ws, Safe Z EL vm0 h x) : CHr Z EL vm₁ h0 vm0 h' := A.trans (CHr.keep K S A.1)
theorem own_chEnd (X : Stand p l e R (s.setVm vm₁) m args below meth c T locs cells slots) (eT : T.heap = h) (hZ : Z.Warmed39 vm₁) (hEL : EW Z a0 EL) (A : CHr Z EL s.vm h0 vm₁ h) (hh : s.heap = h0) : CHr Z EL s.vm s.heap T.vm T.heap := by
  rw [eT, hh]; exact A.trans (CHv.at X hZ hEL A.1)
theorem Go.retNH (hS : s.Since vm₁ kS) (hn : kS ≤ T.heap.size) (hC : CHr Z EL s.vm s.heap T.vm T.heap) (X : Stand p l e R (s.setVm vm₁) m args below meth c T locs cells slots) (hx : p.tables.exec = Jvm.exec) {pc : Nat} {Ls : Array Slot} {z : Int32} {t : FieldType} {rest : List Value} (hret : meth.sig.returnType = some t) (ht : t = .boolean ∨ t = .byte ∨ t = .char ∨ t = .short) (hlk : meth.locks = false) (hd : decode c.code pc = .ok (.ireturn, 1)) (hc : cells ≤ rc) (hs : slots ≤ rs) (hq : Q (some (.int (nar t z))) T.heap locs) :
    Go p e below (fun o U' => ∃ v L, o = .returned v ∧ Q v U'.heap L ∧ CHr Z EL s.vm s.heap U'.vm U'.heap ∧ ReturnedEndW s o U' L rc rs) (T.setTop (mkF m pc Ls (.int z :: rest))) := by
  obtain ⟨fs, hr, hrun, hended, w1, w2, w3, w4⟩ := X.leaveW hS hn (v := some (.int (nar t z))) (fun h => by rw [hret] at h; cases h) hlk
  exact ⟨_, _, RoadKit.retN X hx hret ht hd hr, hrun, hended, _, _, rfl, hq, hC, w1, w2, w3, w4.mono hc hs⟩
theorem Go.retAH (hS : s.Since vm₁ kS) (hn : kS ≤ T.heap.size) (hC : CHr Z EL s.vm s.heap T.vm T.heap) (X : Stand p l e R (s.setVm vm₁) m args below meth c T locs cells slots) (hx : p.tables.exec = Jvm.exec) {pc : Nat} {Ls : Array Slot} {v : Value} {t : FieldType} {rest : List Value} (hret : meth.sig.returnType = some t) (ht : t.isReference = true) (hv : v.isRef = true) (hlk : meth.locks = false) (hd : decode c.code pc = .ok (.areturn, 1)) (hc : cells ≤ rc) (hs : slots ≤ rs) (hq : Q (some v) T.heap locs) :
    Go p e below (fun o U' => ∃ v L, o = .returned v ∧ Q v U'.heap L ∧ CHr Z EL s.vm s.heap U'.vm U'.heap ∧ ReturnedEndW s o U' L rc rs) (T.setTop (mkF m pc Ls (v :: rest))) := by
  obtain ⟨fs, hr, hrun, hended, w1, w2, w3, w4⟩ := X.leaveW hS hn (v := some v) (fun h => by rw [hret] at h; cases h) hlk
  exact ⟨_, _, own_retA X hx hret ht hv hd hr, hrun, hended, _, _, rfl, hq, hC, w1, w2, w3, w4.mono hc hs⟩
theorem Go.ret0H (hS : s.Since vm₁ kS) (hn : kS ≤ T.heap.size) (hC : CHr Z EL s.vm s.heap T.vm T.heap) (X : Stand p l e R (s.setVm vm₁) m args below meth c T locs cells slots) (hx : p.tables.exec = Jvm.exec) {pc : Nat} {Ls : Array Slot} (hret : meth.sig.returnType = none) (hlk : meth.locks = false) (hd : decode c.code pc = .ok (.return_, 1)) (hc : cells ≤ rc) (hs : slots ≤ rs) (hq : Q none T.heap locs) :
    Go p e below (fun o U' => ∃ v L, o = .returned v ∧ Q v U'.heap L ∧ CHr Z EL s.vm s.heap U'.vm U'.heap ∧ ReturnedEndW s o U' L rc rs) (T.setTop (mkF m pc Ls [])) := by
  obtain ⟨fs, hr, hrun, hended, w1, w2, w3, w4⟩ := X.leaveW hS hn (v := none) (fun _ => rfl) hlk
  exact ⟨_, _, X.returnOut hx hret hd hr, hrun, hended, _, _, rfl, hq, hC, w1, w2, w3, w4.mono hc hs⟩
end Held
theorem own_selP {Z : State} {a0 : Array Value} {y : MethodName} {n : Nat} (hZ : Z.Warmed39 s.vm) (wi : (Cond.instantiable y.cls n).before a0 Z = true) (wp : (Cond.privateMethod y).before a0 Z = true) (wm : (Cond.instanceMethod y).before a0 Z = true) (hy : y.cls ≠ "java/lang/invoke/MethodHandle" ∧ y.cls ≠ "java/lang/invoke/VarHandle") : (Cond.selects y.cls y y).before args s = true := by
  obtain ⟨c, k, h1, h2, h3, h4, -⟩ := Cond.instantiable_spec (show (Cond.instantiable y.cls n).before args s = true from mv hZ wi)
  refine selects_self_of_private h1 h2 ?_ (Cond.privateMethod_at (mvP (args := args) hZ wp)) (mvT hZ wm) hy
  simp only [Bool.or_eq_false_iff] at h4; exact h4.1
theorem own_NSroot {Z : State} {a0 : Array Value} {O K : String} {n : Nat} (w : (Cond.noSuperclass O).before a0 Z = true) (wk : (Cond.instantiable K n).before a0 Z = true) (hn : O ≠ K) : NS Z O K := by
  obtain ⟨c, k, h1, h2, h3, -, -⟩ := Cond.noSuperclass_spec w
  obtain ⟨t, -, g1, -⟩ := Cond.instantiable_spec wk
  have ne := ids_ne h1 g1 hn
  refine ⟨c, t, h1, g1, fun fuel => ?_⟩
  cases fuel with
  | zero => rfl
  | succ f => simp [Vm.isSubclassAux, ne, h2, h3]
theorem own_NSno {Z : State} {a0 : Array Value} {C S K : String} {n : Nat} (w : (Cond.superclass C S).before a0 Z = true) (wk : (Cond.instantiable K n).before a0 Z = true) (ns : NS Z C K) (hn : C ≠ K) : ∃ c t, Z.vm.findClass C = some c ∧ Z.vm.findClass K = some t ∧ Z.vm.assignable c t = false := by
  obtain ⟨c, t, h0, g0, n3⟩ := ns
  obtain ⟨p, k, kp, h1, h2, h3, h4, h5, -, h7⟩ := Cond.superclass_spec h0 w
  obtain ⟨t', kt, g1, g2, g3, g4, -⟩ := Cond.instantiable_spec wk
  cases g0.symm.trans g1
  simp only [Bool.or_eq_false_iff] at g4
  have ne := ids_ne h0 g0 hn
  refine ⟨c, t, h0, g0, ?_⟩
  show Z.vm.assignableAux (255 + 1) c t = false
  simp [Vm.assignableAux, ne, h2, g2, h5, g3, g4.1, Vm.isSubclass, n3]
theorem own_old_size {Z : State} {n0 : Nat} {h : Heap} (O : Old Z n0 h) : n0 ≤ h.size := by rw [← O.1]; exact O.2.1
theorem own_cat1 {v : Value} (h : v.isRef = true) : v.category = 1 := by rcases ref_cases h with rfl | ⟨_, rfl⟩ <;> rfl
end New
end Jvm.RoadKit
namespace Jvm.Pilot.@@N@@
open Jvm Jvm.ClassFile Sem Op Lib Jvm.Free Jvm.Stand Jvm.LawKit Jvm.RoadKit Bundle Jvm.Pilot.@@N@@.Jvm.D
open Jvm.FP.Core in
theorem own_qmin : b64.qmin = -1074 := by decide +kernel
open Jvm.FP.Core in
theorem own_qmax : b64.qmax = 971 := by decide +kernel
open Jvm.FP.Core in
theorem own_tails : b64.tails = 2 ^ 52 := by decide +kernel
open Jvm.FP.Core in
theorem own_norm (n : Nat) (h0 : 0 < n) (h1 : n < 2 ^ 32) (s : Bool) : ∃ (c : Nat) (q : Int), Jvm.FP.Core.fits b64 (.fin s c q) ∧ Jvm.FP.Core.fits b64 (.fin s c (q - 2)) ∧ q ≤ 0 ∧ c = n * 2 ^ (-q).toNat := by
  have l1 : 2 ^ n.log2 ≤ n := Nat.log2_self_le (by omega)
  have l2 : n < 2 ^ (n.log2 + 1) := Nat.lt_log2_self
  have l3 : n.log2 < 32 := (Nat.pow_lt_pow_iff_right (a := 2) (by decide)).mp (Nat.lt_of_le_of_lt l1 h1)
  generalize n.log2 = L at *
  have e1 : (2 : Nat) ^ 52 = 2 ^ L * 2 ^ (52 - L) := by rw [← Nat.pow_add]; congr 1; omega
  have e2 : (2 : Nat) ^ 53 = 2 ^ (L + 1) * 2 ^ (52 - L) := by rw [← Nat.pow_add]; congr 1; omega
  have p : 0 < 2 ^ (52 - L) := Nat.two_pow_pos _
  have c1 : n * 2 ^ (52 - L) < 2 ^ 53 := by rw [e2]; exact Nat.mul_lt_mul_of_pos_right l2 p
  have c2 : 2 ^ 52 ≤ n * 2 ^ (52 - L) := by rw [e1]; exact Nat.mul_le_mul_right _ l1
  refine ⟨n * 2 ^ (52 - L), (L : Int) - 52, ⟨c1, ?_, ?_, Or.inr ?_⟩, ⟨c1, ?_, ?_, Or.inr ?_⟩, by omega, ?_⟩
  · rw [own_qmin]; omega
  · rw [own_qmax]; omega
  · rw [own_tails]; exact c2
  · rw [own_qmin]; omega
  · rw [own_qmax]; omega
  · rw [own_tails]; exact c2
  · congr 2; omega
/-- the datum is v / 4 -/
def own_Q (d : Jvm.FP.Core.Datum) (v : Int) : Prop := ∃ (s : Bool) (c : Nat) (q : Int), d = .fin s c q ∧ q ≤ -2 ∧ Jvm.FP.Core.signed s c = v * ((2 ^ (-2 - q).toNat : Nat) : Int)
open Jvm.FP.Core in
theorem own_signed (s : Bool) (c k : Nat) : signed s (c * k) = signed s c * (k : Int) := by
  unfold signed
  cases s
  · simp
  · simp [Int.neg_mul]
theorem own_cmpP (a b : Int) (P : Nat) (hP : 0 < P) : compare (a * (P : Int)) (b * (P : Int)) = compare a b := by
  have hP' : (0 : Int) < (P : Int) := by omega
  rcases Int.lt_trichotomy a b with h | h | h
  · have q : a * (P : Int) < b * (P : Int) := Int.mul_lt_mul_of_pos_right h hP'
    simp only [compare, compareOfLessAndEq, if_pos h, if_pos q]
  · subst h; simp only [compare, compareOfLessAndEq]; simp
  · have q : b * (P : Int) < a * (P : Int) := Int.mul_lt_mul_of_pos_right h hP'
    have n1 : ¬ a < b := by omega
    have n2 : ¬ a = b := by omega
    have n3 : ¬ a * (P : Int) < b * (P : Int) := by omega
    have n4 : ¬ a * (P : Int) = b * (P : Int) := by omega
    simp only [compare, compareOfLessAndEq, if_neg n1, if_neg n2, if_neg n3, if_neg n4]
open Jvm.FP.Core in
theorem own_order {d1 d2 : Datum} {v1 v2 : Int} (h1 : own_Q d1 v1) (h2 : own_Q d2 v2) : order d1 d2 = some (compare v1 v2) := by
  obtain ⟨s, c, q, rfl, hq, e⟩ := h1
  obtain ⟨t, d, r, rfl, hr, f⟩ := h2
  show some (compare (signed s (inUnits c q (min q r))) (signed t (inUnits d r (min q r)))) = _
  unfold inUnits
  have g1 : signed s (c * 2 ^ (q - min q r).toNat) = v1 * ((2 ^ (-2 - min q r).toNat : Nat) : Int) := by
    rw [own_signed, e, Int.mul_assoc, ← Int.natCast_mul, ← Nat.pow_add]
    congr 4; omega
  have g2 : signed t (d * 2 ^ (r - min q r).toNat) = v2 * ((2 ^ (-2 - min q r).toNat : Nat) : Int) := by
    rw [own_signed, f, Int.mul_assoc, ← Int.natCast_mul, ← Nat.pow_add]
    congr 4; omega
  rw [g1, g2, own_cmpP _ _ _ (Nat.two_pow_pos _)]
open Jvm.FP.Core in
theorem own_four : val64 4616189618054758400 = .fin false (2 ^ 52) (-50) := by decide +kernel
open Jvm.FP.Core in
theorem own_quarter (x : Int32) : own_Q (val64 (Jvm.FP.ddiv (Jvm.FP.i2d x) 4616189618054758400)) x.toInt := by
  show own_Q (val64 (ddiv (i2d x) 4616189618054758400)) x.toInt
  rw [val64_ddiv, val64_i2d, own_four]
  have r := rng32 x
  by_cases h : x.toInt = 0
  · rw [h]
    refine ⟨false, 0, b64.qmin, ?_, by rw [own_qmin]; omega, by simp [signed]⟩
    rfl
  · obtain ⟨c, q, f1, f2, hq, hc⟩ := own_norm x.toInt.natAbs (by omega) (by omega) (decide (x.toInt < 0))
    have e1 : round b64 (ofInt x.toInt) = .fin (decide (x.toInt < 0)) c q := by
      show roundRatio b64 (decide (x.toInt < 0)) x.toInt.natAbs 1 0 = _
      refine roundRatio_exact good_b64 (by decide) f1 ?_
      rw [hc, show (0 - q).toNat = (-q).toNat by omega, show (q - 0).toNat = 0 by omega]
      simp
    rw [e1]
    have e2 : quotient b64 (.fin (decide (x.toInt < 0)) c q) (.fin false (2 ^ 52) (-50)) = .fin (decide (x.toInt < 0)) c (q - 2) := by
      show (if 2 ^ 52 = 0 then (if c = 0 then Datum.nan else Datum.inf (decide (x.toInt < 0) != false)) else roundRatio b64 (decide (x.toInt < 0) != false) c (2 ^ 52) (q - -50)) = _
      rw [if_neg (by decide), Bool.bne_false]
      refine roundRatio_exact good_b64 (by decide) f2 ?_
      rw [show (q - -50 - (q - 2)).toNat = 52 by omega, show (q - 2 - (q - -50)).toNat = 0 by omega, Nat.pow_zero, Nat.mul_one]
    rw [e2]
    refine ⟨_, _, _, rfl, by omega, ?_⟩
    rw [hc, own_signed, show (-2 - (q - 2)).toNat = (-q).toNat by omega]
    congr 1
    unfold signed
    by_cases n : x.toInt < 0
    · rw [if_pos (by simpa using n)]; omega
    · rw [if_neg (by simpa using n)]; omega
theorem own_q0 : own_Q (Jvm.FP.Core.val64 (Jvm.FP.i2d 0)) 0 := ⟨false, 0, -1074, by decide +kernel, by decide, by decide +kernel⟩
theorem own_q1 : own_Q (Jvm.FP.Core.val64 (Jvm.FP.i2d 1)) 4 := ⟨false, 2 ^ 52, -52, by decide +kernel, by decide, by decide +kernel⟩
theorem own_q1000 : own_Q (Jvm.FP.Core.val64 (Jvm.FP.i2d 1000)) 4000 := ⟨false, 1000 * 2 ^ 43, -43, by decide +kernel, by decide, by decide +kernel⟩
theorem own_nn (x : Int32) : Jvm.Free.Fl.NoNaN64 (Jvm.FP.ddiv (Jvm.FP.i2d x) 4616189618054758400) := Jvm.Free.Fl.val64_no.mpr (by
  obtain ⟨s, c, q, e, -⟩ := own_quarter x
  rw [e]; exact fun h => by cases h)
theorem own_dcmp (x k : Int32) (v : Int) (h : own_Q (Jvm.FP.Core.val64 (Jvm.FP.i2d k)) v) : Jvm.FP.dcmp (Jvm.FP.ddiv (Jvm.FP.i2d x) 4616189618054758400) (Jvm.FP.i2d k) = some (compare x.toInt v) := own_order (own_quarter x) h
/-- what dcmpl, dcmpg push -/
theorem own_cv (x k : Int32) (v : Int) (h : own_Q (Jvm.FP.Core.val64 (Jvm.FP.i2d k)) v) (o : CmpOp) : (cmpValue (Jvm.FP.dcmp (Jvm.FP.ddiv (Jvm.FP.i2d x) 4616189618054758400) (Jvm.FP.i2d k)) o).toInt = if x.toInt < v then -1 else if x.toInt = v then 0 else 1 := by
  rw [own_dcmp x k v h]
  rcases Int.lt_trichotomy x.toInt v with q | q | q
  · rw [if_pos q, show compare x.toInt v = .lt by simp only [compare, compareOfLessAndEq, if_pos q]]; cases o <;> rfl
  · rw [if_neg (by omega), if_pos q, show compare x.toInt v = .eq by rw [q]; simp only [compare, compareOfLessAndEq]; simp]; cases o <;> rfl
  · rw [if_neg (by omega), if_neg (by omega), show compare x.toInt v = .gt by simp only [compare, compareOfLessAndEq, if_neg (show ¬ x.toInt < v by omega), if_neg (show ¬ x.toInt = v by omega)]]; cases o <;> rfl
def own_al1 (d lo hi : UInt64) : Int32 := if cmpValue (Jvm.FP.dcmp d lo) .l < (0 : Int32) then 0 else if (0 : Int32) < cmpValue (Jvm.FP.dcmp d hi) .g then 0 else 1
def own_al0 (d lo hi : UInt64) : Int32 := if (0 : Int32) < cmpValue (Jvm.FP.dcmp d lo) .l then (if cmpValue (Jvm.FP.dcmp d hi) .g < (0 : Int32) then 1 else 0) else 0
theorem own_z : (0 : Int32).toInt = 0 := rfl
theorem own_lt0 {z y : Int32} {a b : Int} (h : z.toInt = if a < b then -1 else if a = b then 0 else 1) (hy : y.toInt = 0) : (z < y ↔ a < b) := by
  rw [Int32.lt_iff_toInt_lt, h, hy]
  split
  · omega
  · split <;> omega
theorem own_gt0 {z y : Int32} {a b : Int} (h : z.toInt = if a < b then -1 else if a = b then 0 else 1) (hy : y.toInt = 0) : (y < z ↔ b < a) := by
  rw [Int32.lt_iff_toInt_lt, h, hy]
  split
  · omega
  · split <;> omega
theorem own_r1 (x hi : Int32) (v : Int) (h : own_Q (Jvm.FP.Core.val64 (Jvm.FP.i2d hi)) v) : own_al1 (Jvm.FP.ddiv (Jvm.FP.i2d x) 4616189618054758400) (Jvm.FP.i2d 0) (Jvm.FP.i2d hi) = if x.toInt < 0 then 0 else if v < x.toInt then 0 else 1 := by
  unfold own_al1
  simp only [own_lt0 (own_cv x 0 0 own_q0 .l) own_z, own_gt0 (own_cv x hi v h .g) own_z]
theorem own_r0 (x hi : Int32) (v : Int) (h : own_Q (Jvm.FP.Core.val64 (Jvm.FP.i2d hi)) v) : own_al0 (Jvm.FP.ddiv (Jvm.FP.i2d x) 4616189618054758400) (Jvm.FP.i2d 0) (Jvm.FP.i2d hi) = if 0 < x.toInt then (if x.toInt < v then 1 else 0) else 0 := by
  unfold own_al0
  simp only [own_gt0 (own_cv x 0 0 own_q0 .l) own_z, own_lt0 (own_cv x hi v h .g) own_z]
theorem own_eq_int {args : Array Value} {s : State} {t : Term} {n : Int32} (h : (Jvm.Cond.eq t (.int n)).value args s none s [] = some true) : t.eval args s none [] s = some (.int n) := by
  simp only [Cond.value, Term.eval] at h
  cases ht : t.eval args s none [] s with
  | none => simp [ht] at h
  | some x => cases x <;> simp [ht] at h ⊢; exact h
theorem pn_0 : plainName "com/example/corpus_search/corpussearch/scoring/Parameter" = true := by first | (simp [plainName, overriddenIn]; done) | decide +kernel
theorem d1_0 : decode prog_61_method_6_code 0 = .ok (.aload_n 0, 1) := by decide +kernel
theorem d1_1 : decode prog_61_method_6_code 1 = .ok (.getfield 46, 3) := by decide +kernel
theorem d1_4 : decode prog_61_method_6_code 4 = .ok (.ifCond .eq 31, 3) := by decide +kernel
theorem d1_7 : decode prog_61_method_6_code 7 = .ok (.dload_n 1, 1) := by decide +kernel
theorem d1_8 : decode prog_61_method_6_code 8 = .ok (.aload_n 0, 1) := by decide +kernel
theorem d1_9 : decode prog_61_method_6_code 9 = .ok (.getfield 39, 3) := by decide +kernel
theorem d1_12 : decode prog_61_method_6_code 12 = .ok (.i2d, 1) := by decide +kernel
theorem d1_13 : decode prog_61_method_6_code 13 = .ok (.dcmp .l, 1) := by decide +kernel
theorem d1_14 : decode prog_61_method_6_code 14 = .ok (.ifCond .lt 17, 3) := by decide +kernel
theorem d1_31 : decode prog_61_method_6_code 31 = .ok (.iconst 0, 1) := by decide +kernel
theorem d1_32 : decode prog_61_method_6_code 32 = .ok (.goto 28, 3) := by decide +kernel
theorem d1_60 : decode prog_61_method_6_code 60 = .ok (.ireturn, 1) := by decide +kernel
theorem d1_17 : decode prog_61_method_6_code 17 = .ok (.dload_n 1, 1) := by decide +kernel
theorem d1_18 : decode prog_61_method_6_code 18 = .ok (.aload_n 0, 1) := by decide +kernel
theorem d1_19 : decode prog_61_method_6_code 19 = .ok (.getfield 43, 3) := by decide +kernel
theorem d1_22 : decode prog_61_method_6_code 22 = .ok (.i2d, 1) := by decide +kernel
theorem d1_23 : decode prog_61_method_6_code 23 = .ok (.dcmp .g, 1) := by decide +kernel
theorem d1_24 : decode prog_61_method_6_code 24 = .ok (.ifCond .gt 7, 3) := by decide +kernel
theorem d1_27 : decode prog_61_method_6_code 27 = .ok (.iconst 1, 1) := by decide +kernel
theorem d1_28 : decode prog_61_method_6_code 28 = .ok (.goto 32, 3) := by decide +kernel
theorem ef_al1_1000 (m : MethodId) (ob : Addr) (vv : UInt64) : entryFrame m #[(.ref ob), (.double vv)] 3 = mkF m 0 #[.val (.ref ob), .val (.double vv), .second] [] := by first | (simp [entryFrame, mkF, argsToLocals, Value.category]; done) | rfl
def Q_al1_1000 (Z : State) (ob : Addr) (vv : UInt64) (h0 : Heap) (n0 : Nat) (v : Option Value) (h : Heap) (L : List Loc) : Prop := v = some (.int (own_al1 vv (Jvm.FP.i2d (0 : Int32)) (Jvm.FP.i2d (1000 : Int32)))) ∧ Fr n0 L ∧ h = h0
set_option maxRecDepth 65536 in
set_option maxHeartbeats 40000000 in
theorem al1_1000 (l : Launch) (Z : State) (a0 : Array Value) (hw : ∀ d ∈ tables_1, d.before a0 Z = true) (ws : List Jvm.Cond) (ob : Addr) (vv : UInt64) (h0 : Heap) (n0 : Nat) (O0 : Old Z n0 h0) (P0 : Exa Z Z.heap ob "com/example/corpus_search/corpussearch/scoring/Parameter") (P1 : Fld Z Z.heap ob "com/example/corpus_search/corpussearch/scoring/Parameter" "boundsAllowed" "Z" (.int (1 : Int32))) (P2 : Fld Z Z.heap ob "com/example/corpus_search/corpussearch/scoring/Parameter" "low" "I" (.int (0 : Int32))) (P3 : Fld Z Z.heap ob "com/example/corpus_search/corpussearch/scoring/Parameter" "high" "I" (.int (1000 : Int32))) :
    MetFree l (⟨"com/example/corpus_search/corpussearch/scoring/Parameter", "allows", "(D)Z"⟩ : MethodName) (head1 (Jvm.Cond.code (⟨"com/example/corpus_search/corpussearch/scoring/Parameter", "allows", "(D)Z"⟩ : MethodName) prog_61_method_6_code 3 (some .boolean) :: ws) ({ frames := 0, cells := 0, slots := 0, locals := 0 } : Room)) (fun a U => a = #[(.ref ob), (.double vv)] ∧ Z.Warmed39 U.vm ∧ U.heap = h0) (fun _ _ _ _ _ => True) (fun _ U o U' => ∃ v L, o = .returned v ∧ Q_al1_1000 Z ob vv h0 n0 v U'.heap L ∧ FrameEnd U o U' L ({ frames := 0, cells := 0, slots := 0, locals := 0 } : Room).cells ({ frames := 0, cells := 0, slots := 0, locals := 0 } : Room).slots) := by
  refine MetFree.of_bodySF (plainFor_of_name pn_0) hisR ?_
  intro p e s m args below meth c s₁ Bd hml0 hP hK
  obtain ⟨rfl, hZ, hh⟩ := hP
  have hx := Bd.exec
  have hby := Bd.bytes
  have hml : c.maxLocals = 3 := hml0
  have hown : s.vm.findClass "com/example/corpus_search/corpussearch/scoring/Parameter" = some m.cls := findClass_of_methodNamed Bd.named
  have hnm := (name_of_methodNamed Bd.named Bd.method).1
  have hlk := BodyLoose.notSynchronized Bd
  have X0 : Stand p l e ({ frames := 0, cells := 0, slots := 0, locals := 0 } : Room) s m #[(.ref ob), (.double vv)] below meth c s₁ [] 0 0 := Stand.of_body Bd
  have e0 : s₁.heap = h0 := by rw [← hh, Bd.state]; rfl
  have N0 := Fr.nil n0
  refine Go.start (P := fun o U' => ∃ v L, o = .returned v ∧ Q_al1_1000 Z ob vv h0 n0 v U'.heap L ∧ FrameEnd s o U' L ({ frames := 0, cells := 0, slots := 0, locals := 0 } : Room).cells ({ frames := 0, cells := 0, slots := 0, locals := 0 } : Room).slots) (ef_al1_1000 m ob vv) ?_
  show Go p e below _ (s₁.setTop (mkF m 0 #[.val (.ref ob), .val (.double vv), .second] []))
  refine Go.by (fun t k => XS.aloadN X0.here hx rfl (hb hby d1_0) rfl rfl k) ?_
  show Go p e below _ (s₁.setTop (mkF m 1 #[.val (.ref ob), .val (.double vv), .second] [(.ref ob)]))
  have F1 : Fld Z h0 ob "com/example/corpus_search/corpussearch/scoring/Parameter" "boundsAllowed" "Z" (.int (1 : Int32)) := P1.ext O0.2
  obtain ⟨T2, X2, e2, st2⟩ := getF X0 hx hZ hown (host := "") (Or.inl (hw _ (List.mem_of_getElem? (i := 9) rfl))) Via.refl e0 F1 (g := (mkF m 1 #[.val (.ref ob), .val (.double vv), .second] [(.ref ob)])) rfl rfl (hb hby d1_1)
  refine Go.by st2 ?_
  show Go p e below _ (T2.setTop (mkF m 4 #[.val (.ref ob), .val (.double vv), .second] [(.int (1 : Int32))]))
  refine Go.by (fun t k => XS.ifNo X2.here hx rfl (hb hby d1_4) rfl ((if0 _ _).trans (feq (by decide : ¬ ((1 : Int32) = (0 : Int32)))).1) k) ?_
  show Go p e below _ (T2.setTop (mkF m 7 #[.val (.ref ob), .val (.double vv), .second] []))
  refine Go.by (fun t k => XS.dloadN X2.here hx rfl (hb hby d1_7) rfl k) ?_
  show Go p e below _ (T2.setTop (mkF m 8 #[.val (.ref ob), .val (.double vv), .second] [(.double vv)]))
  refine Go.by (fun t k => XS.aloadN X2.here hx rfl (hb hby d1_8) rfl rfl k) ?_
  show Go p e below _ (T2.setTop (mkF m 9 #[.val (.ref ob), .val (.double vv), .second] [(.ref ob), (.double vv)]))
  have F3 : Fld Z h0 ob "com/example/corpus_search/corpussearch/scoring/Parameter" "low" "I" (.int (0 : Int32)) := P2.ext O0.2
  obtain ⟨T4, X4, e4, st4⟩ := getF X2 hx hZ hown (host := "") (Or.inl (hw _ (List.mem_of_getElem? (i := 11) rfl))) Via.refl e2 F3 (g := (mkF m 9 #[.val (.ref ob), .val (.double vv), .second] [(.ref ob), (.double vv)])) rfl rfl (hb hby d1_9)
  refine Go.by st4 ?_
  show Go p e below _ (T4.setTop (mkF m 12 #[.val (.ref ob), .val (.double vv), .second] [(.int (0 : Int32)), (.double vv)]))
  refine Go.by (fun t k => XS.i2dS X4.here hx rfl (hb hby d1_12) rfl rfl k) ?_
  show Go p e below _ (T4.setTop (mkF m 13 #[.val (.ref ob), .val (.double vv), .second] [(.double (Jvm.FP.i2d (0 : Int32))), (.double vv)]))
  refine Go.by (fun t k => XS.dcmpS X4.here hx rfl (hb hby d1_13) rfl rfl k) ?_
  show Go p e below _ (T4.setTop (mkF m 14 #[.val (.ref ob), .val (.double vv), .second] [(.int (cmpValue (Jvm.FP.dcmp vv (Jvm.FP.i2d (0 : Int32))) .l))]))
  by_cases hc5 : (cmpValue (Jvm.FP.dcmp vv (Jvm.FP.i2d (0 : Int32))) .l) < (0 : Int32)
  · skip
    refine Go.by (fun t k => XS.ifYes X4.here hx rfl (pc0 := 14) (pc' := 31) rfl (hb hby d1_14) rfl ((if0 _ _).trans (tlt hc5).1) (by decide) (by decide) k) ?_
    show Go p e below _ (T4.setTop (mkF m 31 #[.val (.ref ob), .val (.double vv), .second] []))
    refine Go.by (fun t k => XS.iconst X4.here hx rfl (hb hby d1_31) k) ?_
    show Go p e below _ (T4.setTop (mkF m 32 #[.val (.ref ob), .val (.double vv), .second] [(.int (0 : Int32))]))
    refine Go.by (fun t k => XS.goto X4.here hx rfl (pc0 := 32) (pc' := 60) rfl (hb hby d1_32) (by decide) (by decide) k) ?_
    show Go p e below _ (T4.setTop (mkF m 60 #[.val (.ref ob), .val (.double vv), .second] [(.int (0 : Int32))]))
    have hq : Q_al1_1000 Z ob vv h0 n0 (some (.int (nar .boolean (0 : Int32)))) h0 _ := ⟨(by show some (Value.int _) = _; simp [own_al1, nar, hc5]), N0, rfl⟩
    exact Go.retN X4 hx (t := .boolean) Bd.returns (by simp) hlk (hb hby d1_60) (by decide) (by decide) (by rw [e4]; exact hq)
  · skip
    refine Go.by (fun t k => XS.ifNo X4.here hx rfl (hb hby d1_14) rfl ((if0 _ _).trans (flt hc5).1) k) ?_
    show Go p e below _ (T4.setTop (mkF m 17 #[.val (.ref ob), .val (.double vv), .second] []))
    refine Go.by (fun t k => XS.dloadN X4.here hx rfl (hb hby d1_17) rfl k) ?_
    show Go p e below _ (T4.setTop (mkF m 18 #[.val (.ref ob), .val (.double vv), .second] [(.double vv)]))
    refine Go.by (fun t k => XS.aloadN X4.here hx rfl (hb hby d1_18) rfl rfl k) ?_
    show Go p e below _ (T4.setTop (mkF m 19 #[.val (.ref ob), .val (.double vv), .second] [(.ref ob), (.double vv)]))
    have F6 : Fld Z h0 ob "com/example/corpus_search/corpussearch/scoring/Parameter" "high" "I" (.int (1000 : Int32)) := P3.ext O0.2
    obtain ⟨T7, X7, e7, st7⟩ := getF X4 hx hZ hown (host := "") (Or.inl (hw _ (List.mem_of_getElem? (i := 13) rfl))) Via.refl e4 F6 (g := (mkF m 19 #[.val (.ref ob), .val (.double vv), .second] [(.ref ob), (.double vv)])) rfl rfl (hb hby d1_19)
    refine Go.by st7 ?_
    show Go p e below _ (T7.setTop (mkF m 22 #[.val (.ref ob), .val (.double vv), .second] [(.int (1000 : Int32)), (.double vv)]))
    refine Go.by (fun t k => XS.i2dS X7.here hx rfl (hb hby d1_22) rfl rfl k) ?_
    show Go p e below _ (T7.setTop (mkF m 23 #[.val (.ref ob), .val (.double vv), .second] [(.double (Jvm.FP.i2d (1000 : Int32))), (.double vv)]))
    refine Go.by (fun t k => XS.dcmpS X7.here hx rfl (hb hby d1_23) rfl rfl k) ?_
    show Go p e below _ (T7.setTop (mkF m 24 #[.val (.ref ob), .val (.double vv), .second] [(.int (cmpValue (Jvm.FP.dcmp vv (Jvm.FP.i2d (1000 : Int32))) .g))]))
    by_cases hc8 : (0 : Int32) < (cmpValue (Jvm.FP.dcmp vv (Jvm.FP.i2d (1000 : Int32))) .g)
    · skip
      refine Go.by (fun t k => XS.ifYes X7.here hx rfl (pc0 := 24) (pc' := 31) rfl (hb hby d1_24) rfl ((if0 _ _).trans (tlt hc8).2.2.1) (by decide) (by decide) k) ?_
      show Go p e below _ (T7.setTop (mkF m 31 #[.val (.ref ob), .val (.double vv), .second] []))
      refine Go.by (fun t k => XS.iconst X7.here hx rfl (hb hby d1_31) k) ?_
      show Go p e below _ (T7.setTop (mkF m 32 #[.val (.ref ob), .val (.double vv), .second] [(.int (0 : Int32))]))
      refine Go.by (fun t k => XS.goto X7.here hx rfl (pc0 := 32) (pc' := 60) rfl (hb hby d1_32) (by decide) (by decide) k) ?_
      show Go p e below _ (T7.setTop (mkF m 60 #[.val (.ref ob), .val (.double vv), .second] [(.int (0 : Int32))]))
      have hq : Q_al1_1000 Z ob vv h0 n0 (some (.int (nar .boolean (0 : Int32)))) h0 _ := ⟨(by show some (Value.int _) = _; simp [own_al1, nar, hc5, hc8]), N0, rfl⟩
      exact Go.retN X7 hx (t := .boolean) Bd.returns (by simp) hlk (hb hby d1_60) (by decide) (by decide) (by rw [e7]; exact hq)
    · skip
      refine Go.by (fun t k => XS.ifNo X7.here hx rfl (hb hby d1_24) rfl ((if0 _ _).trans (flt hc8).2.2.1) k) ?_
      show Go p e below _ (T7.setTop (mkF m 27 #[.val (.ref ob), .val (.double vv), .second] []))
      refine Go.by (fun t k => XS.iconst X7.here hx rfl (hb hby d1_27) k) ?_
      show Go p e below _ (T7.setTop (mkF m 28 #[.val (.ref ob), .val (.double vv), .second] [(.int (1 : Int32))]))
      refine Go.by (fun t k => XS.goto X7.here hx rfl (pc0 := 28) (pc' := 60) rfl (hb hby d1_28) (by decide) (by decide) k) ?_
      show Go p e below _ (T7.setTop (mkF m 60 #[.val (.ref ob), .val (.double vv), .second] [(.int (1 : Int32))]))
      have hq : Q_al1_1000 Z ob vv h0 n0 (some (.int (nar .boolean (1 : Int32)))) h0 _ := ⟨(by show some (Value.int _) = _; simp [own_al1, nar, hc5, hc8]), N0, rfl⟩
      exact Go.retN X7 hx (t := .boolean) Bd.returns (by simp) hlk (hb hby d1_60) (by decide) (by decide) (by rw [e7]; exact hq)
theorem ef_al1_1 (m : MethodId) (ob : Addr) (vv : UInt64) : entryFrame m #[(.ref ob), (.double vv)] 3 = mkF m 0 #[.val (.ref ob), .val (.double vv), .second] [] := by first | (simp [entryFrame, mkF, argsToLocals, Value.category]; done) | rfl
def Q_al1_1 (Z : State) (ob : Addr) (vv : UInt64) (h0 : Heap) (n0 : Nat) (v : Option Value) (h : Heap) (L : List Loc) : Prop := v = some (.int (own_al1 vv (Jvm.FP.i2d (0 : Int32)) (Jvm.FP.i2d (1 : Int32)))) ∧ Fr n0 L ∧ h = h0
set_option maxRecDepth 65536 in
set_option maxHeartbeats 40000000 in
theorem al1_1 (l : Launch) (Z : State) (a0 : Array Value) (hw : ∀ d ∈ tables_1, d.before a0 Z = true) (ws : List Jvm.Cond) (ob : Addr) (vv : UInt64) (h0 : Heap) (n0 : Nat) (O0 : Old Z n0 h0) (P0 : Exa Z Z.heap ob "com/example/corpus_search/corpussearch/scoring/Parameter") (P1 : Fld Z Z.heap ob "com/example/corpus_search/corpussearch/scoring/Parameter" "boundsAllowed" "Z" (.int (1 : Int32))) (P2 : Fld Z Z.heap ob "com/example/corpus_search/corpussearch/scoring/Parameter" "low" "I" (.int (0 : Int32))) (P3 : Fld Z Z.heap ob "com/example/corpus_search/corpussearch/scoring/Parameter" "high" "I" (.int (1 : Int32))) :
    MetFree l (⟨"com/example/corpus_search/corpussearch/scoring/Parameter", "allows", "(D)Z"⟩ : MethodName) (head1 (Jvm.Cond.code (⟨"com/example/corpus_search/corpussearch/scoring/Parameter", "allows", "(D)Z"⟩ : MethodName) prog_61_method_6_code 3 (some .boolean) :: ws) ({ frames := 0, cells := 0, slots := 0, locals := 0 } : Room)) (fun a U => a = #[(.ref ob), (.double vv)] ∧ Z.Warmed39 U.vm ∧ U.heap = h0) (fun _ _ _ _ _ => True) (fun _ U o U' => ∃ v L, o = .returned v ∧ Q_al1_1 Z ob vv h0 n0 v U'.heap L ∧ FrameEnd U o U' L ({ frames := 0, cells := 0, slots := 0, locals := 0 } : Room).cells ({ frames := 0, cells := 0, slots := 0, locals := 0 } : Room).slots) := by
  refine MetFree.of_bodySF (plainFor_of_name pn_0) hisR ?_
  intro p e s m args below meth c s₁ Bd hml0 hP hK
  obtain ⟨rfl, hZ, hh⟩ := hP
  have hx := Bd.exec
  have hby := Bd.bytes
  have hml : c.maxLocals = 3 := hml0
  have hown : s.vm.findClass "com/example/corpus_search/corpussearch/scoring/Parameter" = some m.cls := findClass_of_methodNamed Bd.named
  have hnm := (name_of_methodNamed Bd.named Bd.method).1
  have hlk := BodyLoose.notSynchronized Bd
  have X0 : Stand p l e ({ frames := 0, cells := 0, slots := 0, locals := 0 } : Room) s m #[(.ref ob), (.double vv)] below meth c s₁ [] 0 0 := Stand.of_body Bd
  have e0 : s₁.heap = h0 := by rw [← hh, Bd.state]; rfl
  have N0 := Fr.nil n0
  refine Go.start (P := fun o U' => ∃ v L, o = .returned v ∧ Q_al1_1 Z ob vv h0 n0 v U'.heap L ∧ FrameEnd s o U' L ({ frames := 0, cells := 0, slots := 0, locals := 0 } : Room).cells ({ frames := 0, cells := 0, slots := 0, locals := 0 } : Room).slots) (ef_al1_1 m ob vv) ?_
  show Go p e below _ (s₁.setTop (mkF m 0 #[.val (.ref ob), .val (.double vv), .second] []))
  refine Go.by (fun t k => XS.aloadN X0.here hx rfl (hb hby d1_0) rfl rfl k) ?_
  show Go p e below _ (s₁.setTop (mkF m 1 #[.val (.ref ob), .val (.double vv), .second] [(.ref ob)]))
  have F1 : Fld Z h0 ob "com/example/corpus_search/corpussearch/scoring/Parameter" "boundsAllowed" "Z" (.int (1 : Int32)) := P1.ext O0.2
  obtain ⟨T2, X2, e2, st2⟩ := getF X0 hx hZ hown (host := "") (Or.inl (hw _ (List.mem_of_getElem? (i := 9) rfl))) Via.refl e0 F1 (g := (mkF m 1 #[.val (.ref ob), .val (.double vv), .second] [(.ref ob)])) rfl rfl (hb hby d1_1)
  refine Go.by st2 ?_
  show Go p e below _ (T2.setTop (mkF m 4 #[.val (.ref ob), .val (.double vv), .second] [(.int (1 : Int32))]))
  refine Go.by (fun t k => XS.ifNo X2.here hx rfl (hb hby d1_4) rfl ((if0 _ _).trans (feq (by decide : ¬ ((1 : Int32) = (0 : Int32)))).1) k) ?_
  show Go p e below _ (T2.setTop (mkF m 7 #[.val (.ref ob), .val (.double vv), .second] []))
  refine Go.by (fun t k => XS.dloadN X2.here hx rfl (hb hby d1_7) rfl k) ?_
  show Go p e below _ (T2.setTop (mkF m 8 #[.val (.ref ob), .val (.double vv), .second] [(.double vv)]))
  refine Go.by (fun t k => XS.aloadN X2.here hx rfl (hb hby d1_8) rfl rfl k) ?_
  show Go p e below _ (T2.setTop (mkF m 9 #[.val (.ref ob), .val (.double vv), .second] [(.ref ob), (.double vv)]))
  have F3 : Fld Z h0 ob "com/example/corpus_search/corpussearch/scoring/Parameter" "low" "I" (.int (0 : Int32)) := P2.ext O0.2
  obtain ⟨T4, X4, e4, st4⟩ := getF X2 hx hZ hown (host := "") (Or.inl (hw _ (List.mem_of_getElem? (i := 11) rfl))) Via.refl e2 F3 (g := (mkF m 9 #[.val (.ref ob), .val (.double vv), .second] [(.ref ob), (.double vv)])) rfl rfl (hb hby d1_9)
  refine Go.by st4 ?_
  show Go p e below _ (T4.setTop (mkF m 12 #[.val (.ref ob), .val (.double vv), .second] [(.int (0 : Int32)), (.double vv)]))
  refine Go.by (fun t k => XS.i2dS X4.here hx rfl (hb hby d1_12) rfl rfl k) ?_
  show Go p e below _ (T4.setTop (mkF m 13 #[.val (.ref ob), .val (.double vv), .second] [(.double (Jvm.FP.i2d (0 : Int32))), (.double vv)]))
  refine Go.by (fun t k => XS.dcmpS X4.here hx rfl (hb hby d1_13) rfl rfl k) ?_
  show Go p e below _ (T4.setTop (mkF m 14 #[.val (.ref ob), .val (.double vv), .second] [(.int (cmpValue (Jvm.FP.dcmp vv (Jvm.FP.i2d (0 : Int32))) .l))]))
  by_cases hc5 : (cmpValue (Jvm.FP.dcmp vv (Jvm.FP.i2d (0 : Int32))) .l) < (0 : Int32)
  · skip
    refine Go.by (fun t k => XS.ifYes X4.here hx rfl (pc0 := 14) (pc' := 31) rfl (hb hby d1_14) rfl ((if0 _ _).trans (tlt hc5).1) (by decide) (by decide) k) ?_
    show Go p e below _ (T4.setTop (mkF m 31 #[.val (.ref ob), .val (.double vv), .second] []))
    refine Go.by (fun t k => XS.iconst X4.here hx rfl (hb hby d1_31) k) ?_
    show Go p e below _ (T4.setTop (mkF m 32 #[.val (.ref ob), .val (.double vv), .second] [(.int (0 : Int32))]))
    refine Go.by (fun t k => XS.goto X4.here hx rfl (pc0 := 32) (pc' := 60) rfl (hb hby d1_32) (by decide) (by decide) k) ?_
    show Go p e below _ (T4.setTop (mkF m 60 #[.val (.ref ob), .val (.double vv), .second] [(.int (0 : Int32))]))
    have hq : Q_al1_1 Z ob vv h0 n0 (some (.int (nar .boolean (0 : Int32)))) h0 _ := ⟨(by show some (Value.int _) = _; simp [own_al1, nar, hc5]), N0, rfl⟩
    exact Go.retN X4 hx (t := .boolean) Bd.returns (by simp) hlk (hb hby d1_60) (by decide) (by decide) (by rw [e4]; exact hq)
  · skip
    refine Go.by (fun t k => XS.ifNo X4.here hx rfl (hb hby d1_14) rfl ((if0 _ _).trans (flt hc5).1) k) ?_
    show Go p e below _ (T4.setTop (mkF m 17 #[.val (.ref ob), .val (.double vv), .second] []))
    refine Go.by (fun t k => XS.dloadN X4.here hx rfl (hb hby d1_17) rfl k) ?_
    show Go p e below _ (T4.setTop (mkF m 18 #[.val (.ref ob), .val (.double vv), .second] [(.double vv)]))
    refine Go.by (fun t k => XS.aloadN X4.here hx rfl (hb hby d1_18) rfl rfl k) ?_
    show Go p e below _ (T4.setTop (mkF m 19 #[.val (.ref ob), .val (.double vv), .second] [(.ref ob), (.double vv)]))
    have F6 : Fld Z h0 ob "com/example/corpus_search/corpussearch/scoring/Parameter" "high" "I" (.int (1 : Int32)) := P3.ext O0.2
    obtain ⟨T7, X7, e7, st7⟩ := getF X4 hx hZ hown (host := "") (Or.inl (hw _ (List.mem_of_getElem? (i := 13) rfl))) Via.refl e4 F6 (g := (mkF m 19 #[.val (.ref ob), .val (.double vv), .second] [(.ref ob), (.double vv)])) rfl rfl (hb hby d1_19)
    refine Go.by st7 ?_
    show Go p e below _ (T7.setTop (mkF m 22 #[.val (.ref ob), .val (.double vv), .second] [(.int (1 : Int32)), (.double vv)]))
    refine Go.by (fun t k => XS.i2dS X7.here hx rfl (hb hby d1_22) rfl rfl k) ?_
    show Go p e below _ (T7.setTop (mkF m 23 #[.val (.ref ob), .val (.double vv), .second] [(.double (Jvm.FP.i2d (1 : Int32))), (.double vv)]))
    refine Go.by (fun t k => XS.dcmpS X7.here hx rfl (hb hby d1_23) rfl rfl k) ?_
    show Go p e below _ (T7.setTop (mkF m 24 #[.val (.ref ob), .val (.double vv), .second] [(.int (cmpValue (Jvm.FP.dcmp vv (Jvm.FP.i2d (1 : Int32))) .g))]))
    by_cases hc8 : (0 : Int32) < (cmpValue (Jvm.FP.dcmp vv (Jvm.FP.i2d (1 : Int32))) .g)
    · skip
      refine Go.by (fun t k => XS.ifYes X7.here hx rfl (pc0 := 24) (pc' := 31) rfl (hb hby d1_24) rfl ((if0 _ _).trans (tlt hc8).2.2.1) (by decide) (by decide) k) ?_
      show Go p e below _ (T7.setTop (mkF m 31 #[.val (.ref ob), .val (.double vv), .second] []))
      refine Go.by (fun t k => XS.iconst X7.here hx rfl (hb hby d1_31) k) ?_
      show Go p e below _ (T7.setTop (mkF m 32 #[.val (.ref ob), .val (.double vv), .second] [(.int (0 : Int32))]))
      refine Go.by (fun t k => XS.goto X7.here hx rfl (pc0 := 32) (pc' := 60) rfl (hb hby d1_32) (by decide) (by decide) k) ?_
      show Go p e below _ (T7.setTop (mkF m 60 #[.val (.ref ob), .val (.double vv), .second] [(.int (0 : Int32))]))
      have hq : Q_al1_1 Z ob vv h0 n0 (some (.int (nar .boolean (0 : Int32)))) h0 _ := ⟨(by show some (Value.int _) = _; simp [own_al1, nar, hc5, hc8]), N0, rfl⟩
      exact Go.retN X7 hx (t := .boolean) Bd.returns (by simp) hlk (hb hby d1_60) (by decide) (by decide) (by rw [e7]; exact hq)
    · skip
      refine Go.by (fun t k => XS.ifNo X7.here hx rfl (hb hby d1_24) rfl ((if0 _ _).trans (flt hc8).2.2.1) k) ?_
      show Go p e below _ (T7.setTop (mkF m 27 #[.val (.ref ob), .val (.double vv), .second] []))
      refine Go.by (fun t k => XS.iconst X7.here hx rfl (hb hby d1_27) k) ?_
      show Go p e below _ (T7.setTop (mkF m 28 #[.val (.ref ob), .val (.double vv), .second] [(.int (1 : Int32))]))
      refine Go.by (fun t k => XS.goto X7.here hx rfl (pc0 := 28) (pc' := 60) rfl (hb hby d1_28) (by decide) (by decide) k) ?_
      show Go p e below _ (T7.setTop (mkF m 60 #[.val (.ref ob), .val (.double vv), .second] [(.int (1 : Int32))]))
      have hq : Q_al1_1 Z ob vv h0 n0 (some (.int (nar .boolean (1 : Int32)))) h0 _ := ⟨(by show some (Value.int _) = _; simp [own_al1, nar, hc5, hc8]), N0, rfl⟩
      exact Go.retN X7 hx (t := .boolean) Bd.returns (by simp) hlk (hb hby d1_60) (by decide) (by decide) (by rw [e7]; exact hq)
theorem d1_35 : decode prog_61_method_6_code 35 = .ok (.dload_n 1, 1) := by decide +kernel
theorem d1_36 : decode prog_61_method_6_code 36 = .ok (.aload_n 0, 1) := by decide +kernel
theorem d1_37 : decode prog_61_method_6_code 37 = .ok (.getfield 39, 3) := by decide +kernel
theorem d1_40 : decode prog_61_method_6_code 40 = .ok (.i2d, 1) := by decide +kernel
theorem d1_41 : decode prog_61_method_6_code 41 = .ok (.dcmp .l, 1) := by decide +kernel
theorem d1_42 : decode prog_61_method_6_code 42 = .ok (.ifCond .le 17, 3) := by decide +kernel
theorem d1_45 : decode prog_61_method_6_code 45 = .ok (.dload_n 1, 1) := by decide +kernel
theorem d1_46 : decode prog_61_method_6_code 46 = .ok (.aload_n 0, 1) := by decide +kernel
theorem d1_47 : decode prog_61_method_6_code 47 = .ok (.getfield 43, 3) := by decide +kernel
theorem d1_50 : decode prog_61_method_6_code 50 = .ok (.i2d, 1) := by decide +kernel
theorem d1_51 : decode prog_61_method_6_code 51 = .ok (.dcmp .g, 1) := by decide +kernel
theorem d1_52 : decode prog_61_method_6_code 52 = .ok (.ifCond .ge 7, 3) := by decide +kernel
theorem d1_55 : decode prog_61_method_6_code 55 = .ok (.iconst 1, 1) := by decide +kernel
theorem d1_56 : decode prog_61_method_6_code 56 = .ok (.goto 4, 3) := by decide +kernel
theorem d1_59 : decode prog_61_method_6_code 59 = .ok (.iconst 0, 1) := by decide +kernel
theorem ef_al0_1 (m : MethodId) (ob : Addr) (vv : UInt64) : entryFrame m #[(.ref ob), (.double vv)] 3 = mkF m 0 #[.val (.ref ob), .val (.double vv), .second] [] := by first | (simp [entryFrame, mkF, argsToLocals, Value.category]; done) | rfl
def Q_al0_1 (Z : State) (ob : Addr) (vv : UInt64) (h0 : Heap) (n0 : Nat) (v : Option Value) (h : Heap) (L : List Loc) : Prop := v = some (.int (own_al0 vv (Jvm.FP.i2d (0 : Int32)) (Jvm.FP.i2d (1 : Int32)))) ∧ Fr n0 L ∧ h = h0
set_option maxRecDepth 65536 in
set_option maxHeartbeats 40000000 in
theorem al0_1 (l : Launch) (Z : State) (a0 : Array Value) (hw : ∀ d ∈ tables_1, d.before a0 Z = true) (ws : List Jvm.Cond) (ob : Addr) (vv : UInt64) (h0 : Heap) (n0 : Nat) (O0 : Old Z n0 h0) (P0 : Exa Z Z.heap ob "com/example/corpus_search/corpussearch/scoring/Parameter") (P1 : Fld Z Z.heap ob "com/example/corpus_search/corpussearch/scoring/Parameter" "boundsAllowed" "Z" (.int (0 : Int32))) (P2 : Fld Z Z.heap ob "com/example/corpus_search/corpussearch/scoring/Parameter" "low" "I" (.int (0 : Int32))) (P3 : Fld Z Z.heap ob "com/example/corpus_search/corpussearch/scoring/Parameter" "high" "I" (.int (1 : Int32))) :
    MetFree l (⟨"com/example/corpus_search/corpussearch/scoring/Parameter", "allows", "(D)Z"⟩ : MethodName) (head1 (Jvm.Cond.code (⟨"com/example/corpus_search/corpussearch/scoring/Parameter", "allows", "(D)Z"⟩ : MethodName) prog_61_method_6_code 3 (some .boolean) :: ws) ({ frames := 0, cells := 0, slots := 0, locals := 0 } : Room)) (fun a U => a = #[(.ref ob), (.double vv)] ∧ Z.Warmed39 U.vm ∧ U.heap = h0) (fun _ _ _ _ _ => True) (fun _ U o U' => ∃ v L, o = .returned v ∧ Q_al0_1 Z ob vv h0 n0 v U'.heap L ∧ FrameEnd U o U' L ({ frames := 0, cells := 0, slots := 0, locals := 0 } : Room).cells ({ frames := 0, cells := 0, slots := 0, locals := 0 } : Room).slots) := by
  refine MetFree.of_bodySF (plainFor_of_name pn_0) hisR ?_
  intro p e s m args below meth c s₁ Bd hml0 hP hK
  obtain ⟨rfl, hZ, hh⟩ := hP
  have hx := Bd.exec
  have hby := Bd.bytes
  have hml : c.maxLocals = 3 := hml0
  have hown : s.vm.findClass "com/example/corpus_search/corpussearch/scoring/Parameter" = some m.cls := findClass_of_methodNamed Bd.named
  have hnm := (name_of_methodNamed Bd.named Bd.method).1
  have hlk := BodyLoose.notSynchronized Bd
  have X0 : Stand p l e ({ frames := 0, cells := 0, slots := 0, locals := 0 } : Room) s m #[(.ref ob), (.double vv)] below meth c s₁ [] 0 0 := Stand.of_body Bd
  have e0 : s₁.heap = h0 := by rw [← hh, Bd.state]; rfl
  have N0 := Fr.nil n0
  refine Go.start (P := fun o U' => ∃ v L, o = .returned v ∧ Q_al0_1 Z ob vv h0 n0 v U'.heap L ∧ FrameEnd s o U' L ({ frames := 0, cells := 0, slots := 0, locals := 0 } : Room).cells ({ frames := 0, cells := 0, slots := 0, locals := 0 } : Room).slots) (ef_al0_1 m ob vv) ?_
  show Go p e below _ (s₁.setTop (mkF m 0 #[.val (.ref ob), .val (.double vv), .second] []))
  refine Go.by (fun t k => XS.aloadN X0.here hx rfl (hb hby d1_0) rfl rfl k) ?_
  show Go p e below _ (s₁.setTop (mkF m 1 #[.val (.ref ob), .val (.double vv), .second] [(.ref ob)]))
  have F1 : Fld Z h0 ob "com/example/corpus_search/corpussearch/scoring/Parameter" "boundsAllowed" "Z" (.int (0 : Int32)) := P1.ext O0.2
  obtain ⟨T2, X2, e2, st2⟩ := getF X0 hx hZ hown (host := "") (Or.inl (hw _ (List.mem_of_getElem? (i := 9) rfl))) Via.refl e0 F1 (g := (mkF m 1 #[.val (.ref ob), .val (.double vv), .second] [(.ref ob)])) rfl rfl (hb hby d1_1)
  refine Go.by st2 ?_
  show Go p e below _ (T2.setTop (mkF m 4 #[.val (.ref ob), .val (.double vv), .second] [(.int (0 : Int32))]))
  refine Go.by (fun t k => XS.ifYes X2.here hx rfl (pc0 := 4) (pc' := 35) rfl (hb hby d1_4) rfl ((if0 _ _).trans (teq rfl).1) (by decide) (by decide) k) ?_
  show Go p e below _ (T2.setTop (mkF m 35 #[.val (.ref ob), .val (.double vv), .second] []))
  refine Go.by (fun t k => XS.dloadN X2.here hx rfl (hb hby d1_35) rfl k) ?_
  show Go p e below _ (T2.setTop (mkF m 36 #[.val (.ref ob), .val (.double vv), .second] [(.double vv)]))
  refine Go.by (fun t k => XS.aloadN X2.here hx rfl (hb hby d1_36) rfl rfl k) ?_
  show Go p e below _ (T2.setTop (mkF m 37 #[.val (.ref ob), .val (.double vv), .second] [(.ref ob), (.double vv)]))
  have F3 : Fld Z h0 ob "com/example/corpus_search/corpussearch/scoring/Parameter" "low" "I" (.int (0 : Int32)) := P2.ext O0.2
  obtain ⟨T4, X4, e4, st4⟩ := getF X2 hx hZ hown (host := "") (Or.inl (hw _ (List.mem_of_getElem? (i := 11) rfl))) Via.refl e2 F3 (g := (mkF m 37 #[.val (.ref ob), .val (.double vv), .second] [(.ref ob), (.double vv)])) rfl rfl (hb hby d1_37)
  refine Go.by st4 ?_
  show Go p e below _ (T4.setTop (mkF m 40 #[.val (.ref ob), .val (.double vv), .second] [(.int (0 : Int32)), (.double vv)]))
  refine Go.by (fun t k => XS.i2dS X4.here hx rfl (hb hby d1_40) rfl rfl k) ?_
  show Go p e below _ (T4.setTop (mkF m 41 #[.val (.ref ob), .val (.double vv), .second] [(.double (Jvm.FP.i2d (0 : Int32))), (.double vv)]))
  refine Go.by (fun t k => XS.dcmpS X4.here hx rfl (hb hby d1_41) rfl rfl k) ?_
  show Go p e below _ (T4.setTop (mkF m 42 #[.val (.ref ob), .val (.double vv), .second] [(.int (cmpValue (Jvm.FP.dcmp vv (Jvm.FP.i2d (0 : Int32))) .l))]))
  by_cases hc5 : (0 : Int32) < (cmpValue (Jvm.FP.dcmp vv (Jvm.FP.i2d (0 : Int32))) .l)
  · skip
    refine Go.by (fun t k => XS.ifNo X4.here hx rfl (hb hby d1_42) rfl ((if0 _ _).trans (tlt hc5).2.2.2) k) ?_
    show Go p e below _ (T4.setTop (mkF m 45 #[.val (.ref ob), .val (.double vv), .second] []))
    refine Go.by (fun t k => XS.dloadN X4.here hx rfl (hb hby d1_45) rfl k) ?_
    show Go p e below _ (T4.setTop (mkF m 46 #[.val (.ref ob), .val (.double vv), .second] [(.double vv)]))
    refine Go.by (fun t k => XS.aloadN X4.here hx rfl (hb hby d1_46) rfl rfl k) ?_
    show Go p e below _ (T4.setTop (mkF m 47 #[.val (.ref ob), .val (.double vv), .second] [(.ref ob), (.double vv)]))
    have F6 : Fld Z h0 ob "com/example/corpus_search/corpussearch/scoring/Parameter" "high" "I" (.int (1 : Int32)) := P3.ext O0.2
    obtain ⟨T7, X7, e7, st7⟩ := getF X4 hx hZ hown (host := "") (Or.inl (hw _ (List.mem_of_getElem? (i := 13) rfl))) Via.refl e4 F6 (g := (mkF m 47 #[.val (.ref ob), .val (.double vv), .second] [(.ref ob), (.double vv)])) rfl rfl (hb hby d1_47)
    refine Go.by st7 ?_
    show Go p e below _ (T7.setTop (mkF m 50 #[.val (.ref ob), .val (.double vv), .second] [(.int (1 : Int32)), (.double vv)]))
    refine Go.by (fun t k => XS.i2dS X7.here hx rfl (hb hby d1_50) rfl rfl k) ?_
    show Go p e below _ (T7.setTop (mkF m 51 #[.val (.ref ob), .val (.double vv), .second] [(.double (Jvm.FP.i2d (1 : Int32))), (.double vv)]))
    refine Go.by (fun t k => XS.dcmpS X7.here hx rfl (hb hby d1_51) rfl rfl k) ?_
    show Go p e below _ (T7.setTop (mkF m 52 #[.val (.ref ob), .val (.double vv), .second] [(.int (cmpValue (Jvm.FP.dcmp vv (Jvm.FP.i2d (1 : Int32))) .g))]))
    by_cases hc8 : (cmpValue (Jvm.FP.dcmp vv (Jvm.FP.i2d (1 : Int32))) .g) < (0 : Int32)
    · skip
      refine Go.by (fun t k => XS.ifNo X7.here hx rfl (hb hby d1_52) rfl ((if0 _ _).trans (tlt hc8).2.1) k) ?_
      show Go p e below _ (T7.setTop (mkF m 55 #[.val (.ref ob), .val (.double vv), .second] []))
      refine Go.by (fun t k => XS.iconst X7.here hx rfl (hb hby d1_55) k) ?_
      show Go p e below _ (T7.setTop (mkF m 56 #[.val (.ref ob), .val (.double vv), .second] [(.int (1 : Int32))]))
      refine Go.by (fun t k => XS.goto X7.here hx rfl (pc0 := 56) (pc' := 60) rfl (hb hby d1_56) (by decide) (by decide) k) ?_
      show Go p e below _ (T7.setTop (mkF m 60 #[.val (.ref ob), .val (.double vv), .second] [(.int (1 : Int32))]))
      have hq : Q_al0_1 Z ob vv h0 n0 (some (.int (nar .boolean (1 : Int32)))) h0 _ := ⟨(by show some (Value.int _) = _; simp [own_al0, nar, hc5, hc8]), N0, rfl⟩
      exact Go.retN X7 hx (t := .boolean) Bd.returns (by simp) hlk (hb hby d1_60) (by decide) (by decide) (by rw [e7]; exact hq)
    · skip
      refine Go.by (fun t k => XS.ifYes X7.here hx rfl (pc0 := 52) (pc' := 59) rfl (hb hby d1_52) rfl ((if0 _ _).trans (flt hc8).2.1) (by decide) (by decide) k) ?_
      show Go p e below _ (T7.setTop (mkF m 59 #[.val (.ref ob), .val (.double vv), .second] []))
      refine Go.by (fun t k => XS.iconst X7.here hx rfl (hb hby d1_59) k) ?_
      show Go p e below _ (T7.setTop (mkF m 60 #[.val (.ref ob), .val (.double vv), .second] [(.int (0 : Int32))]))
      have hq : Q_al0_1 Z ob vv h0 n0 (some (.int (nar .boolean (0 : Int32)))) h0 _ := ⟨(by show some (Value.int _) = _; simp [own_al0, nar, hc5, hc8]), N0, rfl⟩
      exact Go.retN X7 hx (t := .boolean) Bd.returns (by simp) hlk (hb hby d1_60) (by decide) (by decide) (by rw [e7]; exact hq)
  · skip
    refine Go.by (fun t k => XS.ifYes X4.here hx rfl (pc0 := 42) (pc' := 59) rfl (hb hby d1_42) rfl ((if0 _ _).trans (flt hc5).2.2.2) (by decide) (by decide) k) ?_
    show Go p e below _ (T4.setTop (mkF m 59 #[.val (.ref ob), .val (.double vv), .second] []))
    refine Go.by (fun t k => XS.iconst X4.here hx rfl (hb hby d1_59) k) ?_
    show Go p e below _ (T4.setTop (mkF m 60 #[.val (.ref ob), .val (.double vv), .second] [(.int (0 : Int32))]))
    have hq : Q_al0_1 Z ob vv h0 n0 (some (.int (nar .boolean (0 : Int32)))) h0 _ := ⟨(by show some (Value.int _) = _; simp [own_al0, nar, hc5]), N0, rfl⟩
    exact Go.retN X4 hx (t := .boolean) Bd.returns (by simp) hlk (hb hby d1_60) (by decide) (by decide) (by rw [e4]; exact hq)
theorem pn_1 : plainName "com/example/corpus_search/corpussearch/scoring/ParameterAllowsPinLaw" = true := by first | (simp [plainName, overriddenIn]; done) | decide +kernel
theorem pd_0 : parseMethodDescriptor "(D)Z" = some ⟨[.double], some .boolean⟩ := by decide +kernel
theorem ef_law (m : MethodId) (ise : Int32) (ix : Int32) : entryFrame m #[(.int ise), (.int ix)] maxLocals = mkF m 0 #[.val (.int ise), .val (.int ix), .unset, .unset, .unset, .unset, .unset] [] := by first | (simp [entryFrame, mkF, argsToLocals, Value.category, maxLocals]; done) | rfl
def Q_law (Z : State) (ise : Int32) (ix : Int32) (k1 : Addr) (k2 : Addr) (k3 : Addr) (k4 : Addr) (h0 : Heap) (n0 : Nat) (v : Option Value) (h : Heap) (L : List Loc) : Prop := v = some (.int (1 : Int32)) ∧ Fr n0 L ∧ h = h0
set_option maxRecDepth 65536 in
set_option maxHeartbeats 40000000 in
theorem law (l : Launch) (Z : State) (a0 : Array Value) (hw : ∀ d ∈ tables_1, d.before a0 Z = true) (ws : List Jvm.Cond) (ise : Int32) (ix : Int32) (k1 : Addr) (k2 : Addr) (k3 : Addr) (k4 : Addr) (h0 : Heap) (n0 : Nat) (O0 : Old Z n0 h0) (P0 : Sta Z Z.heap "com/example/corpus_search/corpussearch/scoring/Parameter" "K1" "Lcom/example/corpus_search/corpussearch/scoring/Parameter;" (.ref k1)) (P1 : Sta Z Z.heap "com/example/corpus_search/corpussearch/scoring/Parameter" "B" "Lcom/example/corpus_search/corpussearch/scoring/Parameter;" (.ref k2)) (P2 : Sta Z Z.heap "com/example/corpus_search/corpussearch/scoring/Parameter" "DELTA" "Lcom/example/corpus_search/corpussearch/scoring/Parameter;" (.ref k3)) (P3 : Sta Z Z.heap "com/example/corpus_search/corpussearch/scoring/Parameter" "LAMBDA" "Lcom/example/corpus_search/corpussearch/scoring/Parameter;" (.ref k4)) (P4 : Exa Z Z.heap k1 "com/example/corpus_search/corpussearch/scoring/Parameter") (P5 : Fld Z Z.heap k1 "com/example/corpus_search/corpussearch/scoring/Parameter" "boundsAllowed" "Z" (.int (1 : Int32))) (P6 : Fld Z Z.heap k1 "com/example/corpus_search/corpussearch/scoring/Parameter" "low" "I" (.int (0 : Int32))) (P7 : Fld Z Z.heap k1 "com/example/corpus_search/corpussearch/scoring/Parameter" "high" "I" (.int (1000 : Int32))) (P8 : Exa Z Z.heap k2 "com/example/corpus_search/corpussearch/scoring/Parameter") (P9 : Fld Z Z.heap k2 "com/example/corpus_search/corpussearch/scoring/Parameter" "boundsAllowed" "Z" (.int (1 : Int32))) (P10 : Fld Z Z.heap k2 "com/example/corpus_search/corpussearch/scoring/Parameter" "low" "I" (.int (0 : Int32))) (P11 : Fld Z Z.heap k2 "com/example/corpus_search/corpussearch/scoring/Parameter" "high" "I" (.int (1 : Int32))) (P12 : Exa Z Z.heap k3 "com/example/corpus_search/corpussearch/scoring/Parameter") (P13 : Fld Z Z.heap k3 "com/example/corpus_search/corpussearch/scoring/Parameter" "boundsAllowed" "Z" (.int (1 : Int32))) (P14 : Fld Z Z.heap k3 "com/example/corpus_search/corpussearch/scoring/Parameter" "low" "I" (.int (0 : Int32))) (P15 : Fld Z Z.heap k3 "com/example/corpus_search/corpussearch/scoring/Parameter" "high" "I" (.int (1000 : Int32))) (P16 : Exa Z Z.heap k4 "com/example/corpus_search/corpussearch/scoring/Parameter") (P17 : Fld Z Z.heap k4 "com/example/corpus_search/corpussearch/scoring/Parameter" "boundsAllowed" "Z" (.int (0 : Int32))) (P18 : Fld Z Z.heap k4 "com/example/corpus_search/corpussearch/scoring/Parameter" "low" "I" (.int (0 : Int32))) (P19 : Fld Z Z.heap k4 "com/example/corpus_search/corpussearch/scoring/Parameter" "high" "I" (.int (1 : Int32))) :
    MetFree l x (head1 (Jvm.Cond.code x code maxLocals ret :: ws) room_1) (fun a U => a = #[(.int ise), (.int ix)] ∧ Z.Warmed39 U.vm ∧ U.heap = h0) (fun _ _ _ _ _ => True) (fun _ U o U' => ∃ v L, o = .returned v ∧ Q_law Z ise ix k1 k2 k3 k4 h0 n0 v U'.heap L ∧ FrameEnd U o U' L room_1.cells room_1.slots) := by
  refine MetFree.of_bodySF (plainFor_of_name pn_1) hisR ?_
  intro p e s m args below meth c s₁ Bd hml0 hP hK
  obtain ⟨rfl, hZ, hh⟩ := hP
  have hx := Bd.exec
  have hby := Bd.bytes
  have hml : c.maxLocals = 7 := hml0
  have hown : s.vm.findClass "com/example/corpus_search/corpussearch/scoring/ParameterAllowsPinLaw" = some m.cls := findClass_of_methodNamed Bd.named
  have hnm := (name_of_methodNamed Bd.named Bd.method).1
  have hlk := BodyLoose.notSynchronized Bd
  have X0 : Stand p l e room_1 s m #[(.int ise), (.int ix)] below meth c s₁ [] 0 0 := Stand.of_body Bd
  have e0 : s₁.heap = h0 := by rw [← hh, Bd.state]; rfl
  have N0 := Fr.nil n0
  refine Go.start (P := fun o U' => ∃ v L, o = .returned v ∧ Q_law Z ise ix k1 k2 k3 k4 h0 n0 v U'.heap L ∧ FrameEnd s o U' L room_1.cells room_1.slots) (ef_law m ise ix) ?_
  show Go p e below _ (s₁.setTop (mkF m 0 #[.val (.int ise), .val (.int ix), .unset, .unset, .unset, .unset, .unset] []))
  refine Go.by (fun t k => XS.iloadN X0.here hx rfl (hb hby at_0) rfl k) ?_
  show Go p e below _ (s₁.setTop (mkF m 1 #[.val (.int ise), .val (.int ix), .unset, .unset, .unset, .unset, .unset] [(.int ise)]))
  refine Go.by (fun t k => XS.iconst X0.here hx rfl (hb hby at_1) k) ?_
  show Go p e below _ (s₁.setTop (mkF m 2 #[.val (.int ise), .val (.int ix), .unset, .unset, .unset, .unset, .unset] [(.int (3 : Int32)), (.int ise)]))
  refine Go.by (fun t k => XS.iand X0.here hx rfl (hb hby at_2) rfl k) ?_
  show Go p e below _ (s₁.setTop (mkF m 3 #[.val (.int ise), .val (.int ix), .unset, .unset, .unset, .unset, .unset] [(.int (ise &&& (3 : Int32)))]))
  refine Go.by (fun t k => XS.istoreN X0.here hx rfl (hb hby at_3) rfl (l' := #[.val (.int ise), .val (.int ix), .val (.int (ise &&& (3 : Int32))), .unset, .unset, .unset, .unset]) rfl k) ?_
  show Go p e below _ (s₁.setTop (mkF m 4 #[.val (.int ise), .val (.int ix), .val (.int (ise &&& (3 : Int32))), .unset, .unset, .unset, .unset] []))
  refine Go.by (fun t k => XS.iloadN X0.here hx rfl (hb hby at_4) rfl k) ?_
  show Go p e below _ (s₁.setTop (mkF m 5 #[.val (.int ise), .val (.int ix), .val (.int (ise &&& (3 : Int32))), .unset, .unset, .unset, .unset] [(.int ix)]))
  refine Go.by (fun t k => XS.i2dS X0.here hx rfl (hb hby at_5) rfl rfl k) ?_
  show Go p e below _ (s₁.setTop (mkF m 6 #[.val (.int ise), .val (.int ix), .val (.int (ise &&& (3 : Int32))), .unset, .unset, .unset, .unset] [(.double (Jvm.FP.i2d ix))]))
  refine Go.by (fun t k => X0.ldc2DoubleC hx hown (mvT hZ (hw _ (List.mem_of_getElem? (i := 0) rfl))) (g := (mkF m 6 #[.val (.int ise), .val (.int ix), .val (.int (ise &&& (3 : Int32))), .unset, .unset, .unset, .unset] [(.double (Jvm.FP.i2d ix))])) rfl (hb hby at_6) t k) ?_
  show Go p e below _ (s₁.setTop (mkF m 9 #[.val (.int ise), .val (.int ix), .val (.int (ise &&& (3 : Int32))), .unset, .unset, .unset, .unset] [(.double (4616189618054758400 : UInt64)), (.double (Jvm.FP.i2d ix))]))
  refine Go.by (fun t k => XS.ddivS X0.here hx rfl (hb hby at_9) rfl (own_nn _) rfl k) ?_
  show Go p e below _ (s₁.setTop (mkF m 10 #[.val (.int ise), .val (.int ix), .val (.int (ise &&& (3 : Int32))), .unset, .unset, .unset, .unset] [(.double (Jvm.FP.ddiv (Jvm.FP.i2d ix) (4616189618054758400 : UInt64)))]))
  refine Go.by (fun t k => XS.dstoreN X0.here hx rfl (hb hby at_10) rfl (l' := #[.val (.int ise), .val (.int ix), .val (.int (ise &&& (3 : Int32))), .val (.double (Jvm.FP.ddiv (Jvm.FP.i2d ix) (4616189618054758400 : UInt64))), .second, .unset, .unset]) rfl k) ?_
  show Go p e below _ (s₁.setTop (mkF m 11 #[.val (.int ise), .val (.int ix), .val (.int (ise &&& (3 : Int32))), .val (.double (Jvm.FP.ddiv (Jvm.FP.i2d ix) (4616189618054758400 : UInt64))), .second, .unset, .unset] []))
  refine Go.by (fun t k => XS.iloadN X0.here hx rfl (hb hby at_11) rfl k) ?_
  show Go p e below _ (s₁.setTop (mkF m 12 #[.val (.int ise), .val (.int ix), .val (.int (ise &&& (3 : Int32))), .val (.double (Jvm.FP.ddiv (Jvm.FP.i2d ix) (4616189618054758400 : UInt64))), .second, .unset, .unset] [(.int (ise &&& (3 : Int32)))]))
  by_cases hc1 : (ise &&& (3 : Int32)) = (0 : Int32)
  · skip
    refine Go.by (fun t k => XS.ifNo X0.here hx rfl (hb hby at_12) rfl ((if0 _ _).trans (teq hc1).2) k) ?_
    show Go p e below _ (s₁.setTop (mkF m 15 #[.val (.int ise), .val (.int ix), .val (.int (ise &&& (3 : Int32))), .val (.double (Jvm.FP.ddiv (Jvm.FP.i2d ix) (4616189618054758400 : UInt64))), .second, .unset, .unset] []))
    have F2 : Sta Z h0 "com/example/corpus_search/corpussearch/scoring/Parameter" "K1" "Lcom/example/corpus_search/corpussearch/scoring/Parameter;" (.ref k1) := P0.ext O0.2
    obtain ⟨T3, X3, e3, st3⟩ := getS2 X0 hx hZ hown (host := "") (Or.inl (hw _ (List.mem_of_getElem? (i := 1) rfl))) Via.refl e0 F2 (g := (mkF m 15 #[.val (.int ise), .val (.int ix), .val (.int (ise &&& (3 : Int32))), .val (.double (Jvm.FP.ddiv (Jvm.FP.i2d ix) (4616189618054758400 : UInt64))), .second, .unset, .unset] [])) rfl (hb hby at_15)
    refine Go.by st3 ?_
    show Go p e below _ (T3.setTop (mkF m 18 #[.val (.int ise), .val (.int ix), .val (.int (ise &&& (3 : Int32))), .val (.double (Jvm.FP.ddiv (Jvm.FP.i2d ix) (4616189618054758400 : UInt64))), .second, .unset, .unset] [(.ref k1)]))
    refine Go.by (fun t k => XS.astore X3.here hx rfl (hb hby at_18) rfl rfl (l' := #[.val (.int ise), .val (.int ix), .val (.int (ise &&& (3 : Int32))), .val (.double (Jvm.FP.ddiv (Jvm.FP.i2d ix) (4616189618054758400 : UInt64))), .second, .val (.ref k1), .unset]) rfl k) ?_
    show Go p e below _ (T3.setTop (mkF m 20 #[.val (.int ise), .val (.int ix), .val (.int (ise &&& (3 : Int32))), .val (.double (Jvm.FP.ddiv (Jvm.FP.i2d ix) (4616189618054758400 : UInt64))), .second, .val (.ref k1), .unset] []))
    refine Go.by (fun t k => XS.iloadN X3.here hx rfl (hb hby at_20) rfl k) ?_
    show Go p e below _ (T3.setTop (mkF m 21 #[.val (.int ise), .val (.int ix), .val (.int (ise &&& (3 : Int32))), .val (.double (Jvm.FP.ddiv (Jvm.FP.i2d ix) (4616189618054758400 : UInt64))), .second, .val (.ref k1), .unset] [(.int ix)]))
    by_cases hc4 : ix < (0 : Int32)
    · skip
      refine Go.by (fun t k => XS.ifYes X3.here hx rfl (pc0 := 21) (pc' := 35) rfl (hb hby at_21) rfl ((if0 _ _).trans (tlt hc4).1) (by decide) (by decide) k) ?_
      show Go p e below _ (T3.setTop (mkF m 35 #[.val (.int ise), .val (.int ix), .val (.int (ise &&& (3 : Int32))), .val (.double (Jvm.FP.ddiv (Jvm.FP.i2d ix) (4616189618054758400 : UInt64))), .second, .val (.ref k1), .unset] []))
      refine Go.by (fun t k => XS.iconst X3.here hx rfl (hb hby at_35) k) ?_
      show Go p e below _ (T3.setTop (mkF m 36 #[.val (.int ise), .val (.int ix), .val (.int (ise &&& (3 : Int32))), .val (.double (Jvm.FP.ddiv (Jvm.FP.i2d ix) (4616189618054758400 : UInt64))), .second, .val (.ref k1), .unset] [(.int (0 : Int32))]))
      refine Go.by (fun t k => XS.istore X3.here hx rfl (hb hby at_36) rfl (l' := #[.val (.int ise), .val (.int ix), .val (.int (ise &&& (3 : Int32))), .val (.double (Jvm.FP.ddiv (Jvm.FP.i2d ix) (4616189618054758400 : UInt64))), .second, .val (.ref k1), .val (.int (0 : Int32))]) rfl k) ?_
      show Go p e below _ (T3.setTop (mkF m 38 #[.val (.int ise), .val (.int ix), .val (.int (ise &&& (3 : Int32))), .val (.double (Jvm.FP.ddiv (Jvm.FP.i2d ix) (4616189618054758400 : UInt64))), .second, .val (.ref k1), .val (.int (0 : Int32))] []))
      refine Go.by (fun t k => XS.goto X3.here hx rfl (pc0 := 38) (pc' := 122) rfl (hb hby at_38) (by decide) (by decide) k) ?_
      show Go p e below _ (T3.setTop (mkF m 122 #[.val (.int ise), .val (.int ix), .val (.int (ise &&& (3 : Int32))), .val (.double (Jvm.FP.ddiv (Jvm.FP.i2d ix) (4616189618054758400 : UInt64))), .second, .val (.ref k1), .val (.int (0 : Int32))] []))
      refine Go.by (fun t k => XS.aload X3.here hx rfl (hb hby at_122) rfl rfl k) ?_
      show Go p e below _ (T3.setTop (mkF m 124 #[.val (.int ise), .val (.int ix), .val (.int (ise &&& (3 : Int32))), .val (.double (Jvm.FP.ddiv (Jvm.FP.i2d ix) (4616189618054758400 : UInt64))), .second, .val (.ref k1), .val (.int (0 : Int32))] [(.ref k1)]))
      refine Go.by (fun t k => XS.dloadN X3.here hx rfl (hb hby at_124) rfl k) ?_
      show Go p e below _ (T3.setTop (mkF m 125 #[.val (.int ise), .val (.int ix), .val (.int (ise &&& (3 : Int32))), .val (.double (Jvm.FP.ddiv (Jvm.FP.i2d ix) (4616189618054758400 : UInt64))), .second, .val (.ref k1), .val (.int (0 : Int32))] [(.double (Jvm.FP.ddiv (Jvm.FP.i2d ix) (4616189618054758400 : UInt64))), (.ref k1)]))
      have F6 : Exa Z h0 k1 "com/example/corpus_search/corpussearch/scoring/Parameter" := P4.ext O0.2
      obtain ⟨cq5, kq5, q5a, q5b, q5c⟩ := isOf hZ e3 F6
      obtain ⟨_, _, ⟨T5, L5, k5, n5⟩, -, X5, ⟨Lc5, hQ5, l5, y5, z5⟩, st5⟩ := X3.virtualBack hx (y := (⟨"com/example/corpus_search/corpussearch/scoring/Parameter", "allows", "(D)Z"⟩ : MethodName)) (z := (⟨"com/example/corpus_search/corpussearch/scoring/Parameter", "allows", "(D)Z"⟩ : MethodName)) hown (mvT hZ (hw _ (List.mem_of_getElem? (i := 4) rfl))) (mvT hZ (hw _ (List.mem_of_getElem? (i := 5) rfl))) (notFace_of_selects (args := #[]) (mvT hZ (hw _ (List.mem_of_getElem? (i := 7) rfl)))) (mvT hZ (hw _ (List.mem_of_getElem? (i := 7) rfl))) (mvT hZ (hw _ (List.mem_of_getElem? (i := 6) rfl))) (by decide) (backOf (W := 0) (al1_1000 l Z a0 hw [] k1 (Jvm.FP.ddiv (Jvm.FP.i2d ix) (4616189618054758400 : UInt64)) h0 n0 O0 P4 P5 P6 P7) hZ (hw _ (List.mem_of_getElem? (i := 8) rfl)) (hw _ (List.mem_of_getElem? (i := 2) rfl)) (by decide) (by decide)) q5a q5c (g := (mkF m 125 #[.val (.int ise), .val (.int ix), .val (.int (ise &&& (3 : Int32))), .val (.double (Jvm.FP.ddiv (Jvm.FP.i2d ix) (4616189618054758400 : UInt64))), .second, .val (.ref k1), .val (.int (0 : Int32))] [(.double (Jvm.FP.ddiv (Jvm.FP.i2d ix) (4616189618054758400 : UInt64))), (.ref k1)])) rfl (by rw [hml]; rfl) (Steps.refl _) (argsL := [(.double (Jvm.FP.ddiv (Jvm.FP.i2d ix) (4616189618054758400 : UInt64)))]) (rest := []) (lenOf pd_0 rfl) rfl (by show 2 * 0 + _ ≤ _; exact Nat.le_of_eq rfl) (hb hby at_125) (fun _ _ => ⟨rfl, e3, (by decide : 0 + 0 ≤ _), (by decide : 0 + 0 ≤ _)⟩)
      dsimp only [Pt.U, Pt.locs, Pt.cells, Pt.slots] at X5 l5 y5 z5 st5 hQ5
      subst l5 y5 z5
      obtain ⟨rfl, N5q, e5⟩ := hQ5
      have N5 := Fr.app N0 N5q
      refine Go.tr st5 ?_
      show Go p e below _ (T5.setTop (mkF m 128 #[.val (.int ise), .val (.int ix), .val (.int (ise &&& (3 : Int32))), .val (.double (Jvm.FP.ddiv (Jvm.FP.i2d ix) (4616189618054758400 : UInt64))), .second, .val (.ref k1), .val (.int (0 : Int32))] [(.int (own_al1 (Jvm.FP.ddiv (Jvm.FP.i2d ix) (4616189618054758400 : UInt64)) (Jvm.FP.i2d (0 : Int32)) (Jvm.FP.i2d (1000 : Int32))))]))
      refine Go.by (fun t k => XS.iload X5.here hx rfl (hb hby at_128) rfl k) ?_
      show Go p e below _ (T5.setTop (mkF m 130 #[.val (.int ise), .val (.int ix), .val (.int (ise &&& (3 : Int32))), .val (.double (Jvm.FP.ddiv (Jvm.FP.i2d ix) (4616189618054758400 : UInt64))), .second, .val (.ref k1), .val (.int (0 : Int32))] [(.int (0 : Int32)), (.int (own_al1 (Jvm.FP.ddiv (Jvm.FP.i2d ix) (4616189618054758400 : UInt64)) (Jvm.FP.i2d (0 : Int32)) (Jvm.FP.i2d (1000 : Int32))))]))
      refine Go.by (fun t k => XS.icmpNo X5.here hx rfl (hb hby at_130) rfl (teq (by have z0 : (0 : Int32).toInt = 0 := rfl; have z4 : (4 : Int32).toInt = 4 := rfl; have z4000 : (4000 : Int32).toInt = 4000 := rfl; have q1 := hc4; rw [Int32.lt_iff_toInt_lt] at q1; rw [own_r1 _ _ _ own_q1000]; first | (rw [if_neg (by omega), if_neg (by omega)]; done) | (rw [if_pos (by omega)]; done) | (rw [if_neg (by omega), if_pos (by omega)]; done) | (rw [if_pos (by omega), if_pos (by omega)]; done) | (rw [if_pos (by omega), if_neg (by omega)]; done) | (rw [if_neg (by omega)]; done))).2 k) ?_
      show Go p e below _ (T5.setTop (mkF m 133 #[.val (.int ise), .val (.int ix), .val (.int (ise &&& (3 : Int32))), .val (.double (Jvm.FP.ddiv (Jvm.FP.i2d ix) (4616189618054758400 : UInt64))), .second, .val (.ref k1), .val (.int (0 : Int32))] []))
      refine Go.by (fun t k => XS.iconst X5.here hx rfl (hb hby at_133) k) ?_
      show Go p e below _ (T5.setTop (mkF m 134 #[.val (.int ise), .val (.int ix), .val (.int (ise &&& (3 : Int32))), .val (.double (Jvm.FP.ddiv (Jvm.FP.i2d ix) (4616189618054758400 : UInt64))), .second, .val (.ref k1), .val (.int (0 : Int32))] [(.int (1 : Int32))]))
      refine Go.by (fun t k => XS.goto X5.here hx rfl (pc0 := 134) (pc' := 138) rfl (hb hby at_134) (by decide) (by decide) k) ?_
      show Go p e below _ (T5.setTop (mkF m 138 #[.val (.int ise), .val (.int ix), .val (.int (ise &&& (3 : Int32))), .val (.double (Jvm.FP.ddiv (Jvm.FP.i2d ix) (4616189618054758400 : UInt64))), .second, .val (.ref k1), .val (.int (0 : Int32))] [(.int (1 : Int32))]))
      have hq : Q_law Z ise ix k1 k2 k3 k4 h0 n0 (some (.int (nar .boolean (1 : Int32)))) h0 _ := ⟨rfl, N5, rfl⟩
      exact Go.retN X5 hx (t := .boolean) Bd.returns (by simp) hlk (hb hby at_138) (by decide) (by decide) (by rw [e5]; exact hq)
    · skip
      refine Go.by (fun t k => XS.ifNo X3.here hx rfl (hb hby at_21) rfl ((if0 _ _).trans (flt hc4).1) k) ?_
      show Go p e below _ (T3.setTop (mkF m 24 #[.val (.int ise), .val (.int ix), .val (.int (ise &&& (3 : Int32))), .val (.double (Jvm.FP.ddiv (Jvm.FP.i2d ix) (4616189618054758400 : UInt64))), .second, .val (.ref k1), .unset] []))
      refine Go.by (fun t k => XS.iloadN X3.here hx rfl (hb hby at_24) rfl k) ?_
      show Go p e below _ (T3.setTop (mkF m 25 #[.val (.int ise), .val (.int ix), .val (.int (ise &&& (3 : Int32))), .val (.double (Jvm.FP.ddiv (Jvm.FP.i2d ix) (4616189618054758400 : UInt64))), .second, .val (.ref k1), .unset] [(.int ix)]))
      refine Go.by (fun t k => XS.sipush X3.here hx rfl (hb hby at_25) k) ?_
      show Go p e below _ (T3.setTop (mkF m 28 #[.val (.int ise), .val (.int ix), .val (.int (ise &&& (3 : Int32))), .val (.double (Jvm.FP.ddiv (Jvm.FP.i2d ix) (4616189618054758400 : UInt64))), .second, .val (.ref k1), .unset] [(.int (4000 : Int32)), (.int ix)]))
      by_cases hc7 : (4000 : Int32) < ix
      · skip
        refine Go.by (fun t k => XS.icmpYes X3.here hx rfl (pc0 := 28) (pc' := 35) rfl (hb hby at_28) rfl (tlt hc7).2.2.1 (by decide) (by decide) k) ?_
        show Go p e below _ (T3.setTop (mkF m 35 #[.val (.int ise), .val (.int ix), .val (.int (ise &&& (3 : Int32))), .val (.double (Jvm.FP.ddiv (Jvm.FP.i2d ix) (4616189618054758400 : UInt64))), .second, .val (.ref k1), .unset] []))
        refine Go.by (fun t k => XS.iconst X3.here hx rfl (hb hby at_35) k) ?_
        show Go p e below _ (T3.setTop (mkF m 36 #[.val (.int ise), .val (.int ix), .val (.int (ise &&& (3 : Int32))), .val (.double (Jvm.FP.ddiv (Jvm.FP.i2d ix) (4616189618054758400 : UInt64))), .second, .val (.ref k1), .unset] [(.int (0 : Int32))]))
        refine Go.by (fun t k => XS.istore X3.here hx rfl (hb hby at_36) rfl (l' := #[.val (.int ise), .val (.int ix), .val (.int (ise &&& (3 : Int32))), .val (.double (Jvm.FP.ddiv (Jvm.FP.i2d ix) (4616189618054758400 : UInt64))), .second, .val (.ref k1), .val (.int (0 : Int32))]) rfl k) ?_
        show Go p e below _ (T3.setTop (mkF m 38 #[.val (.int ise), .val (.int ix), .val (.int (ise &&& (3 : Int32))), .val (.double (Jvm.FP.ddiv (Jvm.FP.i2d ix) (4616189618054758400 : UInt64))), .second, .val (.ref k1), .val (.int (0 : Int32))] []))
        refine Go.by (fun t k => XS.goto X3.here hx rfl (pc0 := 38) (pc' := 122) rfl (hb hby at_38) (by decide) (by decide) k) ?_
        show Go p e below _ (T3.setTop (mkF m 122 #[.val (.int ise), .val (.int ix), .val (.int (ise &&& (3 : Int32))), .val (.double (Jvm.FP.ddiv (Jvm.FP.i2d ix) (4616189618054758400 : UInt64))), .second, .val (.ref k1), .val (.int (0 : Int32))] []))
        refine Go.by (fun t k => XS.aload X3.here hx rfl (hb hby at_122) rfl rfl k) ?_
        show Go p e below _ (T3.setTop (mkF m 124 #[.val (.int ise), .val (.int ix), .val (.int (ise &&& (3 : Int32))), .val (.double (Jvm.FP.ddiv (Jvm.FP.i2d ix) (4616189618054758400 : UInt64))), .second, .val (.ref k1), .val (.int (0 : Int32))] [(.ref k1)]))
        refine Go.by (fun t k => XS.dloadN X3.here hx rfl (hb hby at_124) rfl k) ?_
        show Go p e below _ (T3.setTop (mkF m 125 #[.val (.int ise), .val (.int ix), .val (.int (ise &&& (3 : Int32))), .val (.double (Jvm.FP.ddiv (Jvm.FP.i2d ix) (4616189618054758400 : UInt64))), .second, .val (.ref k1), .val (.int (0 : Int32))] [(.double (Jvm.FP.ddiv (Jvm.FP.i2d ix) (4616189618054758400 : UInt64))), (.ref k1)]))
        have F9 : Exa Z h0 k1 "com/example/corpus_search/corpussearch/scoring/Parameter" := P4.ext O0.2
        obtain ⟨cq8, kq8, q8a, q8b, q8c⟩ := isOf hZ e3 F9
        obtain ⟨_, _, ⟨T8, L8, k8, n8⟩, -, X8, ⟨Lc8, hQ8, l8, y8, z8⟩, st8⟩ := X3.virtualBack hx (y := (⟨"com/example/corpus_search/corpussearch/scoring/Parameter", "allows", "(D)Z"⟩ : MethodName)) (z := (⟨"com/example/corpus_search/corpussearch/scoring/Parameter", "allows", "(D)Z"⟩ : MethodName)) hown (mvT hZ (hw _ (List.mem_of_getElem? (i := 4) rfl))) (mvT hZ (hw _ (List.mem_of_getElem? (i := 5) rfl))) (notFace_of_selects (args := #[]) (mvT hZ (hw _ (List.mem_of_getElem? (i := 7) rfl)))) (mvT hZ (hw _ (List.mem_of_getElem? (i := 7) rfl))) (mvT hZ (hw _ (List.mem_of_getElem? (i := 6) rfl))) (by decide) (backOf (W := 0) (al1_1000 l Z a0 hw [] k1 (Jvm.FP.ddiv (Jvm.FP.i2d ix) (4616189618054758400 : UInt64)) h0 n0 O0 P4 P5 P6 P7) hZ (hw _ (List.mem_of_getElem? (i := 8) rfl)) (hw _ (List.mem_of_getElem? (i := 2) rfl)) (by decide) (by decide)) q8a q8c (g := (mkF m 125 #[.val (.int ise), .val (.int ix), .val (.int (ise &&& (3 : Int32))), .val (.double (Jvm.FP.ddiv (Jvm.FP.i2d ix) (4616189618054758400 : UInt64))), .second, .val (.ref k1), .val (.int (0 : Int32))] [(.double (Jvm.FP.ddiv (Jvm.FP.i2d ix) (4616189618054758400 : UInt64))), (.ref k1)])) rfl (by rw [hml]; rfl) (Steps.refl _) (argsL := [(.double (Jvm.FP.ddiv (Jvm.FP.i2d ix) (4616189618054758400 : UInt64)))]) (rest := []) (lenOf pd_0 rfl) rfl (by show 2 * 0 + _ ≤ _; exact Nat.le_of_eq rfl) (hb hby at_125) (fun _ _ => ⟨rfl, e3, (by decide : 0 + 0 ≤ _), (by decide : 0 + 0 ≤ _)⟩)
        dsimp only [Pt.U, Pt.locs, Pt.cells, Pt.slots] at X8 l8 y8 z8 st8 hQ8
        subst l8 y8 z8
        obtain ⟨rfl, N8q, e8⟩ := hQ8
        have N8 := Fr.app N0 N8q
        refine Go.tr st8 ?_
        show Go p e below _ (T8.setTop (mkF m 128 #[.val (.int ise), .val (.int ix), .val (.int (ise &&& (3 : Int32))), .val (.double (Jvm.FP.ddiv (Jvm.FP.i2d ix) (4616189618054758400 : UInt64))), .second, .val (.ref k1), .val (.int (0 : Int32))] [(.int (own_al1 (Jvm.FP.ddiv (Jvm.FP.i2d ix) (4616189618054758400 : UInt64)) (Jvm.FP.i2d (0 : Int32)) (Jvm.FP.i2d (1000 : Int32))))]))
        refine Go.by (fun t k => XS.iload X8.here hx rfl (hb hby at_128) rfl k) ?_
        show Go p e below _ (T8.setTop (mkF m 130 #[.val (.int ise), .val (.int ix), .val (.int (ise &&& (3 : Int32))), .val (.double (Jvm.FP.ddiv (Jvm.FP.i2d ix) (4616189618054758400 : UInt64))), .second, .val (.ref k1), .val (.int (0 : Int32))] [(.int (0 : Int32)), (.int (own_al1 (Jvm.FP.ddiv (Jvm.FP.i2d ix) (4616189618054758400 : UInt64)) (Jvm.FP.i2d (0 : Int32)) (Jvm.FP.i2d (1000 : Int32))))]))
        refine Go.by (fun t k => XS.icmpNo X8.here hx rfl (hb hby at_130) rfl (teq (by have z0 : (0 : Int32).toInt = 0 := rfl; have z4 : (4 : Int32).toInt = 4 := rfl; have z4000 : (4000 : Int32).toInt = 4000 := rfl; have q1 := hc4; rw [Int32.lt_iff_toInt_lt] at q1; have q2 := hc7; rw [Int32.lt_iff_toInt_lt] at q2; rw [own_r1 _ _ _ own_q1000]; first | (rw [if_neg (by omega), if_neg (by omega)]; done) | (rw [if_pos (by omega)]; done) | (rw [if_neg (by omega), if_pos (by omega)]; done) | (rw [if_pos (by omega), if_pos (by omega)]; done) | (rw [if_pos (by omega), if_neg (by omega)]; done) | (rw [if_neg (by omega)]; done))).2 k) ?_
        show Go p e below _ (T8.setTop (mkF m 133 #[.val (.int ise), .val (.int ix), .val (.int (ise &&& (3 : Int32))), .val (.double (Jvm.FP.ddiv (Jvm.FP.i2d ix) (4616189618054758400 : UInt64))), .second, .val (.ref k1), .val (.int (0 : Int32))] []))
        refine Go.by (fun t k => XS.iconst X8.here hx rfl (hb hby at_133) k) ?_
        show Go p e below _ (T8.setTop (mkF m 134 #[.val (.int ise), .val (.int ix), .val (.int (ise &&& (3 : Int32))), .val (.double (Jvm.FP.ddiv (Jvm.FP.i2d ix) (4616189618054758400 : UInt64))), .second, .val (.ref k1), .val (.int (0 : Int32))] [(.int (1 : Int32))]))
        refine Go.by (fun t k => XS.goto X8.here hx rfl (pc0 := 134) (pc' := 138) rfl (hb hby at_134) (by decide) (by decide) k) ?_
        show Go p e below _ (T8.setTop (mkF m 138 #[.val (.int ise), .val (.int ix), .val (.int (ise &&& (3 : Int32))), .val (.double (Jvm.FP.ddiv (Jvm.FP.i2d ix) (4616189618054758400 : UInt64))), .second, .val (.ref k1), .val (.int (0 : Int32))] [(.int (1 : Int32))]))
        have hq : Q_law Z ise ix k1 k2 k3 k4 h0 n0 (some (.int (nar .boolean (1 : Int32)))) h0 _ := ⟨rfl, N8, rfl⟩
        exact Go.retN X8 hx (t := .boolean) Bd.returns (by simp) hlk (hb hby at_138) (by decide) (by decide) (by rw [e8]; exact hq)
      · skip
        refine Go.by (fun t k => XS.icmpNo X3.here hx rfl (hb hby at_28) rfl (flt hc7).2.2.1 k) ?_
        show Go p e below _ (T3.setTop (mkF m 31 #[.val (.int ise), .val (.int ix), .val (.int (ise &&& (3 : Int32))), .val (.double (Jvm.FP.ddiv (Jvm.FP.i2d ix) (4616189618054758400 : UInt64))), .second, .val (.ref k1), .unset] []))
        refine Go.by (fun t k => XS.iconst X3.here hx rfl (hb hby at_31) k) ?_
        show Go p e below _ (T3.setTop (mkF m 32 #[.val (.int ise), .val (.int ix), .val (.int (ise &&& (3 : Int32))), .val (.double (Jvm.FP.ddiv (Jvm.FP.i2d ix) (4616189618054758400 : UInt64))), .second, .val (.ref k1), .unset] [(.int (1 : Int32))]))
        refine Go.by (fun t k => XS.goto X3.here hx rfl (pc0 := 32) (pc' := 36) rfl (hb hby at_32) (by decide) (by decide) k) ?_
        show Go p e below _ (T3.setTop (mkF m 36 #[.val (.int ise), .val (.int ix), .val (.int (ise &&& (3 : Int32))), .val (.double (Jvm.FP.ddiv (Jvm.FP.i2d ix) (4616189618054758400 : UInt64))), .second, .val (.ref k1), .unset] [(.int (1 : Int32))]))
        refine Go.by (fun t k => XS.istore X3.here hx rfl (hb hby at_36) rfl (l' := #[.val (.int ise), .val (.int ix), .val (.int (ise &&& (3 : Int32))), .val (.double (Jvm.FP.ddiv (Jvm.FP.i2d ix) (4616189618054758400 : UInt64))), .second, .val (.ref k1), .val (.int (1 : Int32))]) rfl k) ?_
        show Go p e below _ (T3.setTop (mkF m 38 #[.val (.int ise), .val (.int ix), .val (.int (ise &&& (3 : Int32))), .val (.double (Jvm.FP.ddiv (Jvm.FP.i2d ix) (4616189618054758400 : UInt64))), .second, .val (.ref k1), .val (.int (1 : Int32))] []))
        refine Go.by (fun t k => XS.goto X3.here hx rfl (pc0 := 38) (pc' := 122) rfl (hb hby at_38) (by decide) (by decide) k) ?_
        show Go p e below _ (T3.setTop (mkF m 122 #[.val (.int ise), .val (.int ix), .val (.int (ise &&& (3 : Int32))), .val (.double (Jvm.FP.ddiv (Jvm.FP.i2d ix) (4616189618054758400 : UInt64))), .second, .val (.ref k1), .val (.int (1 : Int32))] []))
        refine Go.by (fun t k => XS.aload X3.here hx rfl (hb hby at_122) rfl rfl k) ?_
        show Go p e below _ (T3.setTop (mkF m 124 #[.val (.int ise), .val (.int ix), .val (.int (ise &&& (3 : Int32))), .val (.double (Jvm.FP.ddiv (Jvm.FP.i2d ix) (4616189618054758400 : UInt64))), .second, .val (.ref k1), .val (.int (1 : Int32))] [(.ref k1)]))
        refine Go.by (fun t k => XS.dloadN X3.here hx rfl (hb hby at_124) rfl k) ?_
        show Go p e below _ (T3.setTop (mkF m 125 #[.val (.int ise), .val (.int ix), .val (.int (ise &&& (3 : Int32))), .val (.double (Jvm.FP.ddiv (Jvm.FP.i2d ix) (4616189618054758400 : UInt64))), .second, .val (.ref k1), .val (.int (1 : Int32))] [(.double (Jvm.FP.ddiv (Jvm.FP.i2d ix) (4616189618054758400 : UInt64))), (.ref k1)]))
        have F11 : Exa Z h0 k1 "com/example/corpus_search/corpussearch/scoring/Parameter" := P4.ext O0.2
        obtain ⟨cq10, kq10, q10a, q10b, q10c⟩ := isOf hZ e3 F11
        obtain ⟨_, _, ⟨T10, L10, k10, n10⟩, -, X10, ⟨Lc10, hQ10, l10, y10, z10⟩, st10⟩ := X3.virtualBack hx (y := (⟨"com/example/corpus_search/corpussearch/scoring/Parameter", "allows", "(D)Z"⟩ : MethodName)) (z := (⟨"com/example/corpus_search/corpussearch/scoring/Parameter", "allows", "(D)Z"⟩ : MethodName)) hown (mvT hZ (hw _ (List.mem_of_getElem? (i := 4) rfl))) (mvT hZ (hw _ (List.mem_of_getElem? (i := 5) rfl))) (notFace_of_selects (args := #[]) (mvT hZ (hw _ (List.mem_of_getElem? (i := 7) rfl)))) (mvT hZ (hw _ (List.mem_of_getElem? (i := 7) rfl))) (mvT hZ (hw _ (List.mem_of_getElem? (i := 6) rfl))) (by decide) (backOf (W := 0) (al1_1000 l Z a0 hw [] k1 (Jvm.FP.ddiv (Jvm.FP.i2d ix) (4616189618054758400 : UInt64)) h0 n0 O0 P4 P5 P6 P7) hZ (hw _ (List.mem_of_getElem? (i := 8) rfl)) (hw _ (List.mem_of_getElem? (i := 2) rfl)) (by decide) (by decide)) q10a q10c (g := (mkF m 125 #[.val (.int ise), .val (.int ix), .val (.int (ise &&& (3 : Int32))), .val (.double (Jvm.FP.ddiv (Jvm.FP.i2d ix) (4616189618054758400 : UInt64))), .second, .val (.ref k1), .val (.int (1 : Int32))] [(.double (Jvm.FP.ddiv (Jvm.FP.i2d ix) (4616189618054758400 : UInt64))), (.ref k1)])) rfl (by rw [hml]; rfl) (Steps.refl _) (argsL := [(.double (Jvm.FP.ddiv (Jvm.FP.i2d ix) (4616189618054758400 : UInt64)))]) (rest := []) (lenOf pd_0 rfl) rfl (by show 2 * 0 + _ ≤ _; exact Nat.le_of_eq rfl) (hb hby at_125) (fun _ _ => ⟨rfl, e3, (by decide : 0 + 0 ≤ _), (by decide : 0 + 0 ≤ _)⟩)
        dsimp only [Pt.U, Pt.locs, Pt.cells, Pt.slots] at X10 l10 y10 z10 st10 hQ10
        subst l10 y10 z10
        obtain ⟨rfl, N10q, e10⟩ := hQ10
        have N10 := Fr.app N0 N10q
        refine Go.tr st10 ?_
        show Go p e below _ (T10.setTop (mkF m 128 #[.val (.int ise), .val (.int ix), .val (.int (ise &&& (3 : Int32))), .val (.double (Jvm.FP.ddiv (Jvm.FP.i2d ix) (4616189618054758400 : UInt64))), .second, .val (.ref k1), .val (.int (1 : Int32))] [(.int (own_al1 (Jvm.FP.ddiv (Jvm.FP.i2d ix) (4616189618054758400 : UInt64)) (Jvm.FP.i2d (0 : Int32)) (Jvm.FP.i2d (1000 : Int32))))]))
        refine Go.by (fun t k => XS.iload X10.here hx rfl (hb hby at_128) rfl k) ?_
        show Go p e below _ (T10.setTop (mkF m 130 #[.val (.int ise), .val (.int ix), .val (.int (ise &&& (3 : Int32))), .val (.double (Jvm.FP.ddiv (Jvm.FP.i2d ix) (4616189618054758400 : UInt64))), .second, .val (.ref k1), .val (.int (1 : Int32))] [(.int (1 : Int32)), (.int (own_al1 (Jvm.FP.ddiv (Jvm.FP.i2d ix) (4616189618054758400 : UInt64)) (Jvm.FP.i2d (0 : Int32)) (Jvm.FP.i2d (1000 : Int32))))]))
        refine Go.by (fun t k => XS.icmpNo X10.here hx rfl (hb hby at_130) rfl (teq (by have z0 : (0 : Int32).toInt = 0 := rfl; have z4 : (4 : Int32).toInt = 4 := rfl; have z4000 : (4000 : Int32).toInt = 4000 := rfl; have q1 := hc4; rw [Int32.lt_iff_toInt_lt] at q1; have q2 := hc7; rw [Int32.lt_iff_toInt_lt] at q2; rw [own_r1 _ _ _ own_q1000]; first | (rw [if_neg (by omega), if_neg (by omega)]; done) | (rw [if_pos (by omega)]; done) | (rw [if_neg (by omega), if_pos (by omega)]; done) | (rw [if_pos (by omega), if_pos (by omega)]; done) | (rw [if_pos (by omega), if_neg (by omega)]; done) | (rw [if_neg (by omega)]; done))).2 k) ?_
        show Go p e below _ (T10.setTop (mkF m 133 #[.val (.int ise), .val (.int ix), .val (.int (ise &&& (3 : Int32))), .val (.double (Jvm.FP.ddiv (Jvm.FP.i2d ix) (4616189618054758400 : UInt64))), .second, .val (.ref k1), .val (.int (1 : Int32))] []))
        refine Go.by (fun t k => XS.iconst X10.here hx rfl (hb hby at_133) k) ?_
        show Go p e below _ (T10.setTop (mkF m 134 #[.val (.int ise), .val (.int ix), .val (.int (ise &&& (3 : Int32))), .val (.double (Jvm.FP.ddiv (Jvm.FP.i2d ix) (4616189618054758400 : UInt64))), .second, .val (.ref k1), .val (.int (1 : Int32))] [(.int (1 : Int32))]))
        refine Go.by (fun t k => XS.goto X10.here hx rfl (pc0 := 134) (pc' := 138) rfl (hb hby at_134) (by decide) (by decide) k) ?_
        show Go p e below _ (T10.setTop (mkF m 138 #[.val (.int ise), .val (.int ix), .val (.int (ise &&& (3 : Int32))), .val (.double (Jvm.FP.ddiv (Jvm.FP.i2d ix) (4616189618054758400 : UInt64))), .second, .val (.ref k1), .val (.int (1 : Int32))] [(.int (1 : Int32))]))
        have hq : Q_law Z ise ix k1 k2 k3 k4 h0 n0 (some (.int (nar .boolean (1 : Int32)))) h0 _ := ⟨rfl, N10, rfl⟩
        exact Go.retN X10 hx (t := .boolean) Bd.returns (by simp) hlk (hb hby at_138) (by decide) (by decide) (by rw [e10]; exact hq)
  · skip
    refine Go.by (fun t k => XS.ifYes X0.here hx rfl (pc0 := 12) (pc' := 41) rfl (hb hby at_12) rfl ((if0 _ _).trans (feq hc1).2) (by decide) (by decide) k) ?_
    show Go p e below _ (s₁.setTop (mkF m 41 #[.val (.int ise), .val (.int ix), .val (.int (ise &&& (3 : Int32))), .val (.double (Jvm.FP.ddiv (Jvm.FP.i2d ix) (4616189618054758400 : UInt64))), .second, .unset, .unset] []))
    refine Go.by (fun t k => XS.iloadN X0.here hx rfl (hb hby at_41) rfl k) ?_
    show Go p e below _ (s₁.setTop (mkF m 42 #[.val (.int ise), .val (.int ix), .val (.int (ise &&& (3 : Int32))), .val (.double (Jvm.FP.ddiv (Jvm.FP.i2d ix) (4616189618054758400 : UInt64))), .second, .unset, .unset] [(.int (ise &&& (3 : Int32)))]))
    refine Go.by (fun t k => XS.iconst X0.here hx rfl (hb hby at_42) k) ?_
    show Go p e below _ (s₁.setTop (mkF m 43 #[.val (.int ise), .val (.int ix), .val (.int (ise &&& (3 : Int32))), .val (.double (Jvm.FP.ddiv (Jvm.FP.i2d ix) (4616189618054758400 : UInt64))), .second, .unset, .unset] [(.int (1 : Int32)), (.int (ise &&& (3 : Int32)))]))
    by_cases hc12 : (ise &&& (3 : Int32)) = (1 : Int32)
    · skip
      refine Go.by (fun t k => XS.icmpNo X0.here hx rfl (hb hby at_43) rfl (teq hc12).2 k) ?_
      show Go p e below _ (s₁.setTop (mkF m 46 #[.val (.int ise), .val (.int ix), .val (.int (ise &&& (3 : Int32))), .val (.double (Jvm.FP.ddiv (Jvm.FP.i2d ix) (4616189618054758400 : UInt64))), .second, .unset, .unset] []))
      have F13 : Sta Z h0 "com/example/corpus_search/corpussearch/scoring/Parameter" "B" "Lcom/example/corpus_search/corpussearch/scoring/Parameter;" (.ref k2) := P1.ext O0.2
      obtain ⟨T14, X14, e14, st14⟩ := getS2 X0 hx hZ hown (host := "") (Or.inl (hw _ (List.mem_of_getElem? (i := 17) rfl))) Via.refl e0 F13 (g := (mkF m 46 #[.val (.int ise), .val (.int ix), .val (.int (ise &&& (3 : Int32))), .val (.double (Jvm.FP.ddiv (Jvm.FP.i2d ix) (4616189618054758400 : UInt64))), .second, .unset, .unset] [])) rfl (hb hby at_46)
      refine Go.by st14 ?_
      show Go p e below _ (T14.setTop (mkF m 49 #[.val (.int ise), .val (.int ix), .val (.int (ise &&& (3 : Int32))), .val (.double (Jvm.FP.ddiv (Jvm.FP.i2d ix) (4616189618054758400 : UInt64))), .second, .unset, .unset] [(.ref k2)]))
      refine Go.by (fun t k => XS.astore X14.here hx rfl (hb hby at_49) rfl rfl (l' := #[.val (.int ise), .val (.int ix), .val (.int (ise &&& (3 : Int32))), .val (.double (Jvm.FP.ddiv (Jvm.FP.i2d ix) (4616189618054758400 : UInt64))), .second, .val (.ref k2), .unset]) rfl k) ?_
      show Go p e below _ (T14.setTop (mkF m 51 #[.val (.int ise), .val (.int ix), .val (.int (ise &&& (3 : Int32))), .val (.double (Jvm.FP.ddiv (Jvm.FP.i2d ix) (4616189618054758400 : UInt64))), .second, .val (.ref k2), .unset] []))
      refine Go.by (fun t k => XS.iloadN X14.here hx rfl (hb hby at_51) rfl k) ?_
      show Go p e below _ (T14.setTop (mkF m 52 #[.val (.int ise), .val (.int ix), .val (.int (ise &&& (3 : Int32))), .val (.double (Jvm.FP.ddiv (Jvm.FP.i2d ix) (4616189618054758400 : UInt64))), .second, .val (.ref k2), .unset] [(.int ix)]))
      by_cases hc15 : ix < (0 : Int32)
      · skip
        refine Go.by (fun t k => XS.ifYes X14.here hx rfl (pc0 := 52) (pc' := 64) rfl (hb hby at_52) rfl ((if0 _ _).trans (tlt hc15).1) (by decide) (by decide) k) ?_
        show Go p e below _ (T14.setTop (mkF m 64 #[.val (.int ise), .val (.int ix), .val (.int (ise &&& (3 : Int32))), .val (.double (Jvm.FP.ddiv (Jvm.FP.i2d ix) (4616189618054758400 : UInt64))), .second, .val (.ref k2), .unset] []))
        refine Go.by (fun t k => XS.iconst X14.here hx rfl (hb hby at_64) k) ?_
        show Go p e below _ (T14.setTop (mkF m 65 #[.val (.int ise), .val (.int ix), .val (.int (ise &&& (3 : Int32))), .val (.double (Jvm.FP.ddiv (Jvm.FP.i2d ix) (4616189618054758400 : UInt64))), .second, .val (.ref k2), .unset] [(.int (0 : Int32))]))
        refine Go.by (fun t k => XS.istore X14.here hx rfl (hb hby at_65) rfl (l' := #[.val (.int ise), .val (.int ix), .val (.int (ise &&& (3 : Int32))), .val (.double (Jvm.FP.ddiv (Jvm.FP.i2d ix) (4616189618054758400 : UInt64))), .second, .val (.ref k2), .val (.int (0 : Int32))]) rfl k) ?_
        show Go p e below _ (T14.setTop (mkF m 67 #[.val (.int ise), .val (.int ix), .val (.int (ise &&& (3 : Int32))), .val (.double (Jvm.FP.ddiv (Jvm.FP.i2d ix) (4616189618054758400 : UInt64))), .second, .val (.ref k2), .val (.int (0 : Int32))] []))
        refine Go.by (fun t k => XS.goto X14.here hx rfl (pc0 := 67) (pc' := 122) rfl (hb hby at_67) (by decide) (by decide) k) ?_
        show Go p e below _ (T14.setTop (mkF m 122 #[.val (.int ise), .val (.int ix), .val (.int (ise &&& (3 : Int32))), .val (.double (Jvm.FP.ddiv (Jvm.FP.i2d ix) (4616189618054758400 : UInt64))), .second, .val (.ref k2), .val (.int (0 : Int32))] []))
        refine Go.by (fun t k => XS.aload X14.here hx rfl (hb hby at_122) rfl rfl k) ?_
        show Go p e below _ (T14.setTop (mkF m 124 #[.val (.int ise), .val (.int ix), .val (.int (ise &&& (3 : Int32))), .val (.double (Jvm.FP.ddiv (Jvm.FP.i2d ix) (4616189618054758400 : UInt64))), .second, .val (.ref k2), .val (.int (0 : Int32))] [(.ref k2)]))
        refine Go.by (fun t k => XS.dloadN X14.here hx rfl (hb hby at_124) rfl k) ?_
        show Go p e below _ (T14.setTop (mkF m 125 #[.val (.int ise), .val (.int ix), .val (.int (ise &&& (3 : Int32))), .val (.double (Jvm.FP.ddiv (Jvm.FP.i2d ix) (4616189618054758400 : UInt64))), .second, .val (.ref k2), .val (.int (0 : Int32))] [(.double (Jvm.FP.ddiv (Jvm.FP.i2d ix) (4616189618054758400 : UInt64))), (.ref k2)]))
        have F17 : Exa Z h0 k2 "com/example/corpus_search/corpussearch/scoring/Parameter" := P8.ext O0.2
        obtain ⟨cq16, kq16, q16a, q16b, q16c⟩ := isOf hZ e14 F17
        obtain ⟨_, _, ⟨T16, L16, k16, n16⟩, -, X16, ⟨Lc16, hQ16, l16, y16, z16⟩, st16⟩ := X14.virtualBack hx (y := (⟨"com/example/corpus_search/corpussearch/scoring/Parameter", "allows", "(D)Z"⟩ : MethodName)) (z := (⟨"com/example/corpus_search/corpussearch/scoring/Parameter", "allows", "(D)Z"⟩ : MethodName)) hown (mvT hZ (hw _ (List.mem_of_getElem? (i := 4) rfl))) (mvT hZ (hw _ (List.mem_of_getElem? (i := 5) rfl))) (notFace_of_selects (args := #[]) (mvT hZ (hw _ (List.mem_of_getElem? (i := 7) rfl)))) (mvT hZ (hw _ (List.mem_of_getElem? (i := 7) rfl))) (mvT hZ (hw _ (List.mem_of_getElem? (i := 6) rfl))) (by decide) (backOf (W := 0) (al1_1 l Z a0 hw [] k2 (Jvm.FP.ddiv (Jvm.FP.i2d ix) (4616189618054758400 : UInt64)) h0 n0 O0 P8 P9 P10 P11) hZ (hw _ (List.mem_of_getElem? (i := 8) rfl)) (hw _ (List.mem_of_getElem? (i := 2) rfl)) (by decide) (by decide)) q16a q16c (g := (mkF m 125 #[.val (.int ise), .val (.int ix), .val (.int (ise &&& (3 : Int32))), .val (.double (Jvm.FP.ddiv (Jvm.FP.i2d ix) (4616189618054758400 : UInt64))), .second, .val (.ref k2), .val (.int (0 : Int32))] [(.double (Jvm.FP.ddiv (Jvm.FP.i2d ix) (4616189618054758400 : UInt64))), (.ref k2)])) rfl (by rw [hml]; rfl) (Steps.refl _) (argsL := [(.double (Jvm.FP.ddiv (Jvm.FP.i2d ix) (4616189618054758400 : UInt64)))]) (rest := []) (lenOf pd_0 rfl) rfl (by show 2 * 0 + _ ≤ _; exact Nat.le_of_eq rfl) (hb hby at_125) (fun _ _ => ⟨rfl, e14, (by decide : 0 + 0 ≤ _), (by decide : 0 + 0 ≤ _)⟩)
        dsimp only [Pt.U, Pt.locs, Pt.cells, Pt.slots] at X16 l16 y16 z16 st16 hQ16
        subst l16 y16 z16
        obtain ⟨rfl, N16q, e16⟩ := hQ16
        have N16 := Fr.app N0 N16q
        refine Go.tr st16 ?_
        show Go p e below _ (T16.setTop (mkF m 128 #[.val (.int ise), .val (.int ix), .val (.int (ise &&& (3 : Int32))), .val (.double (Jvm.FP.ddiv (Jvm.FP.i2d ix) (4616189618054758400 : UInt64))), .second, .val (.ref k2), .val (.int (0 : Int32))] [(.int (own_al1 (Jvm.FP.ddiv (Jvm.FP.i2d ix) (4616189618054758400 : UInt64)) (Jvm.FP.i2d (0 : Int32)) (Jvm.FP.i2d (1 : Int32))))]))
        refine Go.by (fun t k => XS.iload X16.here hx rfl (hb hby at_128) rfl k) ?_
        show Go p e below _ (T16.setTop (mkF m 130 #[.val (.int ise), .val (.int ix), .val (.int (ise &&& (3 : Int32))), .val (.double (Jvm.FP.ddiv (Jvm.FP.i2d ix) (4616189618054758400 : UInt64))), .second, .val (.ref k2), .val (.int (0 : Int32))] [(.int (0 : Int32)), (.int (own_al1 (Jvm.FP.ddiv (Jvm.FP.i2d ix) (4616189618054758400 : UInt64)) (Jvm.FP.i2d (0 : Int32)) (Jvm.FP.i2d (1 : Int32))))]))
        refine Go.by (fun t k => XS.icmpNo X16.here hx rfl (hb hby at_130) rfl (teq (by have z0 : (0 : Int32).toInt = 0 := rfl; have z4 : (4 : Int32).toInt = 4 := rfl; have z4000 : (4000 : Int32).toInt = 4000 := rfl; have q2 := hc15; rw [Int32.lt_iff_toInt_lt] at q2; rw [own_r1 _ _ _ own_q1]; first | (rw [if_neg (by omega), if_neg (by omega)]; done) | (rw [if_pos (by omega)]; done) | (rw [if_neg (by omega), if_pos (by omega)]; done) | (rw [if_pos (by omega), if_pos (by omega)]; done) | (rw [if_pos (by omega), if_neg (by omega)]; done) | (rw [if_neg (by omega)]; done))).2 k) ?_
        show Go p e below _ (T16.setTop (mkF m 133 #[.val (.int ise), .val (.int ix), .val (.int (ise &&& (3 : Int32))), .val (.double (Jvm.FP.ddiv (Jvm.FP.i2d ix) (4616189618054758400 : UInt64))), .second, .val (.ref k2), .val (.int (0 : Int32))] []))
        refine Go.by (fun t k => XS.iconst X16.here hx rfl (hb hby at_133) k) ?_
        show Go p e below _ (T16.setTop (mkF m 134 #[.val (.int ise), .val (.int ix), .val (.int (ise &&& (3 : Int32))), .val (.double (Jvm.FP.ddiv (Jvm.FP.i2d ix) (4616189618054758400 : UInt64))), .second, .val (.ref k2), .val (.int (0 : Int32))] [(.int (1 : Int32))]))
        refine Go.by (fun t k => XS.goto X16.here hx rfl (pc0 := 134) (pc' := 138) rfl (hb hby at_134) (by decide) (by decide) k) ?_
        show Go p e below _ (T16.setTop (mkF m 138 #[.val (.int ise), .val (.int ix), .val (.int (ise &&& (3 : Int32))), .val (.double (Jvm.FP.ddiv (Jvm.FP.i2d ix) (4616189618054758400 : UInt64))), .second, .val (.ref k2), .val (.int (0 : Int32))] [(.int (1 : Int32))]))
        have hq : Q_law Z ise ix k1 k2 k3 k4 h0 n0 (some (.int (nar .boolean (1 : Int32)))) h0 _ := ⟨rfl, N16, rfl⟩
        exact Go.retN X16 hx (t := .boolean) Bd.returns (by simp) hlk (hb hby at_138) (by decide) (by decide) (by rw [e16]; exact hq)
      · skip
        refine Go.by (fun t k => XS.ifNo X14.here hx rfl (hb hby at_52) rfl ((if0 _ _).trans (flt hc15).1) k) ?_
        show Go p e below _ (T14.setTop (mkF m 55 #[.val (.int ise), .val (.int ix), .val (.int (ise &&& (3 : Int32))), .val (.double (Jvm.FP.ddiv (Jvm.FP.i2d ix) (4616189618054758400 : UInt64))), .second, .val (.ref k2), .unset] []))
        refine Go.by (fun t k => XS.iloadN X14.here hx rfl (hb hby at_55) rfl k) ?_
        show Go p e below _ (T14.setTop (mkF m 56 #[.val (.int ise), .val (.int ix), .val (.int (ise &&& (3 : Int32))), .val (.double (Jvm.FP.ddiv (Jvm.FP.i2d ix) (4616189618054758400 : UInt64))), .second, .val (.ref k2), .unset] [(.int ix)]))
        refine Go.by (fun t k => XS.iconst X14.here hx rfl (hb hby at_56) k) ?_
        show Go p e below _ (T14.setTop (mkF m 57 #[.val (.int ise), .val (.int ix), .val (.int (ise &&& (3 : Int32))), .val (.double (Jvm.FP.ddiv (Jvm.FP.i2d ix) (4616189618054758400 : UInt64))), .second, .val (.ref k2), .unset] [(.int (4 : Int32)), (.int ix)]))
        by_cases hc18 : (4 : Int32) < ix
        · skip
          refine Go.by (fun t k => XS.icmpYes X14.here hx rfl (pc0 := 57) (pc' := 64) rfl (hb hby at_57) rfl (tlt hc18).2.2.1 (by decide) (by decide) k) ?_
          show Go p e below _ (T14.setTop (mkF m 64 #[.val (.int ise), .val (.int ix), .val (.int (ise &&& (3 : Int32))), .val (.double (Jvm.FP.ddiv (Jvm.FP.i2d ix) (4616189618054758400 : UInt64))), .second, .val (.ref k2), .unset] []))
          refine Go.by (fun t k => XS.iconst X14.here hx rfl (hb hby at_64) k) ?_
          show Go p e below _ (T14.setTop (mkF m 65 #[.val (.int ise), .val (.int ix), .val (.int (ise &&& (3 : Int32))), .val (.double (Jvm.FP.ddiv (Jvm.FP.i2d ix) (4616189618054758400 : UInt64))), .second, .val (.ref k2), .unset] [(.int (0 : Int32))]))
          refine Go.by (fun t k => XS.istore X14.here hx rfl (hb hby at_65) rfl (l' := #[.val (.int ise), .val (.int ix), .val (.int (ise &&& (3 : Int32))), .val (.double (Jvm.FP.ddiv (Jvm.FP.i2d ix) (4616189618054758400 : UInt64))), .second, .val (.ref k2), .val (.int (0 : Int32))]) rfl k) ?_
          show Go p e below _ (T14.setTop (mkF m 67 #[.val (.int ise), .val (.int ix), .val (.int (ise &&& (3 : Int32))), .val (.double (Jvm.FP.ddiv (Jvm.FP.i2d ix) (4616189618054758400 : UInt64))), .second, .val (.ref k2), .val (.int (0 : Int32))] []))
          refine Go.by (fun t k => XS.goto X14.here hx rfl (pc0 := 67) (pc' := 122) rfl (hb hby at_67) (by decide) (by decide) k) ?_
          show Go p e below _ (T14.setTop (mkF m 122 #[.val (.int ise), .val (.int ix), .val (.int (ise &&& (3 : Int32))), .val (.double (Jvm.FP.ddiv (Jvm.FP.i2d ix) (4616189618054758400 : UInt64))), .second, .val (.ref k2), .val (.int (0 : Int32))] []))
          refine Go.by (fun t k => XS.aload X14.here hx rfl (hb hby at_122) rfl rfl k) ?_
          show Go p e below _ (T14.setTop (mkF m 124 #[.val (.int ise), .val (.int ix), .val (.int (ise &&& (3 : Int32))), .val (.double (Jvm.FP.ddiv (Jvm.FP.i2d ix) (4616189618054758400 : UInt64))), .second, .val (.ref k2), .val (.int (0 : Int32))] [(.ref k2)]))
          refine Go.by (fun t k => XS.dloadN X14.here hx rfl (hb hby at_124) rfl k) ?_
          show Go p e below _ (T14.setTop (mkF m 125 #[.val (.int ise), .val (.int ix), .val (.int (ise &&& (3 : Int32))), .val (.double (Jvm.FP.ddiv (Jvm.FP.i2d ix) (4616189618054758400 : UInt64))), .second, .val (.ref k2), .val (.int (0 : Int32))] [(.double (Jvm.FP.ddiv (Jvm.FP.i2d ix) (4616189618054758400 : UInt64))), (.ref k2)]))
          have F20 : Exa Z h0 k2 "com/example/corpus_search/corpussearch/scoring/Parameter" := P8.ext O0.2
          obtain ⟨cq19, kq19, q19a, q19b, q19c⟩ := isOf hZ e14 F20
          obtain ⟨_, _, ⟨T19, L19, k19, n19⟩, -, X19, ⟨Lc19, hQ19, l19, y19, z19⟩, st19⟩ := X14.virtualBack hx (y := (⟨"com/example/corpus_search/corpussearch/scoring/Parameter", "allows", "(D)Z"⟩ : MethodName)) (z := (⟨"com/example/corpus_search/corpussearch/scoring/Parameter", "allows", "(D)Z"⟩ : MethodName)) hown (mvT hZ (hw _ (List.mem_of_getElem? (i := 4) rfl))) (mvT hZ (hw _ (List.mem_of_getElem? (i := 5) rfl))) (notFace_of_selects (args := #[]) (mvT hZ (hw _ (List.mem_of_getElem? (i := 7) rfl)))) (mvT hZ (hw _ (List.mem_of_getElem? (i := 7) rfl))) (mvT hZ (hw _ (List.mem_of_getElem? (i := 6) rfl))) (by decide) (backOf (W := 0) (al1_1 l Z a0 hw [] k2 (Jvm.FP.ddiv (Jvm.FP.i2d ix) (4616189618054758400 : UInt64)) h0 n0 O0 P8 P9 P10 P11) hZ (hw _ (List.mem_of_getElem? (i := 8) rfl)) (hw _ (List.mem_of_getElem? (i := 2) rfl)) (by decide) (by decide)) q19a q19c (g := (mkF m 125 #[.val (.int ise), .val (.int ix), .val (.int (ise &&& (3 : Int32))), .val (.double (Jvm.FP.ddiv (Jvm.FP.i2d ix) (4616189618054758400 : UInt64))), .second, .val (.ref k2), .val (.int (0 : Int32))] [(.double (Jvm.FP.ddiv (Jvm.FP.i2d ix) (4616189618054758400 : UInt64))), (.ref k2)])) rfl (by rw [hml]; rfl) (Steps.refl _) (argsL := [(.double (Jvm.FP.ddiv (Jvm.FP.i2d ix) (4616189618054758400 : UInt64)))]) (rest := []) (lenOf pd_0 rfl) rfl (by show 2 * 0 + _ ≤ _; exact Nat.le_of_eq rfl) (hb hby at_125) (fun _ _ => ⟨rfl, e14, (by decide : 0 + 0 ≤ _), (by decide : 0 + 0 ≤ _)⟩)
          dsimp only [Pt.U, Pt.locs, Pt.cells, Pt.slots] at X19 l19 y19 z19 st19 hQ19
          subst l19 y19 z19
          obtain ⟨rfl, N19q, e19⟩ := hQ19
          have N19 := Fr.app N0 N19q
          refine Go.tr st19 ?_
          show Go p e below _ (T19.setTop (mkF m 128 #[.val (.int ise), .val (.int ix), .val (.int (ise &&& (3 : Int32))), .val (.double (Jvm.FP.ddiv (Jvm.FP.i2d ix) (4616189618054758400 : UInt64))), .second, .val (.ref k2), .val (.int (0 : Int32))] [(.int (own_al1 (Jvm.FP.ddiv (Jvm.FP.i2d ix) (4616189618054758400 : UInt64)) (Jvm.FP.i2d (0 : Int32)) (Jvm.FP.i2d (1 : Int32))))]))
          refine Go.by (fun t k => XS.iload X19.here hx rfl (hb hby at_128) rfl k) ?_
          show Go p e below _ (T19.setTop (mkF m 130 #[.val (.int ise), .val (.int ix), .val (.int (ise &&& (3 : Int32))), .val (.double (Jvm.FP.ddiv (Jvm.FP.i2d ix) (4616189618054758400 : UInt64))), .second, .val (.ref k2), .val (.int (0 : Int32))] [(.int (0 : Int32)), (.int (own_al1 (Jvm.FP.ddiv (Jvm.FP.i2d ix) (4616189618054758400 : UInt64)) (Jvm.FP.i2d (0 : Int32)) (Jvm.FP.i2d (1 : Int32))))]))
          refine Go.by (fun t k => XS.icmpNo X19.here hx rfl (hb hby at_130) rfl (teq (by have z0 : (0 : Int32).toInt = 0 := rfl; have z4 : (4 : Int32).toInt = 4 := rfl; have z4000 : (4000 : Int32).toInt = 4000 := rfl; have q2 := hc15; rw [Int32.lt_iff_toInt_lt] at q2; have q3 := hc18; rw [Int32.lt_iff_toInt_lt] at q3; rw [own_r1 _ _ _ own_q1]; first | (rw [if_neg (by omega), if_neg (by omega)]; done) | (rw [if_pos (by omega)]; done) | (rw [if_neg (by omega), if_pos (by omega)]; done) | (rw [if_pos (by omega), if_pos (by omega)]; done) | (rw [if_pos (by omega), if_neg (by omega)]; done) | (rw [if_neg (by omega)]; done))).2 k) ?_
          show Go p e below _ (T19.setTop (mkF m 133 #[.val (.int ise), .val (.int ix), .val (.int (ise &&& (3 : Int32))), .val (.double (Jvm.FP.ddiv (Jvm.FP.i2d ix) (4616189618054758400 : UInt64))), .second, .val (.ref k2), .val (.int (0 : Int32))] []))
          refine Go.by (fun t k => XS.iconst X19.here hx rfl (hb hby at_133) k) ?_
          show Go p e below _ (T19.setTop (mkF m 134 #[.val (.int ise), .val (.int ix), .val (.int (ise &&& (3 : Int32))), .val (.double (Jvm.FP.ddiv (Jvm.FP.i2d ix) (4616189618054758400 : UInt64))), .second, .val (.ref k2), .val (.int (0 : Int32))] [(.int (1 : Int32))]))
          refine Go.by (fun t k => XS.goto X19.here hx rfl (pc0 := 134) (pc' := 138) rfl (hb hby at_134) (by decide) (by decide) k) ?_
          show Go p e below _ (T19.setTop (mkF m 138 #[.val (.int ise), .val (.int ix), .val (.int (ise &&& (3 : Int32))), .val (.double (Jvm.FP.ddiv (Jvm.FP.i2d ix) (4616189618054758400 : UInt64))), .second, .val (.ref k2), .val (.int (0 : Int32))] [(.int (1 : Int32))]))
          have hq : Q_law Z ise ix k1 k2 k3 k4 h0 n0 (some (.int (nar .boolean (1 : Int32)))) h0 _ := ⟨rfl, N19, rfl⟩
          exact Go.retN X19 hx (t := .boolean) Bd.returns (by simp) hlk (hb hby at_138) (by decide) (by decide) (by rw [e19]; exact hq)
        · skip
          refine Go.by (fun t k => XS.icmpNo X14.here hx rfl (hb hby at_57) rfl (flt hc18).2.2.1 k) ?_
          show Go p e below _ (T14.setTop (mkF m 60 #[.val (.int ise), .val (.int ix), .val (.int (ise &&& (3 : Int32))), .val (.double (Jvm.FP.ddiv (Jvm.FP.i2d ix) (4616189618054758400 : UInt64))), .second, .val (.ref k2), .unset] []))
          refine Go.by (fun t k => XS.iconst X14.here hx rfl (hb hby at_60) k) ?_
          show Go p e below _ (T14.setTop (mkF m 61 #[.val (.int ise), .val (.int ix), .val (.int (ise &&& (3 : Int32))), .val (.double (Jvm.FP.ddiv (Jvm.FP.i2d ix) (4616189618054758400 : UInt64))), .second, .val (.ref k2), .unset] [(.int (1 : Int32))]))
          refine Go.by (fun t k => XS.goto X14.here hx rfl (pc0 := 61) (pc' := 65) rfl (hb hby at_61) (by decide) (by decide) k) ?_
          show Go p e below _ (T14.setTop (mkF m 65 #[.val (.int ise), .val (.int ix), .val (.int (ise &&& (3 : Int32))), .val (.double (Jvm.FP.ddiv (Jvm.FP.i2d ix) (4616189618054758400 : UInt64))), .second, .val (.ref k2), .unset] [(.int (1 : Int32))]))
          refine Go.by (fun t k => XS.istore X14.here hx rfl (hb hby at_65) rfl (l' := #[.val (.int ise), .val (.int ix), .val (.int (ise &&& (3 : Int32))), .val (.double (Jvm.FP.ddiv (Jvm.FP.i2d ix) (4616189618054758400 : UInt64))), .second, .val (.ref k2), .val (.int (1 : Int32))]) rfl k) ?_
          show Go p e below _ (T14.setTop (mkF m 67 #[.val (.int ise), .val (.int ix), .val (.int (ise &&& (3 : Int32))), .val (.double (Jvm.FP.ddiv (Jvm.FP.i2d ix) (4616189618054758400 : UInt64))), .second, .val (.ref k2), .val (.int (1 : Int32))] []))
          refine Go.by (fun t k => XS.goto X14.here hx rfl (pc0 := 67) (pc' := 122) rfl (hb hby at_67) (by decide) (by decide) k) ?_
          show Go p e below _ (T14.setTop (mkF m 122 #[.val (.int ise), .val (.int ix), .val (.int (ise &&& (3 : Int32))), .val (.double (Jvm.FP.ddiv (Jvm.FP.i2d ix) (4616189618054758400 : UInt64))), .second, .val (.ref k2), .val (.int (1 : Int32))] []))
          refine Go.by (fun t k => XS.aload X14.here hx rfl (hb hby at_122) rfl rfl k) ?_
          show Go p e below _ (T14.setTop (mkF m 124 #[.val (.int ise), .val (.int ix), .val (.int (ise &&& (3 : Int32))), .val (.double (Jvm.FP.ddiv (Jvm.FP.i2d ix) (4616189618054758400 : UInt64))), .second, .val (.ref k2), .val (.int (1 : Int32))] [(.ref k2)]))
          refine Go.by (fun t k => XS.dloadN X14.here hx rfl (hb hby at_124) rfl k) ?_
          show Go p e below _ (T14.setTop (mkF m 125 #[.val (.int ise), .val (.int ix), .val (.int (ise &&& (3 : Int32))), .val (.double (Jvm.FP.ddiv (Jvm.FP.i2d ix) (4616189618054758400 : UInt64))), .second, .val (.ref k2), .val (.int (1 : Int32))] [(.double (Jvm.FP.ddiv (Jvm.FP.i2d ix) (4616189618054758400 : UInt64))), (.ref k2)]))
          have F22 : Exa Z h0 k2 "com/example/corpus_search/corpussearch/scoring/Parameter" := P8.ext O0.2
          obtain ⟨cq21, kq21, q21a, q21b, q21c⟩ := isOf hZ e14 F22
          obtain ⟨_, _, ⟨T21, L21, k21, n21⟩, -, X21, ⟨Lc21, hQ21, l21, y21, z21⟩, st21⟩ := X14.virtualBack hx (y := (⟨"com/example/corpus_search/corpussearch/scoring/Parameter", "allows", "(D)Z"⟩ : MethodName)) (z := (⟨"com/example/corpus_search/corpussearch/scoring/Parameter", "allows", "(D)Z"⟩ : MethodName)) hown (mvT hZ (hw _ (List.mem_of_getElem? (i := 4) rfl))) (mvT hZ (hw _ (List.mem_of_getElem? (i := 5) rfl))) (notFace_of_selects (args := #[]) (mvT hZ (hw _ (List.mem_of_getElem? (i := 7) rfl)))) (mvT hZ (hw _ (List.mem_of_getElem? (i := 7) rfl))) (mvT hZ (hw _ (List.mem_of_getElem? (i := 6) rfl))) (by decide) (backOf (W := 0) (al1_1 l Z a0 hw [] k2 (Jvm.FP.ddiv (Jvm.FP.i2d ix) (4616189618054758400 : UInt64)) h0 n0 O0 P8 P9 P10 P11) hZ (hw _ (List.mem_of_getElem? (i := 8) rfl)) (hw _ (List.mem_of_getElem? (i := 2) rfl)) (by decide) (by decide)) q21a q21c (g := (mkF m 125 #[.val (.int ise), .val (.int ix), .val (.int (ise &&& (3 : Int32))), .val (.double (Jvm.FP.ddiv (Jvm.FP.i2d ix) (4616189618054758400 : UInt64))), .second, .val (.ref k2), .val (.int (1 : Int32))] [(.double (Jvm.FP.ddiv (Jvm.FP.i2d ix) (4616189618054758400 : UInt64))), (.ref k2)])) rfl (by rw [hml]; rfl) (Steps.refl _) (argsL := [(.double (Jvm.FP.ddiv (Jvm.FP.i2d ix) (4616189618054758400 : UInt64)))]) (rest := []) (lenOf pd_0 rfl) rfl (by show 2 * 0 + _ ≤ _; exact Nat.le_of_eq rfl) (hb hby at_125) (fun _ _ => ⟨rfl, e14, (by decide : 0 + 0 ≤ _), (by decide : 0 + 0 ≤ _)⟩)
          dsimp only [Pt.U, Pt.locs, Pt.cells, Pt.slots] at X21 l21 y21 z21 st21 hQ21
          subst l21 y21 z21
          obtain ⟨rfl, N21q, e21⟩ := hQ21
          have N21 := Fr.app N0 N21q
          refine Go.tr st21 ?_
          show Go p e below _ (T21.setTop (mkF m 128 #[.val (.int ise), .val (.int ix), .val (.int (ise &&& (3 : Int32))), .val (.double (Jvm.FP.ddiv (Jvm.FP.i2d ix) (4616189618054758400 : UInt64))), .second, .val (.ref k2), .val (.int (1 : Int32))] [(.int (own_al1 (Jvm.FP.ddiv (Jvm.FP.i2d ix) (4616189618054758400 : UInt64)) (Jvm.FP.i2d (0 : Int32)) (Jvm.FP.i2d (1 : Int32))))]))
          refine Go.by (fun t k => XS.iload X21.here hx rfl (hb hby at_128) rfl k) ?_
          show Go p e below _ (T21.setTop (mkF m 130 #[.val (.int ise), .val (.int ix), .val (.int (ise &&& (3 : Int32))), .val (.double (Jvm.FP.ddiv (Jvm.FP.i2d ix) (4616189618054758400 : UInt64))), .second, .val (.ref k2), .val (.int (1 : Int32))] [(.int (1 : Int32)), (.int (own_al1 (Jvm.FP.ddiv (Jvm.FP.i2d ix) (4616189618054758400 : UInt64)) (Jvm.FP.i2d (0 : Int32)) (Jvm.FP.i2d (1 : Int32))))]))
          refine Go.by (fun t k => XS.icmpNo X21.here hx rfl (hb hby at_130) rfl (teq (by have z0 : (0 : Int32).toInt = 0 := rfl; have z4 : (4 : Int32).toInt = 4 := rfl; have z4000 : (4000 : Int32).toInt = 4000 := rfl; have q2 := hc15; rw [Int32.lt_iff_toInt_lt] at q2; have q3 := hc18; rw [Int32.lt_iff_toInt_lt] at q3; rw [own_r1 _ _ _ own_q1]; first | (rw [if_neg (by omega), if_neg (by omega)]; done) | (rw [if_pos (by omega)]; done) | (rw [if_neg (by omega), if_pos (by omega)]; done) | (rw [if_pos (by omega), if_pos (by omega)]; done) | (rw [if_pos (by omega), if_neg (by omega)]; done) | (rw [if_neg (by omega)]; done))).2 k) ?_
          show Go p e below _ (T21.setTop (mkF m 133 #[.val (.int ise), .val (.int ix), .val (.int (ise &&& (3 : Int32))), .val (.double (Jvm.FP.ddiv (Jvm.FP.i2d ix) (4616189618054758400 : UInt64))), .second, .val (.ref k2), .val (.int (1 : Int32))] []))
          refine Go.by (fun t k => XS.iconst X21.here hx rfl (hb hby at_133) k) ?_
          show Go p e below _ (T21.setTop (mkF m 134 #[.val (.int ise), .val (.int ix), .val (.int (ise &&& (3 : Int32))), .val (.double (Jvm.FP.ddiv (Jvm.FP.i2d ix) (4616189618054758400 : UInt64))), .second, .val (.ref k2), .val (.int (1 : Int32))] [(.int (1 : Int32))]))
          refine Go.by (fun t k => XS.goto X21.here hx rfl (pc0 := 134) (pc' := 138) rfl (hb hby at_134) (by decide) (by decide) k) ?_
          show Go p e below _ (T21.setTop (mkF m 138 #[.val (.int ise), .val (.int ix), .val (.int (ise &&& (3 : Int32))), .val (.double (Jvm.FP.ddiv (Jvm.FP.i2d ix) (4616189618054758400 : UInt64))), .second, .val (.ref k2), .val (.int (1 : Int32))] [(.int (1 : Int32))]))
          have hq : Q_law Z ise ix k1 k2 k3 k4 h0 n0 (some (.int (nar .boolean (1 : Int32)))) h0 _ := ⟨rfl, N21, rfl⟩
          exact Go.retN X21 hx (t := .boolean) Bd.returns (by simp) hlk (hb hby at_138) (by decide) (by decide) (by rw [e21]; exact hq)
    · skip
      refine Go.by (fun t k => XS.icmpYes X0.here hx rfl (pc0 := 43) (pc' := 70) rfl (hb hby at_43) rfl (feq hc12).2 (by decide) (by decide) k) ?_
      show Go p e below _ (s₁.setTop (mkF m 70 #[.val (.int ise), .val (.int ix), .val (.int (ise &&& (3 : Int32))), .val (.double (Jvm.FP.ddiv (Jvm.FP.i2d ix) (4616189618054758400 : UInt64))), .second, .unset, .unset] []))
      refine Go.by (fun t k => XS.iloadN X0.here hx rfl (hb hby at_70) rfl k) ?_
      show Go p e below _ (s₁.setTop (mkF m 71 #[.val (.int ise), .val (.int ix), .val (.int (ise &&& (3 : Int32))), .val (.double (Jvm.FP.ddiv (Jvm.FP.i2d ix) (4616189618054758400 : UInt64))), .second, .unset, .unset] [(.int (ise &&& (3 : Int32)))]))
      refine Go.by (fun t k => XS.iconst X0.here hx rfl (hb hby at_71) k) ?_
      show Go p e below _ (s₁.setTop (mkF m 72 #[.val (.int ise), .val (.int ix), .val (.int (ise &&& (3 : Int32))), .val (.double (Jvm.FP.ddiv (Jvm.FP.i2d ix) (4616189618054758400 : UInt64))), .second, .unset, .unset] [(.int (2 : Int32)), (.int (ise &&& (3 : Int32)))]))
      by_cases hc23 : (ise &&& (3 : Int32)) = (2 : Int32)
      · skip
        refine Go.by (fun t k => XS.icmpNo X0.here hx rfl (hb hby at_72) rfl (teq hc23).2 k) ?_
        show Go p e below _ (s₁.setTop (mkF m 75 #[.val (.int ise), .val (.int ix), .val (.int (ise &&& (3 : Int32))), .val (.double (Jvm.FP.ddiv (Jvm.FP.i2d ix) (4616189618054758400 : UInt64))), .second, .unset, .unset] []))
        have F24 : Sta Z h0 "com/example/corpus_search/corpussearch/scoring/Parameter" "DELTA" "Lcom/example/corpus_search/corpussearch/scoring/Parameter;" (.ref k3) := P2.ext O0.2
        obtain ⟨T25, X25, e25, st25⟩ := getS2 X0 hx hZ hown (host := "") (Or.inl (hw _ (List.mem_of_getElem? (i := 15) rfl))) Via.refl e0 F24 (g := (mkF m 75 #[.val (.int ise), .val (.int ix), .val (.int (ise &&& (3 : Int32))), .val (.double (Jvm.FP.ddiv (Jvm.FP.i2d ix) (4616189618054758400 : UInt64))), .second, .unset, .unset] [])) rfl (hb hby at_75)
        refine Go.by st25 ?_
        show Go p e below _ (T25.setTop (mkF m 78 #[.val (.int ise), .val (.int ix), .val (.int (ise &&& (3 : Int32))), .val (.double (Jvm.FP.ddiv (Jvm.FP.i2d ix) (4616189618054758400 : UInt64))), .second, .unset, .unset] [(.ref k3)]))
        refine Go.by (fun t k => XS.astore X25.here hx rfl (hb hby at_78) rfl rfl (l' := #[.val (.int ise), .val (.int ix), .val (.int (ise &&& (3 : Int32))), .val (.double (Jvm.FP.ddiv (Jvm.FP.i2d ix) (4616189618054758400 : UInt64))), .second, .val (.ref k3), .unset]) rfl k) ?_
        show Go p e below _ (T25.setTop (mkF m 80 #[.val (.int ise), .val (.int ix), .val (.int (ise &&& (3 : Int32))), .val (.double (Jvm.FP.ddiv (Jvm.FP.i2d ix) (4616189618054758400 : UInt64))), .second, .val (.ref k3), .unset] []))
        refine Go.by (fun t k => XS.iloadN X25.here hx rfl (hb hby at_80) rfl k) ?_
        show Go p e below _ (T25.setTop (mkF m 81 #[.val (.int ise), .val (.int ix), .val (.int (ise &&& (3 : Int32))), .val (.double (Jvm.FP.ddiv (Jvm.FP.i2d ix) (4616189618054758400 : UInt64))), .second, .val (.ref k3), .unset] [(.int ix)]))
        by_cases hc26 : ix < (0 : Int32)
        · skip
          refine Go.by (fun t k => XS.ifYes X25.here hx rfl (pc0 := 81) (pc' := 95) rfl (hb hby at_81) rfl ((if0 _ _).trans (tlt hc26).1) (by decide) (by decide) k) ?_
          show Go p e below _ (T25.setTop (mkF m 95 #[.val (.int ise), .val (.int ix), .val (.int (ise &&& (3 : Int32))), .val (.double (Jvm.FP.ddiv (Jvm.FP.i2d ix) (4616189618054758400 : UInt64))), .second, .val (.ref k3), .unset] []))
          refine Go.by (fun t k => XS.iconst X25.here hx rfl (hb hby at_95) k) ?_
          show Go p e below _ (T25.setTop (mkF m 96 #[.val (.int ise), .val (.int ix), .val (.int (ise &&& (3 : Int32))), .val (.double (Jvm.FP.ddiv (Jvm.FP.i2d ix) (4616189618054758400 : UInt64))), .second, .val (.ref k3), .unset] [(.int (0 : Int32))]))
          refine Go.by (fun t k => XS.istore X25.here hx rfl (hb hby at_96) rfl (l' := #[.val (.int ise), .val (.int ix), .val (.int (ise &&& (3 : Int32))), .val (.double (Jvm.FP.ddiv (Jvm.FP.i2d ix) (4616189618054758400 : UInt64))), .second, .val (.ref k3), .val (.int (0 : Int32))]) rfl k) ?_
          show Go p e below _ (T25.setTop (mkF m 98 #[.val (.int ise), .val (.int ix), .val (.int (ise &&& (3 : Int32))), .val (.double (Jvm.FP.ddiv (Jvm.FP.i2d ix) (4616189618054758400 : UInt64))), .second, .val (.ref k3), .val (.int (0 : Int32))] []))
          refine Go.by (fun t k => XS.goto X25.here hx rfl (pc0 := 98) (pc' := 122) rfl (hb hby at_98) (by decide) (by decide) k) ?_
          show Go p e below _ (T25.setTop (mkF m 122 #[.val (.int ise), .val (.int ix), .val (.int (ise &&& (3 : Int32))), .val (.double (Jvm.FP.ddiv (Jvm.FP.i2d ix) (4616189618054758400 : UInt64))), .second, .val (.ref k3), .val (.int (0 : Int32))] []))
          refine Go.by (fun t k => XS.aload X25.here hx rfl (hb hby at_122) rfl rfl k) ?_
          show Go p e below _ (T25.setTop (mkF m 124 #[.val (.int ise), .val (.int ix), .val (.int (ise &&& (3 : Int32))), .val (.double (Jvm.FP.ddiv (Jvm.FP.i2d ix) (4616189618054758400 : UInt64))), .second, .val (.ref k3), .val (.int (0 : Int32))] [(.ref k3)]))
          refine Go.by (fun t k => XS.dloadN X25.here hx rfl (hb hby at_124) rfl k) ?_
          show Go p e below _ (T25.setTop (mkF m 125 #[.val (.int ise), .val (.int ix), .val (.int (ise &&& (3 : Int32))), .val (.double (Jvm.FP.ddiv (Jvm.FP.i2d ix) (4616189618054758400 : UInt64))), .second, .val (.ref k3), .val (.int (0 : Int32))] [(.double (Jvm.FP.ddiv (Jvm.FP.i2d ix) (4616189618054758400 : UInt64))), (.ref k3)]))
          have F28 : Exa Z h0 k3 "com/example/corpus_search/corpussearch/scoring/Parameter" := P12.ext O0.2
          obtain ⟨cq27, kq27, q27a, q27b, q27c⟩ := isOf hZ e25 F28
          obtain ⟨_, _, ⟨T27, L27, k27, n27⟩, -, X27, ⟨Lc27, hQ27, l27, y27, z27⟩, st27⟩ := X25.virtualBack hx (y := (⟨"com/example/corpus_search/corpussearch/scoring/Parameter", "allows", "(D)Z"⟩ : MethodName)) (z := (⟨"com/example/corpus_search/corpussearch/scoring/Parameter", "allows", "(D)Z"⟩ : MethodName)) hown (mvT hZ (hw _ (List.mem_of_getElem? (i := 4) rfl))) (mvT hZ (hw _ (List.mem_of_getElem? (i := 5) rfl))) (notFace_of_selects (args := #[]) (mvT hZ (hw _ (List.mem_of_getElem? (i := 7) rfl)))) (mvT hZ (hw _ (List.mem_of_getElem? (i := 7) rfl))) (mvT hZ (hw _ (List.mem_of_getElem? (i := 6) rfl))) (by decide) (backOf (W := 0) (al1_1000 l Z a0 hw [] k3 (Jvm.FP.ddiv (Jvm.FP.i2d ix) (4616189618054758400 : UInt64)) h0 n0 O0 P12 P13 P14 P15) hZ (hw _ (List.mem_of_getElem? (i := 8) rfl)) (hw _ (List.mem_of_getElem? (i := 2) rfl)) (by decide) (by decide)) q27a q27c (g := (mkF m 125 #[.val (.int ise), .val (.int ix), .val (.int (ise &&& (3 : Int32))), .val (.double (Jvm.FP.ddiv (Jvm.FP.i2d ix) (4616189618054758400 : UInt64))), .second, .val (.ref k3), .val (.int (0 : Int32))] [(.double (Jvm.FP.ddiv (Jvm.FP.i2d ix) (4616189618054758400 : UInt64))), (.ref k3)])) rfl (by rw [hml]; rfl) (Steps.refl _) (argsL := [(.double (Jvm.FP.ddiv (Jvm.FP.i2d ix) (4616189618054758400 : UInt64)))]) (rest := []) (lenOf pd_0 rfl) rfl (by show 2 * 0 + _ ≤ _; exact Nat.le_of_eq rfl) (hb hby at_125) (fun _ _ => ⟨rfl, e25, (by decide : 0 + 0 ≤ _), (by decide : 0 + 0 ≤ _)⟩)
          dsimp only [Pt.U, Pt.locs, Pt.cells, Pt.slots] at X27 l27 y27 z27 st27 hQ27
          subst l27 y27 z27
          obtain ⟨rfl, N27q, e27⟩ := hQ27
          have N27 := Fr.app N0 N27q
          refine Go.tr st27 ?_
          show Go p e below _ (T27.setTop (mkF m 128 #[.val (.int ise), .val (.int ix), .val (.int (ise &&& (3 : Int32))), .val (.double (Jvm.FP.ddiv (Jvm.FP.i2d ix) (4616189618054758400 : UInt64))), .second, .val (.ref k3), .val (.int (0 : Int32))] [(.int (own_al1 (Jvm.FP.ddiv (Jvm.FP.i2d ix) (4616189618054758400 : UInt64)) (Jvm.FP.i2d (0 : Int32)) (Jvm.FP.i2d (1000 : Int32))))]))
          refine Go.by (fun t k => XS.iload X27.here hx rfl (hb hby at_128) rfl k) ?_
          show Go p e below _ (T27.setTop (mkF m 130 #[.val (.int ise), .val (.int ix), .val (.int (ise &&& (3 : Int32))), .val (.double (Jvm.FP.ddiv (Jvm.FP.i2d ix) (4616189618054758400 : UInt64))), .second, .val (.ref k3), .val (.int (0 : Int32))] [(.int (0 : Int32)), (.int (own_al1 (Jvm.FP.ddiv (Jvm.FP.i2d ix) (4616189618054758400 : UInt64)) (Jvm.FP.i2d (0 : Int32)) (Jvm.FP.i2d (1000 : Int32))))]))
          refine Go.by (fun t k => XS.icmpNo X27.here hx rfl (hb hby at_130) rfl (teq (by have z0 : (0 : Int32).toInt = 0 := rfl; have z4 : (4 : Int32).toInt = 4 := rfl; have z4000 : (4000 : Int32).toInt = 4000 := rfl; have q3 := hc26; rw [Int32.lt_iff_toInt_lt] at q3; rw [own_r1 _ _ _ own_q1000]; first | (rw [if_neg (by omega), if_neg (by omega)]; done) | (rw [if_pos (by omega)]; done) | (rw [if_neg (by omega), if_pos (by omega)]; done) | (rw [if_pos (by omega), if_pos (by omega)]; done) | (rw [if_pos (by omega), if_neg (by omega)]; done) | (rw [if_neg (by omega)]; done))).2 k) ?_
          show Go p e below _ (T27.setTop (mkF m 133 #[.val (.int ise), .val (.int ix), .val (.int (ise &&& (3 : Int32))), .val (.double (Jvm.FP.ddiv (Jvm.FP.i2d ix) (4616189618054758400 : UInt64))), .second, .val (.ref k3), .val (.int (0 : Int32))] []))
          refine Go.by (fun t k => XS.iconst X27.here hx rfl (hb hby at_133) k) ?_
          show Go p e below _ (T27.setTop (mkF m 134 #[.val (.int ise), .val (.int ix), .val (.int (ise &&& (3 : Int32))), .val (.double (Jvm.FP.ddiv (Jvm.FP.i2d ix) (4616189618054758400 : UInt64))), .second, .val (.ref k3), .val (.int (0 : Int32))] [(.int (1 : Int32))]))
          refine Go.by (fun t k => XS.goto X27.here hx rfl (pc0 := 134) (pc' := 138) rfl (hb hby at_134) (by decide) (by decide) k) ?_
          show Go p e below _ (T27.setTop (mkF m 138 #[.val (.int ise), .val (.int ix), .val (.int (ise &&& (3 : Int32))), .val (.double (Jvm.FP.ddiv (Jvm.FP.i2d ix) (4616189618054758400 : UInt64))), .second, .val (.ref k3), .val (.int (0 : Int32))] [(.int (1 : Int32))]))
          have hq : Q_law Z ise ix k1 k2 k3 k4 h0 n0 (some (.int (nar .boolean (1 : Int32)))) h0 _ := ⟨rfl, N27, rfl⟩
          exact Go.retN X27 hx (t := .boolean) Bd.returns (by simp) hlk (hb hby at_138) (by decide) (by decide) (by rw [e27]; exact hq)
        · skip
          refine Go.by (fun t k => XS.ifNo X25.here hx rfl (hb hby at_81) rfl ((if0 _ _).trans (flt hc26).1) k) ?_
          show Go p e below _ (T25.setTop (mkF m 84 #[.val (.int ise), .val (.int ix), .val (.int (ise &&& (3 : Int32))), .val (.double (Jvm.FP.ddiv (Jvm.FP.i2d ix) (4616189618054758400 : UInt64))), .second, .val (.ref k3), .unset] []))
          refine Go.by (fun t k => XS.iloadN X25.here hx rfl (hb hby at_84) rfl k) ?_
          show Go p e below _ (T25.setTop (mkF m 85 #[.val (.int ise), .val (.int ix), .val (.int (ise &&& (3 : Int32))), .val (.double (Jvm.FP.ddiv (Jvm.FP.i2d ix) (4616189618054758400 : UInt64))), .second, .val (.ref k3), .unset] [(.int ix)]))
          refine Go.by (fun t k => XS.sipush X25.here hx rfl (hb hby at_85) k) ?_
          show Go p e below _ (T25.setTop (mkF m 88 #[.val (.int ise), .val (.int ix), .val (.int (ise &&& (3 : Int32))), .val (.double (Jvm.FP.ddiv (Jvm.FP.i2d ix) (4616189618054758400 : UInt64))), .second, .val (.ref k3), .unset] [(.int (4000 : Int32)), (.int ix)]))
          by_cases hc29 : (4000 : Int32) < ix
          · skip
            refine Go.by (fun t k => XS.icmpYes X25.here hx rfl (pc0 := 88) (pc' := 95) rfl (hb hby at_88) rfl (tlt hc29).2.2.1 (by decide) (by decide) k) ?_
            show Go p e below _ (T25.setTop (mkF m 95 #[.val (.int ise), .val (.int ix), .val (.int (ise &&& (3 : Int32))), .val (.double (Jvm.FP.ddiv (Jvm.FP.i2d ix) (4616189618054758400 : UInt64))), .second, .val (.ref k3), .unset] []))
            refine Go.by (fun t k => XS.iconst X25.here hx rfl (hb hby at_95) k) ?_
            show Go p e below _ (T25.setTop (mkF m 96 #[.val (.int ise), .val (.int ix), .val (.int (ise &&& (3 : Int32))), .val (.double (Jvm.FP.ddiv (Jvm.FP.i2d ix) (4616189618054758400 : UInt64))), .second, .val (.ref k3), .unset] [(.int (0 : Int32))]))
            refine Go.by (fun t k => XS.istore X25.here hx rfl (hb hby at_96) rfl (l' := #[.val (.int ise), .val (.int ix), .val (.int (ise &&& (3 : Int32))), .val (.double (Jvm.FP.ddiv (Jvm.FP.i2d ix) (4616189618054758400 : UInt64))), .second, .val (.ref k3), .val (.int (0 : Int32))]) rfl k) ?_
            show Go p e below _ (T25.setTop (mkF m 98 #[.val (.int ise), .val (.int ix), .val (.int (ise &&& (3 : Int32))), .val (.double (Jvm.FP.ddiv (Jvm.FP.i2d ix) (4616189618054758400 : UInt64))), .second, .val (.ref k3), .val (.int (0 : Int32))] []))
            refine Go.by (fun t k => XS.goto X25.here hx rfl (pc0 := 98) (pc' := 122) rfl (hb hby at_98) (by decide) (by decide) k) ?_
            show Go p e below _ (T25.setTop (mkF m 122 #[.val (.int ise), .val (.int ix), .val (.int (ise &&& (3 : Int32))), .val (.double (Jvm.FP.ddiv (Jvm.FP.i2d ix) (4616189618054758400 : UInt64))), .second, .val (.ref k3), .val (.int (0 : Int32))] []))
            refine Go.by (fun t k => XS.aload X25.here hx rfl (hb hby at_122) rfl rfl k) ?_
            show Go p e below _ (T25.setTop (mkF m 124 #[.val (.int ise), .val (.int ix), .val (.int (ise &&& (3 : Int32))), .val (.double (Jvm.FP.ddiv (Jvm.FP.i2d ix) (4616189618054758400 : UInt64))), .second, .val (.ref k3), .val (.int (0 : Int32))] [(.ref k3)]))
            refine Go.by (fun t k => XS.dloadN X25.here hx rfl (hb hby at_124) rfl k) ?_
            show Go p e below _ (T25.setTop (mkF m 125 #[.val (.int ise), .val (.int ix), .val (.int (ise &&& (3 : Int32))), .val (.double (Jvm.FP.ddiv (Jvm.FP.i2d ix) (4616189618054758400 : UInt64))), .second, .val (.ref k3), .val (.int (0 : Int32))] [(.double (Jvm.FP.ddiv (Jvm.FP.i2d ix) (4616189618054758400 : UInt64))), (.ref k3)]))
            have F31 : Exa Z h0 k3 "com/example/corpus_search/corpussearch/scoring/Parameter" := P12.ext O0.2
            obtain ⟨cq30, kq30, q30a, q30b, q30c⟩ := isOf hZ e25 F31
            obtain ⟨_, _, ⟨T30, L30, k30, n30⟩, -, X30, ⟨Lc30, hQ30, l30, y30, z30⟩, st30⟩ := X25.virtualBack hx (y := (⟨"com/example/corpus_search/corpussearch/scoring/Parameter", "allows", "(D)Z"⟩ : MethodName)) (z := (⟨"com/example/corpus_search/corpussearch/scoring/Parameter", "allows", "(D)Z"⟩ : MethodName)) hown (mvT hZ (hw _ (List.mem_of_getElem? (i := 4) rfl))) (mvT hZ (hw _ (List.mem_of_getElem? (i := 5) rfl))) (notFace_of_selects (args := #[]) (mvT hZ (hw _ (List.mem_of_getElem? (i := 7) rfl)))) (mvT hZ (hw _ (List.mem_of_getElem? (i := 7) rfl))) (mvT hZ (hw _ (List.mem_of_getElem? (i := 6) rfl))) (by decide) (backOf (W := 0) (al1_1000 l Z a0 hw [] k3 (Jvm.FP.ddiv (Jvm.FP.i2d ix) (4616189618054758400 : UInt64)) h0 n0 O0 P12 P13 P14 P15) hZ (hw _ (List.mem_of_getElem? (i := 8) rfl)) (hw _ (List.mem_of_getElem? (i := 2) rfl)) (by decide) (by decide)) q30a q30c (g := (mkF m 125 #[.val (.int ise), .val (.int ix), .val (.int (ise &&& (3 : Int32))), .val (.double (Jvm.FP.ddiv (Jvm.FP.i2d ix) (4616189618054758400 : UInt64))), .second, .val (.ref k3), .val (.int (0 : Int32))] [(.double (Jvm.FP.ddiv (Jvm.FP.i2d ix) (4616189618054758400 : UInt64))), (.ref k3)])) rfl (by rw [hml]; rfl) (Steps.refl _) (argsL := [(.double (Jvm.FP.ddiv (Jvm.FP.i2d ix) (4616189618054758400 : UInt64)))]) (rest := []) (lenOf pd_0 rfl) rfl (by show 2 * 0 + _ ≤ _; exact Nat.le_of_eq rfl) (hb hby at_125) (fun _ _ => ⟨rfl, e25, (by decide : 0 + 0 ≤ _), (by decide : 0 + 0 ≤ _)⟩)
            dsimp only [Pt.U, Pt.locs, Pt.cells, Pt.slots] at X30 l30 y30 z30 st30 hQ30
            subst l30 y30 z30
            obtain ⟨rfl, N30q, e30⟩ := hQ30
            have N30 := Fr.app N0 N30q
            refine Go.tr st30 ?_
            show Go p e below _ (T30.setTop (mkF m 128 #[.val (.int ise), .val (.int ix), .val (.int (ise &&& (3 : Int32))), .val (.double (Jvm.FP.ddiv (Jvm.FP.i2d ix) (4616189618054758400 : UInt64))), .second, .val (.ref k3), .val (.int (0 : Int32))] [(.int (own_al1 (Jvm.FP.ddiv (Jvm.FP.i2d ix) (4616189618054758400 : UInt64)) (Jvm.FP.i2d (0 : Int32)) (Jvm.FP.i2d (1000 : Int32))))]))
            refine Go.by (fun t k => XS.iload X30.here hx rfl (hb hby at_128) rfl k) ?_
            show Go p e below _ (T30.setTop (mkF m 130 #[.val (.int ise), .val (.int ix), .val (.int (ise &&& (3 : Int32))), .val (.double (Jvm.FP.ddiv (Jvm.FP.i2d ix) (4616189618054758400 : UInt64))), .second, .val (.ref k3), .val (.int (0 : Int32))] [(.int (0 : Int32)), (.int (own_al1 (Jvm.FP.ddiv (Jvm.FP.i2d ix) (4616189618054758400 : UInt64)) (Jvm.FP.i2d (0 : Int32)) (Jvm.FP.i2d (1000 : Int32))))]))
            refine Go.by (fun t k => XS.icmpNo X30.here hx rfl (hb hby at_130) rfl (teq (by have z0 : (0 : Int32).toInt = 0 := rfl; have z4 : (4 : Int32).toInt = 4 := rfl; have z4000 : (4000 : Int32).toInt = 4000 := rfl; have q3 := hc26; rw [Int32.lt_iff_toInt_lt] at q3; have q4 := hc29; rw [Int32.lt_iff_toInt_lt] at q4; rw [own_r1 _ _ _ own_q1000]; first | (rw [if_neg (by omega), if_neg (by omega)]; done) | (rw [if_pos (by omega)]; done) | (rw [if_neg (by omega), if_pos (by omega)]; done) | (rw [if_pos (by omega), if_pos (by omega)]; done) | (rw [if_pos (by omega), if_neg (by omega)]; done) | (rw [if_neg (by omega)]; done))).2 k) ?_
            show Go p e below _ (T30.setTop (mkF m 133 #[.val (.int ise), .val (.int ix), .val (.int (ise &&& (3 : Int32))), .val (.double (Jvm.FP.ddiv (Jvm.FP.i2d ix) (4616189618054758400 : UInt64))), .second, .val (.ref k3), .val (.int (0 : Int32))] []))
            refine Go.by (fun t k => XS.iconst X30.here hx rfl (hb hby at_133) k) ?_
            show Go p e below _ (T30.setTop (mkF m 134 #[.val (.int ise), .val (.int ix), .val (.int (ise &&& (3 : Int32))), .val (.double (Jvm.FP.ddiv (Jvm.FP.i2d ix) (4616189618054758400 : UInt64))), .second, .val (.ref k3), .val (.int (0 : Int32))] [(.int (1 : Int32))]))
            refine Go.by (fun t k => XS.goto X30.here hx rfl (pc0 := 134) (pc' := 138) rfl (hb hby at_134) (by decide) (by decide) k) ?_
            show Go p e below _ (T30.setTop (mkF m 138 #[.val (.int ise), .val (.int ix), .val (.int (ise &&& (3 : Int32))), .val (.double (Jvm.FP.ddiv (Jvm.FP.i2d ix) (4616189618054758400 : UInt64))), .second, .val (.ref k3), .val (.int (0 : Int32))] [(.int (1 : Int32))]))
            have hq : Q_law Z ise ix k1 k2 k3 k4 h0 n0 (some (.int (nar .boolean (1 : Int32)))) h0 _ := ⟨rfl, N30, rfl⟩
            exact Go.retN X30 hx (t := .boolean) Bd.returns (by simp) hlk (hb hby at_138) (by decide) (by decide) (by rw [e30]; exact hq)
          · skip
            refine Go.by (fun t k => XS.icmpNo X25.here hx rfl (hb hby at_88) rfl (flt hc29).2.2.1 k) ?_
            show Go p e below _ (T25.setTop (mkF m 91 #[.val (.int ise), .val (.int ix), .val (.int (ise &&& (3 : Int32))), .val (.double (Jvm.FP.ddiv (Jvm.FP.i2d ix) (4616189618054758400 : UInt64))), .second, .val (.ref k3), .unset] []))
            refine Go.by (fun t k => XS.iconst X25.here hx rfl (hb hby at_91) k) ?_
            show Go p e below _ (T25.setTop (mkF m 92 #[.val (.int ise), .val (.int ix), .val (.int (ise &&& (3 : Int32))), .val (.double (Jvm.FP.ddiv (Jvm.FP.i2d ix) (4616189618054758400 : UInt64))), .second, .val (.ref k3), .unset] [(.int (1 : Int32))]))
            refine Go.by (fun t k => XS.goto X25.here hx rfl (pc0 := 92) (pc' := 96) rfl (hb hby at_92) (by decide) (by decide) k) ?_
            show Go p e below _ (T25.setTop (mkF m 96 #[.val (.int ise), .val (.int ix), .val (.int (ise &&& (3 : Int32))), .val (.double (Jvm.FP.ddiv (Jvm.FP.i2d ix) (4616189618054758400 : UInt64))), .second, .val (.ref k3), .unset] [(.int (1 : Int32))]))
            refine Go.by (fun t k => XS.istore X25.here hx rfl (hb hby at_96) rfl (l' := #[.val (.int ise), .val (.int ix), .val (.int (ise &&& (3 : Int32))), .val (.double (Jvm.FP.ddiv (Jvm.FP.i2d ix) (4616189618054758400 : UInt64))), .second, .val (.ref k3), .val (.int (1 : Int32))]) rfl k) ?_
            show Go p e below _ (T25.setTop (mkF m 98 #[.val (.int ise), .val (.int ix), .val (.int (ise &&& (3 : Int32))), .val (.double (Jvm.FP.ddiv (Jvm.FP.i2d ix) (4616189618054758400 : UInt64))), .second, .val (.ref k3), .val (.int (1 : Int32))] []))
            refine Go.by (fun t k => XS.goto X25.here hx rfl (pc0 := 98) (pc' := 122) rfl (hb hby at_98) (by decide) (by decide) k) ?_
            show Go p e below _ (T25.setTop (mkF m 122 #[.val (.int ise), .val (.int ix), .val (.int (ise &&& (3 : Int32))), .val (.double (Jvm.FP.ddiv (Jvm.FP.i2d ix) (4616189618054758400 : UInt64))), .second, .val (.ref k3), .val (.int (1 : Int32))] []))
            refine Go.by (fun t k => XS.aload X25.here hx rfl (hb hby at_122) rfl rfl k) ?_
            show Go p e below _ (T25.setTop (mkF m 124 #[.val (.int ise), .val (.int ix), .val (.int (ise &&& (3 : Int32))), .val (.double (Jvm.FP.ddiv (Jvm.FP.i2d ix) (4616189618054758400 : UInt64))), .second, .val (.ref k3), .val (.int (1 : Int32))] [(.ref k3)]))
            refine Go.by (fun t k => XS.dloadN X25.here hx rfl (hb hby at_124) rfl k) ?_
            show Go p e below _ (T25.setTop (mkF m 125 #[.val (.int ise), .val (.int ix), .val (.int (ise &&& (3 : Int32))), .val (.double (Jvm.FP.ddiv (Jvm.FP.i2d ix) (4616189618054758400 : UInt64))), .second, .val (.ref k3), .val (.int (1 : Int32))] [(.double (Jvm.FP.ddiv (Jvm.FP.i2d ix) (4616189618054758400 : UInt64))), (.ref k3)]))
            have F33 : Exa Z h0 k3 "com/example/corpus_search/corpussearch/scoring/Parameter" := P12.ext O0.2
            obtain ⟨cq32, kq32, q32a, q32b, q32c⟩ := isOf hZ e25 F33
            obtain ⟨_, _, ⟨T32, L32, k32, n32⟩, -, X32, ⟨Lc32, hQ32, l32, y32, z32⟩, st32⟩ := X25.virtualBack hx (y := (⟨"com/example/corpus_search/corpussearch/scoring/Parameter", "allows", "(D)Z"⟩ : MethodName)) (z := (⟨"com/example/corpus_search/corpussearch/scoring/Parameter", "allows", "(D)Z"⟩ : MethodName)) hown (mvT hZ (hw _ (List.mem_of_getElem? (i := 4) rfl))) (mvT hZ (hw _ (List.mem_of_getElem? (i := 5) rfl))) (notFace_of_selects (args := #[]) (mvT hZ (hw _ (List.mem_of_getElem? (i := 7) rfl)))) (mvT hZ (hw _ (List.mem_of_getElem? (i := 7) rfl))) (mvT hZ (hw _ (List.mem_of_getElem? (i := 6) rfl))) (by decide) (backOf (W := 0) (al1_1000 l Z a0 hw [] k3 (Jvm.FP.ddiv (Jvm.FP.i2d ix) (4616189618054758400 : UInt64)) h0 n0 O0 P12 P13 P14 P15) hZ (hw _ (List.mem_of_getElem? (i := 8) rfl)) (hw _ (List.mem_of_getElem? (i := 2) rfl)) (by decide) (by decide)) q32a q32c (g := (mkF m 125 #[.val (.int ise), .val (.int ix), .val (.int (ise &&& (3 : Int32))), .val (.double (Jvm.FP.ddiv (Jvm.FP.i2d ix) (4616189618054758400 : UInt64))), .second, .val (.ref k3), .val (.int (1 : Int32))] [(.double (Jvm.FP.ddiv (Jvm.FP.i2d ix) (4616189618054758400 : UInt64))), (.ref k3)])) rfl (by rw [hml]; rfl) (Steps.refl _) (argsL := [(.double (Jvm.FP.ddiv (Jvm.FP.i2d ix) (4616189618054758400 : UInt64)))]) (rest := []) (lenOf pd_0 rfl) rfl (by show 2 * 0 + _ ≤ _; exact Nat.le_of_eq rfl) (hb hby at_125) (fun _ _ => ⟨rfl, e25, (by decide : 0 + 0 ≤ _), (by decide : 0 + 0 ≤ _)⟩)
            dsimp only [Pt.U, Pt.locs, Pt.cells, Pt.slots] at X32 l32 y32 z32 st32 hQ32
            subst l32 y32 z32
            obtain ⟨rfl, N32q, e32⟩ := hQ32
            have N32 := Fr.app N0 N32q
            refine Go.tr st32 ?_
            show Go p e below _ (T32.setTop (mkF m 128 #[.val (.int ise), .val (.int ix), .val (.int (ise &&& (3 : Int32))), .val (.double (Jvm.FP.ddiv (Jvm.FP.i2d ix) (4616189618054758400 : UInt64))), .second, .val (.ref k3), .val (.int (1 : Int32))] [(.int (own_al1 (Jvm.FP.ddiv (Jvm.FP.i2d ix) (4616189618054758400 : UInt64)) (Jvm.FP.i2d (0 : Int32)) (Jvm.FP.i2d (1000 : Int32))))]))
            refine Go.by (fun t k => XS.iload X32.here hx rfl (hb hby at_128) rfl k) ?_
            show Go p e below _ (T32.setTop (mkF m 130 #[.val (.int ise), .val (.int ix), .val (.int (ise &&& (3 : Int32))), .val (.double (Jvm.FP.ddiv (Jvm.FP.i2d ix) (4616189618054758400 : UInt64))), .second, .val (.ref k3), .val (.int (1 : Int32))] [(.int (1 : Int32)), (.int (own_al1 (Jvm.FP.ddiv (Jvm.FP.i2d ix) (4616189618054758400 : UInt64)) (Jvm.FP.i2d (0 : Int32)) (Jvm.FP.i2d (1000 : Int32))))]))
            refine Go.by (fun t k => XS.icmpNo X32.here hx rfl (hb hby at_130) rfl (teq (by have z0 : (0 : Int32).toInt = 0 := rfl; have z4 : (4 : Int32).toInt = 4 := rfl; have z4000 : (4000 : Int32).toInt = 4000 := rfl; have q3 := hc26; rw [Int32.lt_iff_toInt_lt] at q3; have q4 := hc29; rw [Int32.lt_iff_toInt_lt] at q4; rw [own_r1 _ _ _ own_q1000]; first | (rw [if_neg (by omega), if_neg (by omega)]; done) | (rw [if_pos (by omega)]; done) | (rw [if_neg (by omega), if_pos (by omega)]; done) | (rw [if_pos (by omega), if_pos (by omega)]; done) | (rw [if_pos (by omega), if_neg (by omega)]; done) | (rw [if_neg (by omega)]; done))).2 k) ?_
            show Go p e below _ (T32.setTop (mkF m 133 #[.val (.int ise), .val (.int ix), .val (.int (ise &&& (3 : Int32))), .val (.double (Jvm.FP.ddiv (Jvm.FP.i2d ix) (4616189618054758400 : UInt64))), .second, .val (.ref k3), .val (.int (1 : Int32))] []))
            refine Go.by (fun t k => XS.iconst X32.here hx rfl (hb hby at_133) k) ?_
            show Go p e below _ (T32.setTop (mkF m 134 #[.val (.int ise), .val (.int ix), .val (.int (ise &&& (3 : Int32))), .val (.double (Jvm.FP.ddiv (Jvm.FP.i2d ix) (4616189618054758400 : UInt64))), .second, .val (.ref k3), .val (.int (1 : Int32))] [(.int (1 : Int32))]))
            refine Go.by (fun t k => XS.goto X32.here hx rfl (pc0 := 134) (pc' := 138) rfl (hb hby at_134) (by decide) (by decide) k) ?_
            show Go p e below _ (T32.setTop (mkF m 138 #[.val (.int ise), .val (.int ix), .val (.int (ise &&& (3 : Int32))), .val (.double (Jvm.FP.ddiv (Jvm.FP.i2d ix) (4616189618054758400 : UInt64))), .second, .val (.ref k3), .val (.int (1 : Int32))] [(.int (1 : Int32))]))
            have hq : Q_law Z ise ix k1 k2 k3 k4 h0 n0 (some (.int (nar .boolean (1 : Int32)))) h0 _ := ⟨rfl, N32, rfl⟩
            exact Go.retN X32 hx (t := .boolean) Bd.returns (by simp) hlk (hb hby at_138) (by decide) (by decide) (by rw [e32]; exact hq)
      · skip
        refine Go.by (fun t k => XS.icmpYes X0.here hx rfl (pc0 := 72) (pc' := 101) rfl (hb hby at_72) rfl (feq hc23).2 (by decide) (by decide) k) ?_
        show Go p e below _ (s₁.setTop (mkF m 101 #[.val (.int ise), .val (.int ix), .val (.int (ise &&& (3 : Int32))), .val (.double (Jvm.FP.ddiv (Jvm.FP.i2d ix) (4616189618054758400 : UInt64))), .second, .unset, .unset] []))
        have F34 : Sta Z h0 "com/example/corpus_search/corpussearch/scoring/Parameter" "LAMBDA" "Lcom/example/corpus_search/corpussearch/scoring/Parameter;" (.ref k4) := P3.ext O0.2
        obtain ⟨T35, X35, e35, st35⟩ := getS2 X0 hx hZ hown (host := "") (Or.inl (hw _ (List.mem_of_getElem? (i := 19) rfl))) Via.refl e0 F34 (g := (mkF m 101 #[.val (.int ise), .val (.int ix), .val (.int (ise &&& (3 : Int32))), .val (.double (Jvm.FP.ddiv (Jvm.FP.i2d ix) (4616189618054758400 : UInt64))), .second, .unset, .unset] [])) rfl (hb hby at_101)
        refine Go.by st35 ?_
        show Go p e below _ (T35.setTop (mkF m 104 #[.val (.int ise), .val (.int ix), .val (.int (ise &&& (3 : Int32))), .val (.double (Jvm.FP.ddiv (Jvm.FP.i2d ix) (4616189618054758400 : UInt64))), .second, .unset, .unset] [(.ref k4)]))
        refine Go.by (fun t k => XS.astore X35.here hx rfl (hb hby at_104) rfl rfl (l' := #[.val (.int ise), .val (.int ix), .val (.int (ise &&& (3 : Int32))), .val (.double (Jvm.FP.ddiv (Jvm.FP.i2d ix) (4616189618054758400 : UInt64))), .second, .val (.ref k4), .unset]) rfl k) ?_
        show Go p e below _ (T35.setTop (mkF m 106 #[.val (.int ise), .val (.int ix), .val (.int (ise &&& (3 : Int32))), .val (.double (Jvm.FP.ddiv (Jvm.FP.i2d ix) (4616189618054758400 : UInt64))), .second, .val (.ref k4), .unset] []))
        refine Go.by (fun t k => XS.iloadN X35.here hx rfl (hb hby at_106) rfl k) ?_
        show Go p e below _ (T35.setTop (mkF m 107 #[.val (.int ise), .val (.int ix), .val (.int (ise &&& (3 : Int32))), .val (.double (Jvm.FP.ddiv (Jvm.FP.i2d ix) (4616189618054758400 : UInt64))), .second, .val (.ref k4), .unset] [(.int ix)]))
        by_cases hc36 : (0 : Int32) < ix
        · skip
          refine Go.by (fun t k => XS.ifNo X35.here hx rfl (hb hby at_107) rfl ((if0 _ _).trans (tlt hc36).2.2.2) k) ?_
          show Go p e below _ (T35.setTop (mkF m 110 #[.val (.int ise), .val (.int ix), .val (.int (ise &&& (3 : Int32))), .val (.double (Jvm.FP.ddiv (Jvm.FP.i2d ix) (4616189618054758400 : UInt64))), .second, .val (.ref k4), .unset] []))
          refine Go.by (fun t k => XS.iloadN X35.here hx rfl (hb hby at_110) rfl k) ?_
          show Go p e below _ (T35.setTop (mkF m 111 #[.val (.int ise), .val (.int ix), .val (.int (ise &&& (3 : Int32))), .val (.double (Jvm.FP.ddiv (Jvm.FP.i2d ix) (4616189618054758400 : UInt64))), .second, .val (.ref k4), .unset] [(.int ix)]))
          refine Go.by (fun t k => XS.iconst X35.here hx rfl (hb hby at_111) k) ?_
          show Go p e below _ (T35.setTop (mkF m 112 #[.val (.int ise), .val (.int ix), .val (.int (ise &&& (3 : Int32))), .val (.double (Jvm.FP.ddiv (Jvm.FP.i2d ix) (4616189618054758400 : UInt64))), .second, .val (.ref k4), .unset] [(.int (4 : Int32)), (.int ix)]))
          by_cases hc37 : ix < (4 : Int32)
          · skip
            refine Go.by (fun t k => XS.icmpNo X35.here hx rfl (hb hby at_112) rfl (tlt hc37).2.1 k) ?_
            show Go p e below _ (T35.setTop (mkF m 115 #[.val (.int ise), .val (.int ix), .val (.int (ise &&& (3 : Int32))), .val (.double (Jvm.FP.ddiv (Jvm.FP.i2d ix) (4616189618054758400 : UInt64))), .second, .val (.ref k4), .unset] []))
            refine Go.by (fun t k => XS.iconst X35.here hx rfl (hb hby at_115) k) ?_
            show Go p e below _ (T35.setTop (mkF m 116 #[.val (.int ise), .val (.int ix), .val (.int (ise &&& (3 : Int32))), .val (.double (Jvm.FP.ddiv (Jvm.FP.i2d ix) (4616189618054758400 : UInt64))), .second, .val (.ref k4), .unset] [(.int (1 : Int32))]))
            refine Go.by (fun t k => XS.goto X35.here hx rfl (pc0 := 116) (pc' := 120) rfl (hb hby at_116) (by decide) (by decide) k) ?_
            show Go p e below _ (T35.setTop (mkF m 120 #[.val (.int ise), .val (.int ix), .val (.int (ise &&& (3 : Int32))), .val (.double (Jvm.FP.ddiv (Jvm.FP.i2d ix) (4616189618054758400 : UInt64))), .second, .val (.ref k4), .unset] [(.int (1 : Int32))]))
            refine Go.by (fun t k => XS.istore X35.here hx rfl (hb hby at_120) rfl (l' := #[.val (.int ise), .val (.int ix), .val (.int (ise &&& (3 : Int32))), .val (.double (Jvm.FP.ddiv (Jvm.FP.i2d ix) (4616189618054758400 : UInt64))), .second, .val (.ref k4), .val (.int (1 : Int32))]) rfl k) ?_
            show Go p e below _ (T35.setTop (mkF m 122 #[.val (.int ise), .val (.int ix), .val (.int (ise &&& (3 : Int32))), .val (.double (Jvm.FP.ddiv (Jvm.FP.i2d ix) (4616189618054758400 : UInt64))), .second, .val (.ref k4), .val (.int (1 : Int32))] []))
            refine Go.by (fun t k => XS.aload X35.here hx rfl (hb hby at_122) rfl rfl k) ?_
            show Go p e below _ (T35.setTop (mkF m 124 #[.val (.int ise), .val (.int ix), .val (.int (ise &&& (3 : Int32))), .val (.double (Jvm.FP.ddiv (Jvm.FP.i2d ix) (4616189618054758400 : UInt64))), .second, .val (.ref k4), .val (.int (1 : Int32))] [(.ref k4)]))
            refine Go.by (fun t k => XS.dloadN X35.here hx rfl (hb hby at_124) rfl k) ?_
            show Go p e below _ (T35.setTop (mkF m 125 #[.val (.int ise), .val (.int ix), .val (.int (ise &&& (3 : Int32))), .val (.double (Jvm.FP.ddiv (Jvm.FP.i2d ix) (4616189618054758400 : UInt64))), .second, .val (.ref k4), .val (.int (1 : Int32))] [(.double (Jvm.FP.ddiv (Jvm.FP.i2d ix) (4616189618054758400 : UInt64))), (.ref k4)]))
            have F39 : Exa Z h0 k4 "com/example/corpus_search/corpussearch/scoring/Parameter" := P16.ext O0.2
            obtain ⟨cq38, kq38, q38a, q38b, q38c⟩ := isOf hZ e35 F39
            obtain ⟨_, _, ⟨T38, L38, k38, n38⟩, -, X38, ⟨Lc38, hQ38, l38, y38, z38⟩, st38⟩ := X35.virtualBack hx (y := (⟨"com/example/corpus_search/corpussearch/scoring/Parameter", "allows", "(D)Z"⟩ : MethodName)) (z := (⟨"com/example/corpus_search/corpussearch/scoring/Parameter", "allows", "(D)Z"⟩ : MethodName)) hown (mvT hZ (hw _ (List.mem_of_getElem? (i := 4) rfl))) (mvT hZ (hw _ (List.mem_of_getElem? (i := 5) rfl))) (notFace_of_selects (args := #[]) (mvT hZ (hw _ (List.mem_of_getElem? (i := 7) rfl)))) (mvT hZ (hw _ (List.mem_of_getElem? (i := 7) rfl))) (mvT hZ (hw _ (List.mem_of_getElem? (i := 6) rfl))) (by decide) (backOf (W := 0) (al0_1 l Z a0 hw [] k4 (Jvm.FP.ddiv (Jvm.FP.i2d ix) (4616189618054758400 : UInt64)) h0 n0 O0 P16 P17 P18 P19) hZ (hw _ (List.mem_of_getElem? (i := 8) rfl)) (hw _ (List.mem_of_getElem? (i := 2) rfl)) (by decide) (by decide)) q38a q38c (g := (mkF m 125 #[.val (.int ise), .val (.int ix), .val (.int (ise &&& (3 : Int32))), .val (.double (Jvm.FP.ddiv (Jvm.FP.i2d ix) (4616189618054758400 : UInt64))), .second, .val (.ref k4), .val (.int (1 : Int32))] [(.double (Jvm.FP.ddiv (Jvm.FP.i2d ix) (4616189618054758400 : UInt64))), (.ref k4)])) rfl (by rw [hml]; rfl) (Steps.refl _) (argsL := [(.double (Jvm.FP.ddiv (Jvm.FP.i2d ix) (4616189618054758400 : UInt64)))]) (rest := []) (lenOf pd_0 rfl) rfl (by show 2 * 0 + _ ≤ _; exact Nat.le_of_eq rfl) (hb hby at_125) (fun _ _ => ⟨rfl, e35, (by decide : 0 + 0 ≤ _), (by decide : 0 + 0 ≤ _)⟩)
            dsimp only [Pt.U, Pt.locs, Pt.cells, Pt.slots] at X38 l38 y38 z38 st38 hQ38
            subst l38 y38 z38
            obtain ⟨rfl, N38q, e38⟩ := hQ38
            have N38 := Fr.app N0 N38q
            refine Go.tr st38 ?_
            show Go p e below _ (T38.setTop (mkF m 128 #[.val (.int ise), .val (.int ix), .val (.int (ise &&& (3 : Int32))), .val (.double (Jvm.FP.ddiv (Jvm.FP.i2d ix) (4616189618054758400 : UInt64))), .second, .val (.ref k4), .val (.int (1 : Int32))] [(.int (own_al0 (Jvm.FP.ddiv (Jvm.FP.i2d ix) (4616189618054758400 : UInt64)) (Jvm.FP.i2d (0 : Int32)) (Jvm.FP.i2d (1 : Int32))))]))
            refine Go.by (fun t k => XS.iload X38.here hx rfl (hb hby at_128) rfl k) ?_
            show Go p e below _ (T38.setTop (mkF m 130 #[.val (.int ise), .val (.int ix), .val (.int (ise &&& (3 : Int32))), .val (.double (Jvm.FP.ddiv (Jvm.FP.i2d ix) (4616189618054758400 : UInt64))), .second, .val (.ref k4), .val (.int (1 : Int32))] [(.int (1 : Int32)), (.int (own_al0 (Jvm.FP.ddiv (Jvm.FP.i2d ix) (4616189618054758400 : UInt64)) (Jvm.FP.i2d (0 : Int32)) (Jvm.FP.i2d (1 : Int32))))]))
            refine Go.by (fun t k => XS.icmpNo X38.here hx rfl (hb hby at_130) rfl (teq (by have z0 : (0 : Int32).toInt = 0 := rfl; have z4 : (4 : Int32).toInt = 4 := rfl; have z4000 : (4000 : Int32).toInt = 4000 := rfl; have q3 := hc36; rw [Int32.lt_iff_toInt_lt] at q3; have q4 := hc37; rw [Int32.lt_iff_toInt_lt] at q4; rw [own_r0 _ _ _ own_q1]; first | (rw [if_neg (by omega), if_neg (by omega)]; done) | (rw [if_pos (by omega)]; done) | (rw [if_neg (by omega), if_pos (by omega)]; done) | (rw [if_pos (by omega), if_pos (by omega)]; done) | (rw [if_pos (by omega), if_neg (by omega)]; done) | (rw [if_neg (by omega)]; done))).2 k) ?_
            show Go p e below _ (T38.setTop (mkF m 133 #[.val (.int ise), .val (.int ix), .val (.int (ise &&& (3 : Int32))), .val (.double (Jvm.FP.ddiv (Jvm.FP.i2d ix) (4616189618054758400 : UInt64))), .second, .val (.ref k4), .val (.int (1 : Int32))] []))
            refine Go.by (fun t k => XS.iconst X38.here hx rfl (hb hby at_133) k) ?_
            show Go p e below _ (T38.setTop (mkF m 134 #[.val (.int ise), .val (.int ix), .val (.int (ise &&& (3 : Int32))), .val (.double (Jvm.FP.ddiv (Jvm.FP.i2d ix) (4616189618054758400 : UInt64))), .second, .val (.ref k4), .val (.int (1 : Int32))] [(.int (1 : Int32))]))
            refine Go.by (fun t k => XS.goto X38.here hx rfl (pc0 := 134) (pc' := 138) rfl (hb hby at_134) (by decide) (by decide) k) ?_
            show Go p e below _ (T38.setTop (mkF m 138 #[.val (.int ise), .val (.int ix), .val (.int (ise &&& (3 : Int32))), .val (.double (Jvm.FP.ddiv (Jvm.FP.i2d ix) (4616189618054758400 : UInt64))), .second, .val (.ref k4), .val (.int (1 : Int32))] [(.int (1 : Int32))]))
            have hq : Q_law Z ise ix k1 k2 k3 k4 h0 n0 (some (.int (nar .boolean (1 : Int32)))) h0 _ := ⟨rfl, N38, rfl⟩
            exact Go.retN X38 hx (t := .boolean) Bd.returns (by simp) hlk (hb hby at_138) (by decide) (by decide) (by rw [e38]; exact hq)
          · skip
            refine Go.by (fun t k => XS.icmpYes X35.here hx rfl (pc0 := 112) (pc' := 119) rfl (hb hby at_112) rfl (flt hc37).2.1 (by decide) (by decide) k) ?_
            show Go p e below _ (T35.setTop (mkF m 119 #[.val (.int ise), .val (.int ix), .val (.int (ise &&& (3 : Int32))), .val (.double (Jvm.FP.ddiv (Jvm.FP.i2d ix) (4616189618054758400 : UInt64))), .second, .val (.ref k4), .unset] []))
            refine Go.by (fun t k => XS.iconst X35.here hx rfl (hb hby at_119) k) ?_
            show Go p e below _ (T35.setTop (mkF m 120 #[.val (.int ise), .val (.int ix), .val (.int (ise &&& (3 : Int32))), .val (.double (Jvm.FP.ddiv (Jvm.FP.i2d ix) (4616189618054758400 : UInt64))), .second, .val (.ref k4), .unset] [(.int (0 : Int32))]))
            refine Go.by (fun t k => XS.istore X35.here hx rfl (hb hby at_120) rfl (l' := #[.val (.int ise), .val (.int ix), .val (.int (ise &&& (3 : Int32))), .val (.double (Jvm.FP.ddiv (Jvm.FP.i2d ix) (4616189618054758400 : UInt64))), .second, .val (.ref k4), .val (.int (0 : Int32))]) rfl k) ?_
            show Go p e below _ (T35.setTop (mkF m 122 #[.val (.int ise), .val (.int ix), .val (.int (ise &&& (3 : Int32))), .val (.double (Jvm.FP.ddiv (Jvm.FP.i2d ix) (4616189618054758400 : UInt64))), .second, .val (.ref k4), .val (.int (0 : Int32))] []))
            refine Go.by (fun t k => XS.aload X35.here hx rfl (hb hby at_122) rfl rfl k) ?_
            show Go p e below _ (T35.setTop (mkF m 124 #[.val (.int ise), .val (.int ix), .val (.int (ise &&& (3 : Int32))), .val (.double (Jvm.FP.ddiv (Jvm.FP.i2d ix) (4616189618054758400 : UInt64))), .second, .val (.ref k4), .val (.int (0 : Int32))] [(.ref k4)]))
            refine Go.by (fun t k => XS.dloadN X35.here hx rfl (hb hby at_124) rfl k) ?_
            show Go p e below _ (T35.setTop (mkF m 125 #[.val (.int ise), .val (.int ix), .val (.int (ise &&& (3 : Int32))), .val (.double (Jvm.FP.ddiv (Jvm.FP.i2d ix) (4616189618054758400 : UInt64))), .second, .val (.ref k4), .val (.int (0 : Int32))] [(.double (Jvm.FP.ddiv (Jvm.FP.i2d ix) (4616189618054758400 : UInt64))), (.ref k4)]))
            have F41 : Exa Z h0 k4 "com/example/corpus_search/corpussearch/scoring/Parameter" := P16.ext O0.2
            obtain ⟨cq40, kq40, q40a, q40b, q40c⟩ := isOf hZ e35 F41
            obtain ⟨_, _, ⟨T40, L40, k40, n40⟩, -, X40, ⟨Lc40, hQ40, l40, y40, z40⟩, st40⟩ := X35.virtualBack hx (y := (⟨"com/example/corpus_search/corpussearch/scoring/Parameter", "allows", "(D)Z"⟩ : MethodName)) (z := (⟨"com/example/corpus_search/corpussearch/scoring/Parameter", "allows", "(D)Z"⟩ : MethodName)) hown (mvT hZ (hw _ (List.mem_of_getElem? (i := 4) rfl))) (mvT hZ (hw _ (List.mem_of_getElem? (i := 5) rfl))) (notFace_of_selects (args := #[]) (mvT hZ (hw _ (List.mem_of_getElem? (i := 7) rfl)))) (mvT hZ (hw _ (List.mem_of_getElem? (i := 7) rfl))) (mvT hZ (hw _ (List.mem_of_getElem? (i := 6) rfl))) (by decide) (backOf (W := 0) (al0_1 l Z a0 hw [] k4 (Jvm.FP.ddiv (Jvm.FP.i2d ix) (4616189618054758400 : UInt64)) h0 n0 O0 P16 P17 P18 P19) hZ (hw _ (List.mem_of_getElem? (i := 8) rfl)) (hw _ (List.mem_of_getElem? (i := 2) rfl)) (by decide) (by decide)) q40a q40c (g := (mkF m 125 #[.val (.int ise), .val (.int ix), .val (.int (ise &&& (3 : Int32))), .val (.double (Jvm.FP.ddiv (Jvm.FP.i2d ix) (4616189618054758400 : UInt64))), .second, .val (.ref k4), .val (.int (0 : Int32))] [(.double (Jvm.FP.ddiv (Jvm.FP.i2d ix) (4616189618054758400 : UInt64))), (.ref k4)])) rfl (by rw [hml]; rfl) (Steps.refl _) (argsL := [(.double (Jvm.FP.ddiv (Jvm.FP.i2d ix) (4616189618054758400 : UInt64)))]) (rest := []) (lenOf pd_0 rfl) rfl (by show 2 * 0 + _ ≤ _; exact Nat.le_of_eq rfl) (hb hby at_125) (fun _ _ => ⟨rfl, e35, (by decide : 0 + 0 ≤ _), (by decide : 0 + 0 ≤ _)⟩)
            dsimp only [Pt.U, Pt.locs, Pt.cells, Pt.slots] at X40 l40 y40 z40 st40 hQ40
            subst l40 y40 z40
            obtain ⟨rfl, N40q, e40⟩ := hQ40
            have N40 := Fr.app N0 N40q
            refine Go.tr st40 ?_
            show Go p e below _ (T40.setTop (mkF m 128 #[.val (.int ise), .val (.int ix), .val (.int (ise &&& (3 : Int32))), .val (.double (Jvm.FP.ddiv (Jvm.FP.i2d ix) (4616189618054758400 : UInt64))), .second, .val (.ref k4), .val (.int (0 : Int32))] [(.int (own_al0 (Jvm.FP.ddiv (Jvm.FP.i2d ix) (4616189618054758400 : UInt64)) (Jvm.FP.i2d (0 : Int32)) (Jvm.FP.i2d (1 : Int32))))]))
            refine Go.by (fun t k => XS.iload X40.here hx rfl (hb hby at_128) rfl k) ?_
            show Go p e below _ (T40.setTop (mkF m 130 #[.val (.int ise), .val (.int ix), .val (.int (ise &&& (3 : Int32))), .val (.double (Jvm.FP.ddiv (Jvm.FP.i2d ix) (4616189618054758400 : UInt64))), .second, .val (.ref k4), .val (.int (0 : Int32))] [(.int (0 : Int32)), (.int (own_al0 (Jvm.FP.ddiv (Jvm.FP.i2d ix) (4616189618054758400 : UInt64)) (Jvm.FP.i2d (0 : Int32)) (Jvm.FP.i2d (1 : Int32))))]))
            refine Go.by (fun t k => XS.icmpNo X40.here hx rfl (hb hby at_130) rfl (teq (by have z0 : (0 : Int32).toInt = 0 := rfl; have z4 : (4 : Int32).toInt = 4 := rfl; have z4000 : (4000 : Int32).toInt = 4000 := rfl; have q3 := hc36; rw [Int32.lt_iff_toInt_lt] at q3; have q4 := hc37; rw [Int32.lt_iff_toInt_lt] at q4; rw [own_r0 _ _ _ own_q1]; first | (rw [if_neg (by omega), if_neg (by omega)]; done) | (rw [if_pos (by omega)]; done) | (rw [if_neg (by omega), if_pos (by omega)]; done) | (rw [if_pos (by omega), if_pos (by omega)]; done) | (rw [if_pos (by omega), if_neg (by omega)]; done) | (rw [if_neg (by omega)]; done))).2 k) ?_
            show Go p e below _ (T40.setTop (mkF m 133 #[.val (.int ise), .val (.int ix), .val (.int (ise &&& (3 : Int32))), .val (.double (Jvm.FP.ddiv (Jvm.FP.i2d ix) (4616189618054758400 : UInt64))), .second, .val (.ref k4), .val (.int (0 : Int32))] []))
            refine Go.by (fun t k => XS.iconst X40.here hx rfl (hb hby at_133) k) ?_
            show Go p e below _ (T40.setTop (mkF m 134 #[.val (.int ise), .val (.int ix), .val (.int (ise &&& (3 : Int32))), .val (.double (Jvm.FP.ddiv (Jvm.FP.i2d ix) (4616189618054758400 : UInt64))), .second, .val (.ref k4), .val (.int (0 : Int32))] [(.int (1 : Int32))]))
            refine Go.by (fun t k => XS.goto X40.here hx rfl (pc0 := 134) (pc' := 138) rfl (hb hby at_134) (by decide) (by decide) k) ?_
            show Go p e below _ (T40.setTop (mkF m 138 #[.val (.int ise), .val (.int ix), .val (.int (ise &&& (3 : Int32))), .val (.double (Jvm.FP.ddiv (Jvm.FP.i2d ix) (4616189618054758400 : UInt64))), .second, .val (.ref k4), .val (.int (0 : Int32))] [(.int (1 : Int32))]))
            have hq : Q_law Z ise ix k1 k2 k3 k4 h0 n0 (some (.int (nar .boolean (1 : Int32)))) h0 _ := ⟨rfl, N40, rfl⟩
            exact Go.retN X40 hx (t := .boolean) Bd.returns (by simp) hlk (hb hby at_138) (by decide) (by decide) (by rw [e40]; exact hq)
        · skip
          refine Go.by (fun t k => XS.ifYes X35.here hx rfl (pc0 := 107) (pc' := 119) rfl (hb hby at_107) rfl ((if0 _ _).trans (flt hc36).2.2.2) (by decide) (by decide) k) ?_
          show Go p e below _ (T35.setTop (mkF m 119 #[.val (.int ise), .val (.int ix), .val (.int (ise &&& (3 : Int32))), .val (.double (Jvm.FP.ddiv (Jvm.FP.i2d ix) (4616189618054758400 : UInt64))), .second, .val (.ref k4), .unset] []))
          refine Go.by (fun t k => XS.iconst X35.here hx rfl (hb hby at_119) k) ?_
          show Go p e below _ (T35.setTop (mkF m 120 #[.val (.int ise), .val (.int ix), .val (.int (ise &&& (3 : Int32))), .val (.double (Jvm.FP.ddiv (Jvm.FP.i2d ix) (4616189618054758400 : UInt64))), .second, .val (.ref k4), .unset] [(.int (0 : Int32))]))
          refine Go.by (fun t k => XS.istore X35.here hx rfl (hb hby at_120) rfl (l' := #[.val (.int ise), .val (.int ix), .val (.int (ise &&& (3 : Int32))), .val (.double (Jvm.FP.ddiv (Jvm.FP.i2d ix) (4616189618054758400 : UInt64))), .second, .val (.ref k4), .val (.int (0 : Int32))]) rfl k) ?_
          show Go p e below _ (T35.setTop (mkF m 122 #[.val (.int ise), .val (.int ix), .val (.int (ise &&& (3 : Int32))), .val (.double (Jvm.FP.ddiv (Jvm.FP.i2d ix) (4616189618054758400 : UInt64))), .second, .val (.ref k4), .val (.int (0 : Int32))] []))
          refine Go.by (fun t k => XS.aload X35.here hx rfl (hb hby at_122) rfl rfl k) ?_
          show Go p e below _ (T35.setTop (mkF m 124 #[.val (.int ise), .val (.int ix), .val (.int (ise &&& (3 : Int32))), .val (.double (Jvm.FP.ddiv (Jvm.FP.i2d ix) (4616189618054758400 : UInt64))), .second, .val (.ref k4), .val (.int (0 : Int32))] [(.ref k4)]))
          refine Go.by (fun t k => XS.dloadN X35.here hx rfl (hb hby at_124) rfl k) ?_
          show Go p e below _ (T35.setTop (mkF m 125 #[.val (.int ise), .val (.int ix), .val (.int (ise &&& (3 : Int32))), .val (.double (Jvm.FP.ddiv (Jvm.FP.i2d ix) (4616189618054758400 : UInt64))), .second, .val (.ref k4), .val (.int (0 : Int32))] [(.double (Jvm.FP.ddiv (Jvm.FP.i2d ix) (4616189618054758400 : UInt64))), (.ref k4)]))
          have F43 : Exa Z h0 k4 "com/example/corpus_search/corpussearch/scoring/Parameter" := P16.ext O0.2
          obtain ⟨cq42, kq42, q42a, q42b, q42c⟩ := isOf hZ e35 F43
          obtain ⟨_, _, ⟨T42, L42, k42, n42⟩, -, X42, ⟨Lc42, hQ42, l42, y42, z42⟩, st42⟩ := X35.virtualBack hx (y := (⟨"com/example/corpus_search/corpussearch/scoring/Parameter", "allows", "(D)Z"⟩ : MethodName)) (z := (⟨"com/example/corpus_search/corpussearch/scoring/Parameter", "allows", "(D)Z"⟩ : MethodName)) hown (mvT hZ (hw _ (List.mem_of_getElem? (i := 4) rfl))) (mvT hZ (hw _ (List.mem_of_getElem? (i := 5) rfl))) (notFace_of_selects (args := #[]) (mvT hZ (hw _ (List.mem_of_getElem? (i := 7) rfl)))) (mvT hZ (hw _ (List.mem_of_getElem? (i := 7) rfl))) (mvT hZ (hw _ (List.mem_of_getElem? (i := 6) rfl))) (by decide) (backOf (W := 0) (al0_1 l Z a0 hw [] k4 (Jvm.FP.ddiv (Jvm.FP.i2d ix) (4616189618054758400 : UInt64)) h0 n0 O0 P16 P17 P18 P19) hZ (hw _ (List.mem_of_getElem? (i := 8) rfl)) (hw _ (List.mem_of_getElem? (i := 2) rfl)) (by decide) (by decide)) q42a q42c (g := (mkF m 125 #[.val (.int ise), .val (.int ix), .val (.int (ise &&& (3 : Int32))), .val (.double (Jvm.FP.ddiv (Jvm.FP.i2d ix) (4616189618054758400 : UInt64))), .second, .val (.ref k4), .val (.int (0 : Int32))] [(.double (Jvm.FP.ddiv (Jvm.FP.i2d ix) (4616189618054758400 : UInt64))), (.ref k4)])) rfl (by rw [hml]; rfl) (Steps.refl _) (argsL := [(.double (Jvm.FP.ddiv (Jvm.FP.i2d ix) (4616189618054758400 : UInt64)))]) (rest := []) (lenOf pd_0 rfl) rfl (by show 2 * 0 + _ ≤ _; exact Nat.le_of_eq rfl) (hb hby at_125) (fun _ _ => ⟨rfl, e35, (by decide : 0 + 0 ≤ _), (by decide : 0 + 0 ≤ _)⟩)
          dsimp only [Pt.U, Pt.locs, Pt.cells, Pt.slots] at X42 l42 y42 z42 st42 hQ42
          subst l42 y42 z42
          obtain ⟨rfl, N42q, e42⟩ := hQ42
          have N42 := Fr.app N0 N42q
          refine Go.tr st42 ?_
          show Go p e below _ (T42.setTop (mkF m 128 #[.val (.int ise), .val (.int ix), .val (.int (ise &&& (3 : Int32))), .val (.double (Jvm.FP.ddiv (Jvm.FP.i2d ix) (4616189618054758400 : UInt64))), .second, .val (.ref k4), .val (.int (0 : Int32))] [(.int (own_al0 (Jvm.FP.ddiv (Jvm.FP.i2d ix) (4616189618054758400 : UInt64)) (Jvm.FP.i2d (0 : Int32)) (Jvm.FP.i2d (1 : Int32))))]))
          refine Go.by (fun t k => XS.iload X42.here hx rfl (hb hby at_128) rfl k) ?_
          show Go p e below _ (T42.setTop (mkF m 130 #[.val (.int ise), .val (.int ix), .val (.int (ise &&& (3 : Int32))), .val (.double (Jvm.FP.ddiv (Jvm.FP.i2d ix) (4616189618054758400 : UInt64))), .second, .val (.ref k4), .val (.int (0 : Int32))] [(.int (0 : Int32)), (.int (own_al0 (Jvm.FP.ddiv (Jvm.FP.i2d ix) (4616189618054758400 : UInt64)) (Jvm.FP.i2d (0 : Int32)) (Jvm.FP.i2d (1 : Int32))))]))
          refine Go.by (fun t k => XS.icmpNo X42.here hx rfl (hb hby at_130) rfl (teq (by have z0 : (0 : Int32).toInt = 0 := rfl; have z4 : (4 : Int32).toInt = 4 := rfl; have z4000 : (4000 : Int32).toInt = 4000 := rfl; have q3 := hc36; rw [Int32.lt_iff_toInt_lt] at q3; rw [own_r0 _ _ _ own_q1]; first | (rw [if_neg (by omega), if_neg (by omega)]; done) | (rw [if_pos (by omega)]; done) | (rw [if_neg (by omega), if_pos (by omega)]; done) | (rw [if_pos (by omega), if_pos (by omega)]; done) | (rw [if_pos (by omega), if_neg (by omega)]; done) | (rw [if_neg (by omega)]; done))).2 k) ?_
          show Go p e below _ (T42.setTop (mkF m 133 #[.val (.int ise), .val (.int ix), .val (.int (ise &&& (3 : Int32))), .val (.double (Jvm.FP.ddiv (Jvm.FP.i2d ix) (4616189618054758400 : UInt64))), .second, .val (.ref k4), .val (.int (0 : Int32))] []))
          refine Go.by (fun t k => XS.iconst X42.here hx rfl (hb hby at_133) k) ?_
          show Go p e below _ (T42.setTop (mkF m 134 #[.val (.int ise), .val (.int ix), .val (.int (ise &&& (3 : Int32))), .val (.double (Jvm.FP.ddiv (Jvm.FP.i2d ix) (4616189618054758400 : UInt64))), .second, .val (.ref k4), .val (.int (0 : Int32))] [(.int (1 : Int32))]))
          refine Go.by (fun t k => XS.goto X42.here hx rfl (pc0 := 134) (pc' := 138) rfl (hb hby at_134) (by decide) (by decide) k) ?_
          show Go p e below _ (T42.setTop (mkF m 138 #[.val (.int ise), .val (.int ix), .val (.int (ise &&& (3 : Int32))), .val (.double (Jvm.FP.ddiv (Jvm.FP.i2d ix) (4616189618054758400 : UInt64))), .second, .val (.ref k4), .val (.int (0 : Int32))] [(.int (1 : Int32))]))
          have hq : Q_law Z ise ix k1 k2 k3 k4 h0 n0 (some (.int (nar .boolean (1 : Int32)))) h0 _ := ⟨rfl, N42, rfl⟩
          exact Go.retN X42 hx (t := .boolean) Bd.returns (by simp) hlk (hb hby at_138) (by decide) (by decide) (by rw [e42]; exact hq)
set_option maxRecDepth 65536 in
set_option maxHeartbeats 40000000 in
theorem comes_1 {Post : Tables → Env → Array Value → State → Outcome → State → Prop} (hpost : ∀ tb e args s v u, (limb_1_1.after args s (.returned v) u = true ∧ limb_1_2.after args s (.returned v) u = true ∧ True) → FrameEnd s (.returned v) u (Jvm.fieldLocs frame_1_writes args s ++ Jvm.arrayLocs frame_1_arrays args s ++ Jvm.staticLocs frame_1_statics s) 0 0 → Post tb e args s (.returned v) u) :
    ArmFor flags0 classFile x code maxLocals ret World_1 tables_1 room_1 Calls_1 rest_1 Pre_1 Post := by
  intro l hfl _ _ p e ha hc hk s m args below hf hA hF happ hP
  obtain ⟨hcalls, hrest, hpre⟩ := hP
  obtain ⟨-, -, -, hnamed, -, -, -, hat⟩ := (Spec.applies_iff hf).mp happ
  obtain ⟨hg, hn⟩ := and_e (Cond.before_iff.mp (show (Jvm.Cond.and given_1 narrow_1).before args s = true from hpre))
  obtain ⟨hcnt, hr1⟩ := and_e hg
  obtain ⟨hv0, hv1⟩ := and_e hr1
  obtain ⟨w0, w1, rfl⟩ : ∃ w0 w1 : Value, args = #[w0, w1] := by
    have hs : args.size = 2 := by simpa [Cond.value, given_1] using hcnt
    obtain ⟨L⟩ := args
    match L, hs with
    | [w0, w1], _ => exact ⟨w0, w1, rfl⟩
  have hw := fun d (hd : d ∈ tables_1) => atoms_spec (ws := Jvm.Cond.code x code maxLocals ret :: tables_1) hat d (List.mem_cons_of_mem _ hd)
  have hfit : Fit s := fun {y c} hc i hi => by
    obtain ⟨ha, rfl⟩ := Array.getElem?_eq_some_iff.mp hc
    have q := List.all_eq_true.mp ((Array.all_eq_true_iff_forall_mem.mp hF) _ (Array.getElem_mem ha)) i (List.mem_range.mpr hi)
    simpa [Array.getElem?_eq_getElem hi] using q
  obtain ⟨i0, ei0⟩ := is_v hv0
  obtain rfl : w0 = (.int i0) := Option.some.inj ei0
  obtain ⟨i1, ei1⟩ := is_v hv1
  obtain rfl : w1 = (.int i1) := Option.some.inj ei1
  obtain ⟨q0, r0⟩ := and_e hn
  obtain ⟨q1, r1⟩ := and_e r0
  obtain ⟨q2, r2⟩ := and_e r1
  obtain ⟨q3, r3⟩ := and_e r2
  obtain ⟨q4, r4⟩ := and_e r3
  obtain ⟨q5, r5⟩ := and_e r4
  obtain ⟨q6, r6⟩ := and_e r5
  obtain ⟨q7, r7⟩ := and_e r6
  obtain ⟨q8, r8⟩ := and_e r7
  obtain ⟨q9, r9⟩ := and_e r8
  obtain ⟨q10, r10⟩ := and_e r9
  obtain ⟨q11, r11⟩ := and_e r10
  obtain ⟨q12, r12⟩ := and_e r11
  obtain ⟨q13, r13⟩ := and_e r12
  obtain ⟨q14, r14⟩ := and_e r13
  obtain ⟨k1, hs_k1⟩ := exa_v q0
  have S_k1 := Sta.start hs_k1 (Or.inr ⟨(hw _ (List.mem_of_getElem? (i := 2) rfl)), (hw _ (List.mem_of_getElem? (i := 3) rfl))⟩)
  have E_k1 := Exa.start hs_k1 q0
  have F_boundsAllowed_k1 := Fld.start ((fld_at hs_k1).symm.trans (own_eq_int q1))
  have F_low_k1 := Fld.start ((fld_at hs_k1).symm.trans (own_eq_int q2))
  have F_high_k1 := Fld.start ((fld_at hs_k1).symm.trans (own_eq_int q3))
  obtain ⟨k3, hs_k3⟩ := exa_v q4
  have S_k3 := Sta.start hs_k3 (Or.inr ⟨(hw _ (List.mem_of_getElem? (i := 2) rfl)), (hw _ (List.mem_of_getElem? (i := 16) rfl))⟩)
  have E_k3 := Exa.start hs_k3 q4
  have F_boundsAllowed_k3 := Fld.start ((fld_at hs_k3).symm.trans (own_eq_int q5))
  have F_low_k3 := Fld.start ((fld_at hs_k3).symm.trans (own_eq_int q6))
  have F_high_k3 := Fld.start ((fld_at hs_k3).symm.trans (own_eq_int q7))
  obtain ⟨k2, hs_k2⟩ := exa_v q8
  have S_k2 := Sta.start hs_k2 (Or.inr ⟨(hw _ (List.mem_of_getElem? (i := 2) rfl)), (hw _ (List.mem_of_getElem? (i := 18) rfl))⟩)
  have E_k2 := Exa.start hs_k2 q8
  have F_boundsAllowed_k2 := Fld.start ((fld_at hs_k2).symm.trans (own_eq_int q9))
  have F_low_k2 := Fld.start ((fld_at hs_k2).symm.trans (own_eq_int q10))
  have F_high_k2 := Fld.start ((fld_at hs_k2).symm.trans (own_eq_int q11))
  obtain ⟨k4, hs_k4⟩ := exa_v q12
  have S_k4 := Sta.start hs_k4 (Or.inr ⟨(hw _ (List.mem_of_getElem? (i := 2) rfl)), (hw _ (List.mem_of_getElem? (i := 20) rfl))⟩)
  have E_k4 := Exa.start hs_k4 q12
  have F_boundsAllowed_k4 := Fld.start ((fld_at hs_k4).symm.trans (own_eq_int q13))
  have F_low_k4 := Fld.start ((fld_at hs_k4).symm.trans (own_eq_int q14))
  have F_high_k4 := Fld.start ((fld_at hs_k4).symm.trans (own_eq_int r14))
  obtain ⟨n, o, h1, h2, h3, _, L, rfl, ⟨rfl, N, -⟩, hq⟩ := law l s _ hw tables_1 i0 i1 k1 k2 k3 k4 s.heap s.heap.size (Old.start s) S_k1 S_k2 S_k3 S_k4 E_k1 F_boundsAllowed_k1 F_low_k1 F_high_k1 E_k2 F_boundsAllowed_k2 F_low_k2 F_high_k2 E_k3 F_boundsAllowed_k3 F_low_k3 F_high_k3 E_k4 F_boundsAllowed_k4 F_low_k4 F_high_k4 p e ha hc hk s m _ below hf ((Spec.applies_iff_loose hf).mp happ).1 ⟨rfl, State.Warmed39.refl s, rfl⟩ trivial
  refine ⟨n, _, h1, h2, h3, hpost _ _ _ _ _ _ ⟨Cond.after_iff.mpr rfl, Cond.after_iff.mpr (eq_i res_at (Term.int_eval (1)) rfl), trivial⟩ ⟨hq.1, hq.2.1, (hq.2.2.sift fun y hy => Or.inr (N y hy)).mono (by decide) (by decide)⟩⟩
theorem main_1_1 : Claimed_1_1 := comes_1 fun _ _ _ _ _ _ h hF => ⟨h.1, hF⟩
theorem main_1_2 : Claimed_1_2 := comes_1 fun _ _ _ _ _ _ h hF => ⟨h.2.1, hF⟩
end Jvm.Pilot.@@N@@
namespace Jvm.Pilot.@@N@@
open Jvm Jvm.ClassFile Sem Op Lib Jvm.Free Jvm.Stand Jvm.Pilot.@@N@@.Jvm.D
/-! MADE BY PROGRAM (witnessworld.py) out of the Statement's table words and the real class files: 12 classes; the members and pool entries that the words name. The judged class is class 1, her method 1. -/
namespace start1
open Jvm.ClassFile
def u (s : String) : CpInfo := .utf8 (stringToUtf16 s)
/-- a pool by its gaps: so many unusable entries, then the entry; so many at the end -/
def gap : Nat → List CpInfo → List CpInfo
  | 0, r => r
  | n + 1, r => .unusable :: gap n r
def poolList (es : List (Nat × CpInfo)) (last : Nat) : List CpInfo := es.foldr (fun e r => gap e.1 (e.2 :: r)) (gap last [])
def pool (es : List (Nat × CpInfo)) (last : Nat) : Array CpInfo := ⟨poolList es last⟩
def fileOf (pool : Array CpInfo) (this : Nat) (attrs : Array Attribute := #[]) (ms : Array MethodInfo := #[]) (fl : Nat := 33) (sup : Nat := 0) (ifs : Array Nat := #[]) (fds : Array FieldInfo := #[]) : ClassFile where
  minorVersion := 0
  majorVersion := 65
  constantPool := pool
  accessFlags := fl
  thisClass := this
  superClass := sup
  interfaces := ifs
  fields := fds
  methods := ms
  attributes := attrs
def plain (name : String) (sup : Option ClassId) : Class where
  name := name
  kind := .ordinary
  loader := none
  accessFlags := 33
  super := sup
  interfaces := #[]
  cf := none
  fields := #[]
  methods := #[]
  instanceTypes := #[]
  staticTypes := #[]
  resolved := #[]
  callSites := []
  init := .initialized
  statics := none
  mirror := none

def pool0 : Array CpInfo := pool [(5, u "<init>"), (0, u "()V"), (1, .class_ 10), (1, u "java/lang/Object")] 113

def k0m0 : Method := { name := "<init>", desc := "()V", sig := { parameters := [], returnType := none }, accessFlags := 1, code := none }
/-- java/lang/Object -/
def k0 : Class := { plain "java/lang/Object" none with
  accessFlags := 33
  interfaces := #[]
  cf := some (fileOf pool0 8 #[] #[{ accessFlags := 1, nameIndex := 5, descriptorIndex := 6, attributes := #[] }] 33 0 #[] #[])
  fields := #[]
  methods := #[k0m0]
  instanceTypes := #[]
  staticTypes := #[]
  resolved := Array.replicate 124 none
  statics := none }

def pool1 : Array CpInfo := pool [(2, .class_ 4), (1, u "java/lang/Object"), (0, u "<init>"), (0, u "()V"), (0, .double 4616189618054758400), (1, .fieldref 10 11), (0, .class_ 12), (0, .nameAndType 13 14), (0, u "com/example/corpus_search/corpussearch/scoring/Parameter"), (0, u "K1"), (0, u "Lcom/example/corpus_search/corpussearch/scoring/Parameter;"), (0, .fieldref 10 16), (0, .nameAndType 17 14), (0, u "B"), (0, .fieldref 10 19), (0, .nameAndType 20 14), (0, u "DELTA"), (0, .fieldref 10 22), (0, .nameAndType 23 14), (0, u "LAMBDA"), (0, .methodref 10 25), (0, .nameAndType 26 27), (0, u "allows"), (0, u "(D)Z"), (0, .class_ 29), (0, u "com/example/corpus_search/corpussearch/scoring/ParameterAllowsPinLaw"), (2, u "law"), (0, u "(II)Z")] 3

def k1m0 : Method := { name := "<init>", desc := "()V", sig := { parameters := [], returnType := none }, accessFlags := 2, code := none }
def k1c1 : Code := { maxStack := 4, maxLocals := 7, code := code, exceptionTable := #[], attributes := #[] }
def k1m1 : Method := { name := "law", desc := "(II)Z", sig := { parameters := [.int, .int], returnType := some .boolean }, accessFlags := 9, code := some k1c1 }
/-- com/example/corpus_search/corpussearch/scoring/ParameterAllowsPinLaw -/
def k1 : Class := { plain "com/example/corpus_search/corpussearch/scoring/ParameterAllowsPinLaw" (some 0) with
  accessFlags := 49
  interfaces := #[]
  cf := some (fileOf pool1 28 #[] #[{ accessFlags := 2, nameIndex := 5, descriptorIndex := 6, attributes := #[] }, { accessFlags := 9, nameIndex := 32, descriptorIndex := 33, attributes := #[] }] 49 2 #[] #[])
  fields := #[]
  methods := #[k1m0, k1m1]
  instanceTypes := #[]
  staticTypes := #[]
  resolved := Array.replicate 37 none
  statics := none }

def pool2 : Array CpInfo := pool [(1, .class_ 2), (0, u "java/lang/constant/Constable"), (0, .class_ 4), (0, u "java/lang/Object")] 6

/-- java/lang/constant/Constable -/
def k2 : Class := { plain "java/lang/constant/Constable" (some 0) with
  accessFlags := 1537
  interfaces := #[]
  cf := some (fileOf pool2 1 #[] #[] 1537 3 #[] #[])
  fields := #[]
  methods := #[]
  instanceTypes := #[]
  staticTypes := #[]
  resolved := Array.replicate 11 none
  statics := none }

def pool3 : Array CpInfo := pool [(1, .class_ 2), (0, u "java/lang/Comparable"), (0, .class_ 4), (0, u "java/lang/Object")] 7

/-- java/lang/Comparable -/
def k3 : Class := { plain "java/lang/Comparable" (some 0) with
  accessFlags := 1537
  interfaces := #[]
  cf := some (fileOf pool3 1 #[] #[] 1537 3 #[] #[])
  fields := #[]
  methods := #[]
  instanceTypes := #[]
  staticTypes := #[]
  resolved := Array.replicate 12 none
  statics := none }

def pool4 : Array CpInfo := pool [(1, .class_ 2), (0, u "java/io/Serializable"), (0, .class_ 4), (0, u "java/lang/Object")] 2

/-- java/io/Serializable -/
def k4 : Class := { plain "java/io/Serializable" (some 0) with
  accessFlags := 1537
  interfaces := #[]
  cf := some (fileOf pool4 1 #[] #[] 1537 3 #[] #[])
  fields := #[]
  methods := #[]
  instanceTypes := #[]
  staticTypes := #[]
  resolved := Array.replicate 7 none
  statics := none }

def pool5 : Array CpInfo := pool [(2, .class_ 4), (1, u "java/lang/Enum"), (0, u "name"), (0, u "Ljava/lang/String;"), (2, u "ordinal"), (0, u "I"), (1, .class_ 14), (1, u "java/lang/Object"), (4, u "hash"), (86, .class_ 108), (1, u "java/lang/Enum$EnumDesc"), (2, .class_ 112), (0, u "java/lang/constant/Constable"), (0, .class_ 114), (0, u "java/lang/Comparable"), (0, .class_ 116), (0, u "java/io/Serializable")] 87

/-- java/lang/Enum -/
def k5 : Class := { plain "java/lang/Enum" (some 0) with
  accessFlags := 1057
  interfaces := #[2, 3, 4]
  cf := some (fileOf pool5 2 #[.nestMembers #[106]] #[] 1057 12 #[111, 113, 115] #[{ accessFlags := 18, nameIndex := 5, descriptorIndex := 6, attributes := #[] }, { accessFlags := 18, nameIndex := 9, descriptorIndex := 10, attributes := #[] }, { accessFlags := 2, nameIndex := 19, descriptorIndex := 10, attributes := #[] }])
  fields := #[{ name := "name", type := (.object "java/lang/String"), accessFlags := 18, slot := 0, constantValue := 0 }, { name := "ordinal", type := .int, accessFlags := 18, slot := 1, constantValue := 0 }, { name := "hash", type := .int, accessFlags := 2, slot := 2, constantValue := 0 }]
  methods := #[]
  instanceTypes := #[(.object "java/lang/String"), .int, .int]
  staticTypes := #[]
  resolved := Array.replicate 204 none
  statics := none }

def pool6 : Array CpInfo := pool [(1, .class_ 2), (0, u "com/example/corpus_search/corpussearch/scoring/Parameter"), (2, u "K1"), (0, u "Lcom/example/corpus_search/corpussearch/scoring/Parameter;"), (2, u "B"), (2, u "DELTA"), (2, u "LAMBDA"), (2, u "$VALUES"), (0, u "[Lcom/example/corpus_search/corpussearch/scoring/Parameter;"), (6, .class_ 28), (1, u "java/lang/Enum"), (8, u "key"), (0, u "Ljava/lang/String;"), (0, .fieldref 1 40), (0, .nameAndType 41 42), (0, u "low"), (0, u "I"), (0, .fieldref 1 44), (0, .nameAndType 45 42), (0, u "high"), (0, .fieldref 1 47), (0, .nameAndType 48 49), (0, u "boundsAllowed"), (0, u "Z"), (7, u "allows"), (0, u "(D)Z")] 67

def k6c0 : Code := { maxStack := 4, maxLocals := 3, code := prog_61_method_6_code, exceptionTable := #[], attributes := #[] }
def k6m0 : Method := { name := "allows", desc := "(D)Z", sig := { parameters := [.double], returnType := some .boolean }, accessFlags := 1, code := some k6c0 }
/-- com/example/corpus_search/corpussearch/scoring/Parameter -/
def k6 : Class := { plain "com/example/corpus_search/corpussearch/scoring/Parameter" (some 5) with
  accessFlags := 16433
  interfaces := #[]
  cf := some (fileOf pool6 1 #[] #[{ accessFlags := 1, nameIndex := 57, descriptorIndex := 58, attributes := #[] }] 16433 26 #[] #[{ accessFlags := 16409, nameIndex := 5, descriptorIndex := 6, attributes := #[] }, { accessFlags := 16409, nameIndex := 9, descriptorIndex := 6, attributes := #[] }, { accessFlags := 16409, nameIndex := 12, descriptorIndex := 6, attributes := #[] }, { accessFlags := 16409, nameIndex := 15, descriptorIndex := 6, attributes := #[] }, { accessFlags := 18, nameIndex := 37, descriptorIndex := 38, attributes := #[] }, { accessFlags := 18, nameIndex := 41, descriptorIndex := 42, attributes := #[] }, { accessFlags := 18, nameIndex := 45, descriptorIndex := 42, attributes := #[] }, { accessFlags := 18, nameIndex := 48, descriptorIndex := 49, attributes := #[] }, { accessFlags := 4122, nameIndex := 18, descriptorIndex := 19, attributes := #[] }])
  fields := #[{ name := "K1", type := (.object "com/example/corpus_search/corpussearch/scoring/Parameter"), accessFlags := 16409, slot := 0, constantValue := 0 }, { name := "B", type := (.object "com/example/corpus_search/corpussearch/scoring/Parameter"), accessFlags := 16409, slot := 1, constantValue := 0 }, { name := "DELTA", type := (.object "com/example/corpus_search/corpussearch/scoring/Parameter"), accessFlags := 16409, slot := 2, constantValue := 0 }, { name := "LAMBDA", type := (.object "com/example/corpus_search/corpussearch/scoring/Parameter"), accessFlags := 16409, slot := 3, constantValue := 0 }, { name := "key", type := (.object "java/lang/String"), accessFlags := 18, slot := 3, constantValue := 0 }, { name := "low", type := .int, accessFlags := 18, slot := 4, constantValue := 0 }, { name := "high", type := .int, accessFlags := 18, slot := 5, constantValue := 0 }, { name := "boundsAllowed", type := .boolean, accessFlags := 18, slot := 6, constantValue := 0 }, { name := "$VALUES", type := (.array (.object "com/example/corpus_search/corpussearch/scoring/Parameter")), accessFlags := 4122, slot := 4, constantValue := 0 }]
  methods := #[k6m0]
  instanceTypes := #[(.object "java/lang/String"), .int, .int, (.object "java/lang/String"), .int, .int, .boolean]
  staticTypes := #[(.object "com/example/corpus_search/corpussearch/scoring/Parameter"), (.object "com/example/corpus_search/corpussearch/scoring/Parameter"), (.object "com/example/corpus_search/corpussearch/scoring/Parameter"), (.object "com/example/corpus_search/corpussearch/scoring/Parameter"), (.array (.object "com/example/corpus_search/corpussearch/scoring/Parameter"))]
  resolved := Array.replicate 126 none
  statics := some 0 }

def pool7 : Array CpInfo := pool [(1, u "java/lang/Cloneable"), (0, .class_ 1), (0, u "java/lang/Object"), (0, .class_ 3)] 3

/-- java/lang/Cloneable -/
def k7 : Class := { plain "java/lang/Cloneable" (some 0) with
  accessFlags := 1537
  interfaces := #[]
  cf := some (fileOf pool7 2 #[] #[] 1537 4 #[] #[])
  fields := #[]
  methods := #[]
  instanceTypes := #[]
  staticTypes := #[]
  resolved := Array.replicate 8 none
  statics := none }

/-- the primitive byte -/
def k8 : Class := { plain "byte" none with kind := .primitive 'B', accessFlags := 0x411 }
/-- [B -/
def k9 : Class := { plain "[B" (some 0) with kind := .array 8 .byte, interfaces := #[7, 4], accessFlags := 1041 }

/-- the primitive int -/
def k10 : Class := { plain "int" none with kind := .primitive 'I', accessFlags := 0x411 }
/-- [I -/
def k11 : Class := { plain "[I" (some 0) with kind := .array 10 .int, interfaces := #[7, 4], accessFlags := 1041 }

def heap : Heap := #[{ cls := 6, slots := #[.ref 1, .ref 3, .ref 2, .ref 4, .null], vm := .statics 6 },
  { cls := 6, slots := #[.null, .int 0, .int 0, .null, .int 0, .int 1000, .int 1], vm := .none },
  { cls := 6, slots := #[.null, .int 1, .int 0, .null, .int 0, .int 1000, .int 1], vm := .none },
  { cls := 6, slots := #[.null, .int 2, .int 0, .null, .int 0, .int 1, .int 1], vm := .none },
  { cls := 6, slots := #[.null, .int 3, .int 0, .null, .int 0, .int 1, .int 0], vm := .none }]
def classes : Array Class := #[k0, k1, k2, k3, k4, k5, k6, k7, k8, k9, k10, k11]
def interned : List (Array UInt16 × Addr) := []
def slotsUsed : Nat := 33
def theMethod : MethodId := ⟨1, 1⟩
def args0 : Array Value := #[.int 5, .int 6]
def aboutOver (below : List Frame) : State where
  vm := { classes := classes, interned := interned.toArray }
  heap := heap
  slotsUsed := slotsUsed
  threads := #[{ frames := .invoking theMethod args0 :: below }]
def below0 : List Frame := [.native { method := ⟨0, 0⟩, args := #[] }]
def about1 : State := aboutOver below0
def p0 : Program := .bare "" "" ""
def e0 : Env := launch0.env 0 0 0
theorem w_frames : about1.frames = Frame.invoking theMethod args0 :: below0 := rfl
set_option maxRecDepth 65536 in
theorem w_args : argsFit about1.vm theMethod args0 = true := by decide +kernel
set_option maxRecDepth 65536 in
theorem w_heap : heapFits about1 = true := by decide +kernel
set_option maxRecDepth 65536 in
theorem w_runnable : about1.curStatus? = some .runnable := by decide +kernel
set_option maxRecDepth 65536 in
theorem w_alone : about1.alone = true := by decide +kernel
set_option maxRecDepth 65536 in
theorem w_named : about1.methodNamed? x = some theMethod := by decide +kernel
set_option maxRecDepth 65536 in
theorem w_hears : about1.hears theMethod below0 = true := by decide +kernel
set_option maxRecDepth 65536 in
theorem w_ripe : about1.ripe theMethod args0 below0 = true := by decide +kernel
theorem w_running : about1.status = .running := rfl
set_option maxRecDepth 65536 in
theorem w_room : about1.hasRoom e0.platform room_1 = true :=
  launch0.hasRoom_least _ room_1 (by decide +kernel) (by decide +kernel) (by decide +kernel) (by decide +kernel) (by decide +kernel) (by decide +kernel)
theorem allAtoms_all (ts : List Jvm.Cond) (a : Array Jvm.Value) (st : Jvm.State) : (allAtoms ts).before a st = ts.all (fun c => c.before a st) := by
  induction ts with
  | nil => rfl
  | cons c t ih =>
    show (Jvm.Cond.and c (allAtoms t)).before a st = _
    rw [Jvm.Cond.before_and, ih, List.all_cons]
def words1 : List Jvm.Cond := Jvm.Cond.code x code maxLocals ret :: tables_1
/-- a 'code' word, met by the world's own term for the bytes: nothing is compared byte by byte -/
theorem code_word {y : MethodName} {bytes : ByteArray} {mx : Nat} {rt : Option FieldType} {a : Array Value} {s : State} {m : MethodId} {meth : Method} {c : Code} (h1 : s.methodNamed? y = some m) (h2 : s.vm.method? m = some meth) (h3 : meth.code = some c) (h4 : c.code = bytes)
    (h5 : (c.maxLocals == mx && c.exceptionTable.isEmpty && decide (c.maxStack ≤ mostOperands) && decide (meth.sig.returnType = rt) && !meth.locks && decide (parseMethodDescriptor y.desc = some meth.sig)) = true) : (Jvm.Cond.code y bytes mx rt).before a s = true := by
  simp only [Bool.and_eq_true, beq_iff_eq, Bool.not_eq_true', decide_eq_true_eq] at h5
  obtain ⟨⟨⟨⟨⟨g1, g2⟩, g3⟩, g4⟩, g5⟩, g6⟩ := h5
  simp [Cond.before, Cond.holds, Cond.value, h1, h2, h3, h4, g1, g2, g3, g4, g5, g6]
def isCode : Jvm.Cond → Bool
  | .code _ _ _ _ => true
  | _ => false
theorem all_split {L : List Jvm.Cond} {P : Jvm.Cond → Bool} (h1 : L.all (fun c => isCode c || P c) = true) (h2 : ∀ c ∈ L.filter isCode, P c = true) : L.all P = true := by
  refine List.all_eq_true.mpr fun c hc => ?_
  have h := List.all_eq_true.mp h1 c hc
  rcases Bool.eq_false_or_eq_true (isCode c) with hi | hi
  · exact h2 c (List.mem_filter.mpr ⟨hc, hi⟩)
  · simpa [hi] using h
set_option maxRecDepth 65536 in
theorem w_c0 : (Jvm.Cond.code x code maxLocals ret).before args0 about1 = true := code_word (m := ⟨1, 1⟩) (meth := k1m1) (c := k1c1) (by decide +kernel) rfl rfl rfl (by decide +kernel)
set_option maxRecDepth 65536 in
theorem w_c1 : (Jvm.Cond.code ({ cls := "com/example/corpus_search/corpussearch/scoring/Parameter", name := "allows", desc := "(D)Z" } : Jvm.MethodName) prog_61_method_6_code (3 : Nat) (Option.some Jvm.ClassFile.FieldType.boolean)).before args0 about1 = true := code_word (m := ⟨6, 0⟩) (meth := k6m0) (c := k6c0) (by decide +kernel) rfl rfl rfl (by decide +kernel)
def codes1 : List Jvm.Cond := [Jvm.Cond.code x code maxLocals ret, Jvm.Cond.code ({ cls := "com/example/corpus_search/corpussearch/scoring/Parameter", name := "allows", desc := "(D)Z" } : Jvm.MethodName) prog_61_method_6_code (3 : Nat) (Option.some Jvm.ClassFile.FieldType.boolean)]
set_option maxRecDepth 65536 in
theorem codes_eq : words1.filter isCode = codes1 := rfl
theorem w_codes : ∀ c ∈ words1.filter isCode, c.before args0 about1 = true := by
  rw [codes_eq]
  intro c hc
  simp only [codes1, List.mem_cons, List.not_mem_nil, or_false] at hc
  rcases hc with rfl | rfl
  · exact w_c0
  · exact w_c1
set_option maxRecDepth 65536 in
theorem w_t1 : words1.all (fun c => isCode c || c.before args0 about1) = true := by decide +kernel
theorem w_tables : (allAtoms (Jvm.Cond.code x code maxLocals ret :: tables_1)).before args0 about1 = true := by
  rw [allAtoms_all]
  show words1.all (fun c => c.before args0 about1) = true
  refine all_split ?_ w_codes
  rw [w_t1]
set_option maxRecDepth 65536 in
theorem w_case : (Jvm.Cond.and given_1 narrow_1).before args0 about1 = true := by decide +kernel
theorem w_applies : (headSpec (Jvm.Cond.code x code maxLocals ret :: tables_1) room_1).applies x e0.platform about1 = true :=
  (Spec.applies_iff w_frames).mpr ⟨w_running, w_runnable, w_alone, w_named, w_hears, w_ripe, w_room, w_tables⟩
theorem atStart : AtStart classFile x code maxLocals ret World_1 tables_1 room_1 Calls_1 rest_1 Pre_1 launch0 p0 e0 about1 theMethod args0 below0 :=
  ⟨lists_1, trivial, launch0.admits_env _ _ _, launch0.least_env, fairChoices_fair.cas, fairChoices_fair.clock, w_frames, w_args, w_heap, w_applies, trivial, trivial, w_case⟩
end start1
theorem witness_1 : WitnessClaimed_1 := ⟨start1.p0, start1.e0, start1.about1, start1.theMethod, start1.args0, start1.below0, start1.atStart⟩
end Jvm.Pilot.@@N@@
