import JvmDerived
import JvmDerived.Pilot.@@N@@Statement
import JvmDerived.Pilot.@@N@@Code
set_option linter.unusedVariables false
set_option linter.unusedSimpArgs false
namespace Jvm.RoadKit
open Sem ClassFile Op Lib Jvm.Stand Jvm.Free Jvm.LawKit
section New
variable {p : Program} {l : Launch} {e : Env} {R : Room} {s : State} {m : MethodId} {args : Array Value} {below : List Frame} {meth : Method} {c : Code} {T : State} {locs : List Loc} {cells slots : Nat}
theorem retI (X : Stand p l e R s m args below meth c T locs cells slots) (hx : p.tables.exec = Jvm.exec) {pc : Nat} {Ls : Array Slot} {z : Int32} {rest : List Value} (hret : meth.sig.returnType = some .int) (hd : decode c.code pc = .ok (.ireturn, 1)) {fs : List Frame}
    (hl : ∀ (f : JFrame) (acts : List Action), f.method = m → f.locked = none → f.entered = [] → (doReturn e (T.setTop f) acts (some (.int z))).1 = T.setFrames fs) : Steps p.tables e below (T.setTop (mkF m pc Ls (.int z :: rest))) (T.setFrames fs) := by
  have hm' : T.vm.method? m = some meth := X.method'
  have hn : narrow .int (.int z) = .int z := rfl
  show Steps p.tables e below (T.setTop { method := m, pc := pc, locals := Ls, stack := _ :: rest, locked := none }) _
  jvm_step X.here [X.here.top, hx, hd, hm', hret, hn]
  first | (intro acts; rw [hl _ acts rfl rfl rfl]) | rw [hl _ _ rfl rfl rfl]
  exact Steps.refl _
theorem own_retL (X : Stand p l e R s m args below meth c T locs cells slots) (hx : p.tables.exec = Jvm.exec) {pc : Nat} {Ls : Array Slot} {z : Int64} {rest : List Value} (hret : meth.sig.returnType = some .long) (hd : decode c.code pc = .ok (.lreturn, 1)) {fs : List Frame}
    (hl : ∀ (f : JFrame) (acts : List Action), f.method = m → f.locked = none → f.entered = [] → (doReturn e (T.setTop f) acts (some (.long z))).1 = T.setFrames fs) : Steps p.tables e below (T.setTop (mkF m pc Ls (.long z :: rest))) (T.setFrames fs) := by
  have hm' : T.vm.method? m = some meth := X.method'
  show Steps p.tables e below (T.setTop { method := m, pc := pc, locals := Ls, stack := _ :: rest, locked := none }) _
  jvm_step X.here [X.here.top, hx, hd, hm', hret, narrow]
  first | (intro acts; rw [hl _ acts rfl rfl rfl]) | rw [hl _ _ rfl rfl rfl]
  exact Steps.refl _
theorem own_retA (X : Stand p l e R s m args below meth c T locs cells slots) (hx : p.tables.exec = Jvm.exec) {pc : Nat} {Ls : Array Slot} {v : Value} {t : FieldType} {rest : List Value} (hret : meth.sig.returnType = some t) (ht : t.isReference = true) (hv : v.isRef = true) (hd : decode c.code pc = .ok (.areturn, 1)) {fs : List Frame}
    (hl : ∀ (f : JFrame) (acts : List Action), f.method = m → f.locked = none → f.entered = [] → (doReturn e (T.setTop f) acts (some v)).1 = T.setFrames fs) : Steps p.tables e below (T.setTop (mkF m pc Ls (v :: rest))) (T.setFrames fs) := by
  have hm' : T.vm.method? m = some meth := X.method'
  show Steps p.tables e below (T.setTop { method := m, pc := pc, locals := Ls, stack := v :: rest, locked := none }) _
  rcases ref_cases hv with rfl | ⟨a, rfl⟩
  all_goals
    jvm_step X.here [X.here.top, hx, hd, hm', hret, ht, Value.isRef]
    first | (intro acts; rw [hl _ acts rfl rfl rfl]) | rw [hl _ _ rfl rfl rfl]
    exact Steps.refl _
def Go (p : Program) (e : Env) (below : List Frame) (P : Outcome → State → Prop) (S : State) : Prop := ∃ s₂ o, Steps p.tables e below S s₂ ∧ s₂.status = .running ∧ Ended s₂ below o ∧ P o s₂
variable {P : Outcome → State → Prop}
theorem Go.by {A B : State} (st : ∀ t, Steps p.tables e below B t → Steps p.tables e below A t) (g : Go p e below P B) : Go p e below P A := by
  obtain ⟨u, o, h1, h2⟩ := g; exact ⟨u, o, st _ h1, h2⟩
theorem Go.tr {A B : State} (st : Steps p.tables e below A B) (g : Go p e below P B) : Go p e below P A := by
  obtain ⟨u, o, h1, h2⟩ := g; exact ⟨u, o, st.trans h1, h2⟩
theorem Go.start {f g : JFrame} (q : f = g) (h : Go p e below P (T.setTop g)) : ∃ s₂ o, Steps p.tables e below (T.setTop f) s₂ ∧ s₂.status = .running ∧ Ended s₂ below o ∧ P o s₂ := q ▸ h
variable {Q : Option Value → Heap → List Loc → Prop} {rc rs : Nat}
theorem Go.retI (X : Stand p l e R s m args below meth c T locs cells slots) (hx : p.tables.exec = Jvm.exec) {pc : Nat} {Ls : Array Slot} {z : Int32} {rest : List Value} (hret : meth.sig.returnType = some .int) (hlk : meth.locks = false) (hd : decode c.code pc = .ok (.ireturn, 1)) (hc : cells ≤ rc) (hs : slots ≤ rs) (hq : Q (some (.int z)) T.heap locs) :
    Go p e below (fun o U' => ∃ v L, o = .returned v ∧ Q v U'.heap L ∧ FrameEnd s o U' L rc rs) (T.setTop (mkF m pc Ls (.int z :: rest))) := by
  obtain ⟨fs, hr, hrun, hended, hW, hsame⟩ := X.leave (v := some (.int z)) (fun h => by rw [hret] at h; cases h) hlk
  exact ⟨_, _, RoadKit.retI X hx hret hd hr, hrun, hended, _, _, rfl, hq, ⟨_, rfl⟩, hW, hsame.mono hc hs⟩
theorem Go.retN (X : Stand p l e R s m args below meth c T locs cells slots) (hx : p.tables.exec = Jvm.exec) {pc : Nat} {Ls : Array Slot} {z : Int32} {t : FieldType} {rest : List Value} (hret : meth.sig.returnType = some t) (ht : t = .boolean ∨ t = .byte ∨ t = .char ∨ t = .short) (hlk : meth.locks = false) (hd : decode c.code pc = .ok (.ireturn, 1)) (hc : cells ≤ rc) (hs : slots ≤ rs) (hq : Q (some (.int (nar t z))) T.heap locs) :
    Go p e below (fun o U' => ∃ v L, o = .returned v ∧ Q v U'.heap L ∧ FrameEnd s o U' L rc rs) (T.setTop (mkF m pc Ls (.int z :: rest))) := by
  obtain ⟨fs, hr, hrun, hended, hW, hsame⟩ := X.leave (v := some (.int (nar t z))) (fun h => by rw [hret] at h; cases h) hlk
  exact ⟨_, _, RoadKit.retN X hx hret ht hd hr, hrun, hended, _, _, rfl, hq, ⟨_, rfl⟩, hW, hsame.mono hc hs⟩
theorem Go.retL (X : Stand p l e R s m args below meth c T locs cells slots) (hx : p.tables.exec = Jvm.exec) {pc : Nat} {Ls : Array Slot} {z : Int64} {rest : List Value} (hret : meth.sig.returnType = some .long) (hlk : meth.locks = false) (hd : decode c.code pc = .ok (.lreturn, 1)) (hc : cells ≤ rc) (hs : slots ≤ rs) (hq : Q (some (.long z)) T.heap locs) :
    Go p e below (fun o U' => ∃ v L, o = .returned v ∧ Q v U'.heap L ∧ FrameEnd s o U' L rc rs) (T.setTop (mkF m pc Ls (.long z :: rest))) := by
  obtain ⟨fs, hr, hrun, hended, hW, hsame⟩ := X.leave (v := some (.long z)) (fun h => by rw [hret] at h; cases h) hlk
  exact ⟨_, _, own_retL X hx hret hd hr, hrun, hended, _, _, rfl, hq, ⟨_, rfl⟩, hW, hsame.mono hc hs⟩
theorem Go.retA (X : Stand p l e R s m args below meth c T locs cells slots) (hx : p.tables.exec = Jvm.exec) {pc : Nat} {Ls : Array Slot} {v : Value} {t : FieldType} {rest : List Value} (hret : meth.sig.returnType = some t) (ht : t.isReference = true) (hv : v.isRef = true) (hlk : meth.locks = false) (hd : decode c.code pc = .ok (.areturn, 1)) (hc : cells ≤ rc) (hs : slots ≤ rs) (hq : Q (some v) T.heap locs) :
    Go p e below (fun o U' => ∃ v L, o = .returned v ∧ Q v U'.heap L ∧ FrameEnd s o U' L rc rs) (T.setTop (mkF m pc Ls (v :: rest))) := by
  obtain ⟨fs, hr, hrun, hended, hW, hsame⟩ := X.leave (v := some v) (fun h => by rw [hret] at h; cases h) hlk
  exact ⟨_, _, own_retA X hx hret ht hv hd hr, hrun, hended, _, _, rfl, hq, ⟨_, rfl⟩, hW, hsame.mono hc hs⟩
theorem Go.ret0 (X : Stand p l e R s m args below meth c T locs cells slots) (hx : p.tables.exec = Jvm.exec) {pc : Nat} {Ls : Array Slot} (hret : meth.sig.returnType = none) (hlk : meth.locks = false) (hd : decode c.code pc = .ok (.return_, 1)) (hc : cells ≤ rc) (hs : slots ≤ rs) (hq : Q none T.heap locs) :
    Go p e below (fun o U' => ∃ v L, o = .returned v ∧ Q v U'.heap L ∧ FrameEnd s o U' L rc rs) (T.setTop (mkF m pc Ls [])) := by
  obtain ⟨fs, hr, hrun, hended, hW, hsame⟩ := X.leave (v := none) (fun _ => rfl) hlk
  exact ⟨_, _, X.returnOut hx hret hd hr, hrun, hended, _, _, rfl, hq, ⟨_, rfl⟩, hW, hsame.mono hc hs⟩
section Wide
variable {vm₁ : Vm} {kS : Nat}
theorem Go.retIW (hS : s.Since vm₁ kS) (hn : kS ≤ T.heap.size) (X : Stand p l e R (s.setVm vm₁) m args below meth c T locs cells slots) (hx : p.tables.exec = Jvm.exec) {pc : Nat} {Ls : Array Slot} {z : Int32} {rest : List Value} (hret : meth.sig.returnType = some .int) (hlk : meth.locks = false) (hd : decode c.code pc = .ok (.ireturn, 1)) (hc : cells ≤ rc) (hs : slots ≤ rs) (hq : Q (some (.int z)) T.heap locs) :
    Go p e below (fun o U' => ∃ v L, o = .returned v ∧ Q v U'.heap L ∧ ReturnedEndW s o U' L rc rs) (T.setTop (mkF m pc Ls (.int z :: rest))) := by
  obtain ⟨fs, hr, hrun, hended, w1, w2, w3, w4⟩ := X.leaveW hS hn (v := some (.int z)) (fun h => by rw [hret] at h; cases h) hlk
  exact ⟨_, _, RoadKit.retI X hx hret hd hr, hrun, hended, _, _, rfl, hq, w1, w2, w3, w4.mono hc hs⟩
theorem Go.retNW (hS : s.Since vm₁ kS) (hn : kS ≤ T.heap.size) (X : Stand p l e R (s.setVm vm₁) m args below meth c T locs cells slots) (hx : p.tables.exec = Jvm.exec) {pc : Nat} {Ls : Array Slot} {z : Int32} {t : FieldType} {rest : List Value} (hret : meth.sig.returnType = some t) (ht : t = .boolean ∨ t = .byte ∨ t = .char ∨ t = .short) (hlk : meth.locks = false) (hd : decode c.code pc = .ok (.ireturn, 1)) (hc : cells ≤ rc) (hs : slots ≤ rs) (hq : Q (some (.int (nar t z))) T.heap locs) :
    Go p e below (fun o U' => ∃ v L, o = .returned v ∧ Q v U'.heap L ∧ ReturnedEndW s o U' L rc rs) (T.setTop (mkF m pc Ls (.int z :: rest))) := by
  obtain ⟨fs, hr, hrun, hended, w1, w2, w3, w4⟩ := X.leaveW hS hn (v := some (.int (nar t z))) (fun h => by rw [hret] at h; cases h) hlk
  exact ⟨_, _, RoadKit.retN X hx hret ht hd hr, hrun, hended, _, _, rfl, hq, w1, w2, w3, w4.mono hc hs⟩
theorem Go.retAW (hS : s.Since vm₁ kS) (hn : kS ≤ T.heap.size) (X : Stand p l e R (s.setVm vm₁) m args below meth c T locs cells slots) (hx : p.tables.exec = Jvm.exec) {pc : Nat} {Ls : Array Slot} {v : Value} {t : FieldType} {rest : List Value} (hret : meth.sig.returnType = some t) (ht : t.isReference = true) (hv : v.isRef = true) (hlk : meth.locks = false) (hd : decode c.code pc = .ok (.areturn, 1)) (hc : cells ≤ rc) (hs : slots ≤ rs) (hq : Q (some v) T.heap locs) :
    Go p e below (fun o U' => ∃ v L, o = .returned v ∧ Q v U'.heap L ∧ ReturnedEndW s o U' L rc rs) (T.setTop (mkF m pc Ls (v :: rest))) := by
  obtain ⟨fs, hr, hrun, hended, w1, w2, w3, w4⟩ := X.leaveW hS hn (v := some v) (fun h => by rw [hret] at h; cases h) hlk
  exact ⟨_, _, own_retA X hx hret ht hv hd hr, hrun, hended, _, _, rfl, hq, w1, w2, w3, w4.mono hc hs⟩
theorem Go.ret0W (hS : s.Since vm₁ kS) (hn : kS ≤ T.heap.size) (X : Stand p l e R (s.setVm vm₁) m args below meth c T locs cells slots) (hx : p.tables.exec = Jvm.exec) {pc : Nat} {Ls : Array Slot} (hret : meth.sig.returnType = none) (hlk : meth.locks = false) (hd : decode c.code pc = .ok (.return_, 1)) (hc : cells ≤ rc) (hs : slots ≤ rs) (hq : Q none T.heap locs) :
    Go p e below (fun o U' => ∃ v L, o = .returned v ∧ Q v U'.heap L ∧ ReturnedEndW s o U' L rc rs) (T.setTop (mkF m pc Ls [])) := by
  obtain ⟨fs, hr, hrun, hended, w1, w2, w3, w4⟩ := X.leaveW hS hn (v := none) (fun _ => rfl) hlk
  exact ⟨_, _, X.returnOut hx hret hd hr, hrun, hended, _, _, rfl, hq, w1, w2, w3, w4.mono hc hs⟩
end Wide
section Held
variable {vm₁ : Vm} {kS : Nat} {Z : State} {a0 : Array Value} {EL : List (String × Nat)} {h0 h h' : Heap} {vm0 : Vm}
theorem own_chE (A : CHr Z EL vm₁ h0 vm0 h) (E : Ext h h') : CHr Z EL vm₁ h0 vm0 h' := A.trans (CHr.ext E A.1)
theorem own_chW {a : Addr} {sl : Nat} {v : Value} (A : CHr Z EL vm₁ h0 vm0 h) (W : Wr h h' a sl v) (S : Safe Z EL vm0 h a) : CHr Z EL vm₁ h0 vm0 h' := A.trans (CHr.wr W S A.1)
theorem own_chK {ws : List Addr} (A : CHr Z EL vm₁ h0 vm0 h) (K : Keep h h' ws) (S : ∀ x ∈ ws, Safe Z EL vm0 h x) : CHr Z EL vm₁ h0 vm0 h' := A.trans (CHr.keep K S A.1)
theorem own_chEnd (X : Stand p l e R (s.setVm vm₁) m args below meth c T locs cells slots) (eT : T.heap = h) (hZ : Z.Warmed39 vm₁) (hEL : EW Z a0 EL) (A : CHr Z EL s.vm h0 vm₁ h) (hh : s.heap = h0) : CHr Z EL s.vm s.heap T.vm T.heap := by
  rw [eT, hh]; exact A.trans (CHv.at X hZ hEL A.1)
theorem Go.retNH (hS : s.Since vm₁ kS) (hn : kS ≤ T.heap.size) (hC : CHr Z EL s.vm s.heap T.vm T.heap) (X : Stand p l e R (s.setVm vm₁) m args below meth c T locs cells slots) (hx : p.tables.exec = Jvm.exec) {pc : Nat} {Ls : Array Slot} {z : Int32} {t : FieldType} {rest : List Value} (hret : meth.sig.returnType = some t) (ht : t = .boolean ∨ t = .byte ∨ t = .char ∨ t = .short) (hlk : meth.locks = false) (hd : decode c.code pc = .ok (.ireturn, 1)) (hc : cells ≤ rc) (hs : slots ≤ rs) (hq : Q (some (.int (nar t z))) T.heap locs) :
    Go p e below (fun o U' => ∃ v L, o = .returned v ∧ Q v U'.heap L ∧ CHr Z EL s.vm s.heap U'.vm U'.heap ∧ ReturnedEndW s o U' L rc rs) (T.setTop (mkF m pc Ls (.int z :: rest))) := by
  obtain ⟨fs, hr, hrun, hended, w1, w2, w3, w4⟩ := X.leaveW hS hn (v := some (.int (nar t z))) (fun h => by rw [hret] at h; cases h) hlk
  exact ⟨_, _, RoadKit.retN X hx hret ht hd hr, hrun, hended, _, _, rfl, hq, hC, w1, w2, w3, w4.mono hc hs⟩
theorem Go.retAH (hS : s.Since vm₁ kS) (hn : kS ≤ T.heap.size) (hC : CHr Z EL s.vm s.heap T.vm T.heap) (X : Stand p l e R (s.setVm vm₁) m args below meth c T locs cells slots) (hx : p.tables.exec = Jvm.exec) {pc : Nat} {Ls : Array Slot} {v : Value} {t : FieldType} {rest : List Value} (hret : meth.sig.returnType = some t) (ht : t.isReference = true) (hv : v.isRef = true) (hlk : meth.locks = false) (hd : decode c.code pc = .ok (.areturn, 1)) (hc : cells ≤ rc) (hs : slots ≤ rs) (hq : Q (some v) T.heap locs) :
    Go p e below (fun o U' => ∃ v L, o = .returned v ∧ Q v U'.heap L ∧ CHr Z EL s.vm s.heap U'.vm U'.heap ∧ ReturnedEndW s o U' L rc rs) (T.setTop (mkF m pc Ls (v :: rest))) := by
  obtain ⟨fs, hr, hrun, hended, w1, w2, w3, w4⟩ := X.leaveW hS hn (v := some v) (fun h => by rw [hret] at h; cases h) hlk
  exact ⟨_, _, own_retA X hx hret ht hv hd hr, hrun, hended, _, _, rfl, hq, hC, w1, w2, w3, w4.mono hc hs⟩
theorem Go.ret0H (hS : s.Since vm₁ kS) (hn : kS ≤ T.heap.size) (hC : CHr Z EL s.vm s.heap T.vm T.heap) (X : Stand p l e R (s.setVm vm₁) m args below meth c T locs cells slots) (hx : p.tables.exec = Jvm.exec) {pc : Nat} {Ls : Array Slot} (hret : meth.sig.returnType = none) (hlk : meth.locks = false) (hd : decode c.code pc = .ok (.return_, 1)) (hc : cells ≤ rc) (hs : slots ≤ rs) (hq : Q none T.heap locs) :
    Go p e below (fun o U' => ∃ v L, o = .returned v ∧ Q v U'.heap L ∧ CHr Z EL s.vm s.heap U'.vm U'.heap ∧ ReturnedEndW s o U' L rc rs) (T.setTop (mkF m pc Ls [])) := by
  obtain ⟨fs, hr, hrun, hended, w1, w2, w3, w4⟩ := X.leaveW hS hn (v := none) (fun _ => rfl) hlk
  exact ⟨_, _, X.returnOut hx hret hd hr, hrun, hended, _, _, rfl, hq, hC, w1, w2, w3, w4.mono hc hs⟩
end Held
theorem own_selP {Z : State} {a0 : Array Value} {y : MethodName} {n : Nat} (hZ : Z.Warmed39 s.vm) (wi : (Cond.instantiable y.cls n).before a0 Z = true) (wp : (Cond.privateMethod y).before a0 Z = true) (wm : (Cond.instanceMethod y).before a0 Z = true) (hy : y.cls ≠ "java/lang/invoke/MethodHandle" ∧ y.cls ≠ "java/lang/invoke/VarHandle") : (Cond.selects y.cls y y).before args s = true := by
  obtain ⟨c, k, h1, h2, h3, h4, -⟩ := Cond.instantiable_spec (show (Cond.instantiable y.cls n).before args s = true from mv hZ wi)
  refine selects_self_of_private h1 h2 ?_ (Cond.privateMethod_at (mvP (args := args) hZ wp)) (mvT hZ wm) hy
  simp only [Bool.or_eq_false_iff] at h4; exact h4.1
theorem own_NSroot {Z : State} {a0 : Array Value} {O K : String} {n : Nat} (w : (Cond.noSuperclass O).before a0 Z = true) (wk : (Cond.instantiable K n).before a0 Z = true) (hn : O ≠ K) : NS Z O K := by
  obtain ⟨c, k, h1, h2, h3, -, -⟩ := Cond.noSuperclass_spec w
  obtain ⟨t, -, g1, -⟩ := Cond.instantiable_spec wk
  have ne := ids_ne h1 g1 hn
  refine ⟨c, t, h1, g1, fun fuel => ?_⟩
  cases fuel with
  | zero => rfl
  | succ f => simp [Vm.isSubclassAux, ne, h2, h3]
theorem own_NSno {Z : State} {a0 : Array Value} {C S K : String} {n : Nat} (w : (Cond.superclass C S).before a0 Z = true) (wk : (Cond.instantiable K n).before a0 Z = true) (ns : NS Z C K) (hn : C ≠ K) : ∃ c t, Z.vm.findClass C = some c ∧ Z.vm.findClass K = some t ∧ Z.vm.assignable c t = false := by
  obtain ⟨c, t, h0, g0, n3⟩ := ns
  obtain ⟨p, k, kp, h1, h2, h3, h4, h5, -, h7⟩ := Cond.superclass_spec h0 w
  obtain ⟨t', kt, g1, g2, g3, g4, -⟩ := Cond.instantiable_spec wk
  cases g0.symm.trans g1
  simp only [Bool.or_eq_false_iff] at g4
  have ne := ids_ne h0 g0 hn
  refine ⟨c, t, h0, g0, ?_⟩
  show Z.vm.assignableAux (255 + 1) c t = false
  simp [Vm.assignableAux, ne, h2, g2, h5, g3, g4.1, Vm.isSubclass, n3]
theorem own_old_size {Z : State} {n0 : Nat} {h : Heap} (O : Old Z n0 h) : n0 ≤ h.size := by rw [← O.1]; exact O.2.1
theorem own_cat1 {v : Value} (h : v.isRef = true) : v.category = 1 := by rcases ref_cases h with rfl | ⟨_, rfl⟩ <;> rfl
end New
end Jvm.RoadKit
namespace Jvm.Pilot.@@N@@
open Jvm Jvm.ClassFile Sem Op Lib Jvm.Free Jvm.Stand Jvm.LawKit Jvm.RoadKit Bundle Jvm.Pilot.@@N@@.Jvm.D
def own_ws (c : Int32) : Int32 := if c = 32 ∨ c = 9 ∨ c = 10 ∨ c = 11 ∨ c = 12 ∨ c = 13 then 1 else 0
theorem own_in (c : Int32) (h1 : ¬ c < (9 : Int32)) (h2 : ¬ (13 : Int32) < c) : own_ws c = 1 := by
  rw [Int32.lt_iff_toInt_lt] at h1 h2
  have e9 : (9 : Int32).toInt = 9 := rfl
  have e13 : (13 : Int32).toInt = 13 := rfl
  have h : c.toInt = 9 ∨ c.toInt = 10 ∨ c.toInt = 11 ∨ c.toInt = 12 ∨ c.toInt = 13 := by omega
  have k : c = 9 ∨ c = 10 ∨ c = 11 ∨ c = 12 ∨ c = 13 := by
    rcases h with h | h | h | h | h
    · exact Or.inl (Int32.toInt_inj.mp h)
    · exact Or.inr (Or.inl (Int32.toInt_inj.mp h))
    · exact Or.inr (Or.inr (Or.inl (Int32.toInt_inj.mp h)))
    · exact Or.inr (Or.inr (Or.inr (Or.inl (Int32.toInt_inj.mp h))))
    · exact Or.inr (Or.inr (Or.inr (Or.inr (Int32.toInt_inj.mp h))))
  rcases k with rfl | rfl | rfl | rfl | rfl <;> decide
theorem own_is (c : Int32) (h : c = (32 : Int32)) : own_ws c = 1 := by subst h; decide
theorem own_out (c : Int32) (h1 : c < (9 : Int32) ∨ (13 : Int32) < c) (h2 : ¬ c = (32 : Int32)) : own_ws c = 0 := by
  rw [Int32.lt_iff_toInt_lt, Int32.lt_iff_toInt_lt] at h1
  have e9 : (9 : Int32).toInt = 9 := rfl
  have e13 : (13 : Int32).toInt = 13 := rfl
  have f : ∀ k : Int32, 9 ≤ k.toInt → k.toInt ≤ 13 → c ≠ k := fun k a b q => by subst q; omega
  have g9 := f 9 (by decide) (by decide)
  have g10 := f 10 (by decide) (by decide)
  have g11 := f 11 (by decide) (by decide)
  have g12 := f 12 (by decide) (by decide)
  have g13 := f 13 (by decide) (by decide)
  simp [own_ws, h2, g9, g10, g11, g12, g13]
theorem pn_0 : plainName "com/example/corpus_search/corpussearch/collection/LineReader" = true := by first | (simp [plainName, overriddenIn]; done) | decide +kernel
theorem d1_0 : decode prog_27_method_6_code 0 = .ok (.iload_n 0, 1) := by decide +kernel
theorem d1_1 : decode prog_27_method_6_code 1 = .ok (.bipush 32, 2) := by decide +kernel
theorem d1_3 : decode prog_27_method_6_code 3 = .ok (.if_icmp .eq 33, 3) := by decide +kernel
theorem d1_36 : decode prog_27_method_6_code 36 = .ok (.iconst 1, 1) := by decide +kernel
theorem d1_37 : decode prog_27_method_6_code 37 = .ok (.goto 4, 3) := by decide +kernel
theorem d1_41 : decode prog_27_method_6_code 41 = .ok (.ireturn, 1) := by decide +kernel
theorem d1_6 : decode prog_27_method_6_code 6 = .ok (.iload_n 0, 1) := by decide +kernel
theorem d1_7 : decode prog_27_method_6_code 7 = .ok (.bipush 9, 2) := by decide +kernel
theorem d1_9 : decode prog_27_method_6_code 9 = .ok (.if_icmp .eq 27, 3) := by decide +kernel
theorem d1_12 : decode prog_27_method_6_code 12 = .ok (.iload_n 0, 1) := by decide +kernel
theorem d1_13 : decode prog_27_method_6_code 13 = .ok (.bipush 10, 2) := by decide +kernel
theorem d1_15 : decode prog_27_method_6_code 15 = .ok (.if_icmp .eq 21, 3) := by decide +kernel
theorem d1_18 : decode prog_27_method_6_code 18 = .ok (.iload_n 0, 1) := by decide +kernel
theorem d1_19 : decode prog_27_method_6_code 19 = .ok (.bipush 11, 2) := by decide +kernel
theorem d1_21 : decode prog_27_method_6_code 21 = .ok (.if_icmp .eq 15, 3) := by decide +kernel
theorem d1_24 : decode prog_27_method_6_code 24 = .ok (.iload_n 0, 1) := by decide +kernel
theorem d1_25 : decode prog_27_method_6_code 25 = .ok (.bipush 12, 2) := by decide +kernel
theorem d1_27 : decode prog_27_method_6_code 27 = .ok (.if_icmp .eq 9, 3) := by decide +kernel
theorem d1_30 : decode prog_27_method_6_code 30 = .ok (.iload_n 0, 1) := by decide +kernel
theorem d1_31 : decode prog_27_method_6_code 31 = .ok (.bipush 13, 2) := by decide +kernel
theorem d1_33 : decode prog_27_method_6_code 33 = .ok (.if_icmp .ne 7, 3) := by decide +kernel
theorem d1_40 : decode prog_27_method_6_code 40 = .ok (.iconst 0, 1) := by decide +kernel
theorem ef_isWs (m : MethodId) (ch : Int32) : entryFrame m #[(.int ch)] 1 = mkF m 0 #[.val (.int ch)] [] := by first | (simp [entryFrame, mkF, argsToLocals, Value.category]; done) | rfl
def Q_isWs (Z : State) (ch : Int32) (h0 : Heap) (n0 : Nat) (v : Option Value) (h : Heap) (L : List Loc) : Prop := v = some (.int (own_ws ch)) ∧ Fr n0 L ∧ h = h0
set_option maxRecDepth 65536 in
set_option maxHeartbeats 40000000 in
theorem isWs (l : Launch) (Z : State) (a0 : Array Value) (hw : ∀ d ∈ tables_1, d.before a0 Z = true) (ws : List Jvm.Cond) (ch : Int32) (h0 : Heap) (n0 : Nat) (O0 : Old Z n0 h0) :
    MetFree l (⟨"com/example/corpus_search/corpussearch/collection/LineReader", "isAsciiWhiteSpace", "(C)Z"⟩ : MethodName) (head1 (Jvm.Cond.code (⟨"com/example/corpus_search/corpussearch/collection/LineReader", "isAsciiWhiteSpace", "(C)Z"⟩ : MethodName) prog_27_method_6_code 1 (some .boolean) :: ws) ({ frames := 0, cells := 0, slots := 0, locals := 0 } : Room)) (fun a U => a = #[(.int ch)] ∧ Z.Warmed39 U.vm ∧ U.heap = h0) (fun _ _ _ _ _ => True) (fun _ U o U' => ∃ v L, o = .returned v ∧ Q_isWs Z ch h0 n0 v U'.heap L ∧ FrameEnd U o U' L ({ frames := 0, cells := 0, slots := 0, locals := 0 } : Room).cells ({ frames := 0, cells := 0, slots := 0, locals := 0 } : Room).slots) := by
  refine MetFree.of_bodySF (plainFor_of_name pn_0) hisR ?_
  intro p e s m args below meth c s₁ Bd hml0 hP hK
  obtain ⟨rfl, hZ, hh⟩ := hP
  have hx := Bd.exec
  have hby := Bd.bytes
  have hml : c.maxLocals = 1 := hml0
  have hown : s.vm.findClass "com/example/corpus_search/corpussearch/collection/LineReader" = some m.cls := findClass_of_methodNamed Bd.named
  have hnm := (name_of_methodNamed Bd.named Bd.method).1
  have hlk := BodyLoose.notSynchronized Bd
  have X0 : Stand p l e ({ frames := 0, cells := 0, slots := 0, locals := 0 } : Room) s m #[(.int ch)] below meth c s₁ [] 0 0 := Stand.of_body Bd
  have e0 : s₁.heap = h0 := by rw [← hh, Bd.state]; rfl
  have N0 := Fr.nil n0
  refine Go.start (P := fun o U' => ∃ v L, o = .returned v ∧ Q_isWs Z ch h0 n0 v U'.heap L ∧ FrameEnd s o U' L ({ frames := 0, cells := 0, slots := 0, locals := 0 } : Room).cells ({ frames := 0, cells := 0, slots := 0, locals := 0 } : Room).slots) (ef_isWs m ch) ?_
  show Go p e below _ (s₁.setTop (mkF m 0 #[.val (.int ch)] []))
  refine Go.by (fun t k => XS.iloadN X0.here hx rfl (hb hby d1_0) rfl k) ?_
  show Go p e below _ (s₁.setTop (mkF m 1 #[.val (.int ch)] [(.int ch)]))
  refine Go.by (fun t k => XS.bipush X0.here hx rfl (hb hby d1_1) k) ?_
  show Go p e below _ (s₁.setTop (mkF m 3 #[.val (.int ch)] [(.int (32 : Int32)), (.int ch)]))
  by_cases hc1 : ch = (32 : Int32)
  · skip
    refine Go.by (fun t k => XS.icmpYes X0.here hx rfl (pc0 := 3) (pc' := 36) rfl (hb hby d1_3) rfl (teq hc1).1 (by decide) (by decide) k) ?_
    show Go p e below _ (s₁.setTop (mkF m 36 #[.val (.int ch)] []))
    refine Go.by (fun t k => XS.iconst X0.here hx rfl (hb hby d1_36) k) ?_
    show Go p e below _ (s₁.setTop (mkF m 37 #[.val (.int ch)] [(.int (1 : Int32))]))
    refine Go.by (fun t k => XS.goto X0.here hx rfl (pc0 := 37) (pc' := 41) rfl (hb hby d1_37) (by decide) (by decide) k) ?_
    show Go p e below _ (s₁.setTop (mkF m 41 #[.val (.int ch)] [(.int (1 : Int32))]))
    have hq : Q_isWs Z ch h0 n0 (some (.int (nar .boolean (1 : Int32)))) h0 _ := ⟨(by show some (Value.int _) = _; simp [own_ws, nar, hc1]), N0, rfl⟩
    exact Go.retN X0 hx (t := .boolean) Bd.returns (by simp) hlk (hb hby d1_41) (by decide) (by decide) (by rw [e0]; exact hq)
  · skip
    refine Go.by (fun t k => XS.icmpNo X0.here hx rfl (hb hby d1_3) rfl (feq hc1).1 k) ?_
    show Go p e below _ (s₁.setTop (mkF m 6 #[.val (.int ch)] []))
    refine Go.by (fun t k => XS.iloadN X0.here hx rfl (hb hby d1_6) rfl k) ?_
    show Go p e below _ (s₁.setTop (mkF m 7 #[.val (.int ch)] [(.int ch)]))
    refine Go.by (fun t k => XS.bipush X0.here hx rfl (hb hby d1_7) k) ?_
    show Go p e below _ (s₁.setTop (mkF m 9 #[.val (.int ch)] [(.int (9 : Int32)), (.int ch)]))
    by_cases hc2 : ch = (9 : Int32)
    · skip
      refine Go.by (fun t k => XS.icmpYes X0.here hx rfl (pc0 := 9) (pc' := 36) rfl (hb hby d1_9) rfl (teq hc2).1 (by decide) (by decide) k) ?_
      show Go p e below _ (s₁.setTop (mkF m 36 #[.val (.int ch)] []))
      refine Go.by (fun t k => XS.iconst X0.here hx rfl (hb hby d1_36) k) ?_
      show Go p e below _ (s₁.setTop (mkF m 37 #[.val (.int ch)] [(.int (1 : Int32))]))
      refine Go.by (fun t k => XS.goto X0.here hx rfl (pc0 := 37) (pc' := 41) rfl (hb hby d1_37) (by decide) (by decide) k) ?_
      show Go p e below _ (s₁.setTop (mkF m 41 #[.val (.int ch)] [(.int (1 : Int32))]))
      have hq : Q_isWs Z ch h0 n0 (some (.int (nar .boolean (1 : Int32)))) h0 _ := ⟨(by show some (Value.int _) = _; simp [own_ws, nar, hc1, hc2]), N0, rfl⟩
      exact Go.retN X0 hx (t := .boolean) Bd.returns (by simp) hlk (hb hby d1_41) (by decide) (by decide) (by rw [e0]; exact hq)
    · skip
      refine Go.by (fun t k => XS.icmpNo X0.here hx rfl (hb hby d1_9) rfl (feq hc2).1 k) ?_
      show Go p e below _ (s₁.setTop (mkF m 12 #[.val (.int ch)] []))
      refine Go.by (fun t k => XS.iloadN X0.here hx rfl (hb hby d1_12) rfl k) ?_
      show Go p e below _ (s₁.setTop (mkF m 13 #[.val (.int ch)] [(.int ch)]))
      refine Go.by (fun t k => XS.bipush X0.here hx rfl (hb hby d1_13) k) ?_
      show Go p e below _ (s₁.setTop (mkF m 15 #[.val (.int ch)] [(.int (10 : Int32)), (.int ch)]))
      by_cases hc3 : ch = (10 : Int32)
      · skip
        refine Go.by (fun t k => XS.icmpYes X0.here hx rfl (pc0 := 15) (pc' := 36) rfl (hb hby d1_15) rfl (teq hc3).1 (by decide) (by decide) k) ?_
        show Go p e below _ (s₁.setTop (mkF m 36 #[.val (.int ch)] []))
        refine Go.by (fun t k => XS.iconst X0.here hx rfl (hb hby d1_36) k) ?_
        show Go p e below _ (s₁.setTop (mkF m 37 #[.val (.int ch)] [(.int (1 : Int32))]))
        refine Go.by (fun t k => XS.goto X0.here hx rfl (pc0 := 37) (pc' := 41) rfl (hb hby d1_37) (by decide) (by decide) k) ?_
        show Go p e below _ (s₁.setTop (mkF m 41 #[.val (.int ch)] [(.int (1 : Int32))]))
        have hq : Q_isWs Z ch h0 n0 (some (.int (nar .boolean (1 : Int32)))) h0 _ := ⟨(by show some (Value.int _) = _; simp [own_ws, nar, hc1, hc2, hc3]), N0, rfl⟩
        exact Go.retN X0 hx (t := .boolean) Bd.returns (by simp) hlk (hb hby d1_41) (by decide) (by decide) (by rw [e0]; exact hq)
      · skip
        refine Go.by (fun t k => XS.icmpNo X0.here hx rfl (hb hby d1_15) rfl (feq hc3).1 k) ?_
        show Go p e below _ (s₁.setTop (mkF m 18 #[.val (.int ch)] []))
        refine Go.by (fun t k => XS.iloadN X0.here hx rfl (hb hby d1_18) rfl k) ?_
        show Go p e below _ (s₁.setTop (mkF m 19 #[.val (.int ch)] [(.int ch)]))
        refine Go.by (fun t k => XS.bipush X0.here hx rfl (hb hby d1_19) k) ?_
        show Go p e below _ (s₁.setTop (mkF m 21 #[.val (.int ch)] [(.int (11 : Int32)), (.int ch)]))
        by_cases hc4 : ch = (11 : Int32)
        · skip
          refine Go.by (fun t k => XS.icmpYes X0.here hx rfl (pc0 := 21) (pc' := 36) rfl (hb hby d1_21) rfl (teq hc4).1 (by decide) (by decide) k) ?_
          show Go p e below _ (s₁.setTop (mkF m 36 #[.val (.int ch)] []))
          refine Go.by (fun t k => XS.iconst X0.here hx rfl (hb hby d1_36) k) ?_
          show Go p e below _ (s₁.setTop (mkF m 37 #[.val (.int ch)] [(.int (1 : Int32))]))
          refine Go.by (fun t k => XS.goto X0.here hx rfl (pc0 := 37) (pc' := 41) rfl (hb hby d1_37) (by decide) (by decide) k) ?_
          show Go p e below _ (s₁.setTop (mkF m 41 #[.val (.int ch)] [(.int (1 : Int32))]))
          have hq : Q_isWs Z ch h0 n0 (some (.int (nar .boolean (1 : Int32)))) h0 _ := ⟨(by show some (Value.int _) = _; simp [own_ws, nar, hc1, hc2, hc3, hc4]), N0, rfl⟩
          exact Go.retN X0 hx (t := .boolean) Bd.returns (by simp) hlk (hb hby d1_41) (by decide) (by decide) (by rw [e0]; exact hq)
        · skip
          refine Go.by (fun t k => XS.icmpNo X0.here hx rfl (hb hby d1_21) rfl (feq hc4).1 k) ?_
          show Go p e below _ (s₁.setTop (mkF m 24 #[.val (.int ch)] []))
          refine Go.by (fun t k => XS.iloadN X0.here hx rfl (hb hby d1_24) rfl k) ?_
          show Go p e below _ (s₁.setTop (mkF m 25 #[.val (.int ch)] [(.int ch)]))
          refine Go.by (fun t k => XS.bipush X0.here hx rfl (hb hby d1_25) k) ?_
          show Go p e below _ (s₁.setTop (mkF m 27 #[.val (.int ch)] [(.int (12 : Int32)), (.int ch)]))
          by_cases hc5 : ch = (12 : Int32)
          · skip
            refine Go.by (fun t k => XS.icmpYes X0.here hx rfl (pc0 := 27) (pc' := 36) rfl (hb hby d1_27) rfl (teq hc5).1 (by decide) (by decide) k) ?_
            show Go p e below _ (s₁.setTop (mkF m 36 #[.val (.int ch)] []))
            refine Go.by (fun t k => XS.iconst X0.here hx rfl (hb hby d1_36) k) ?_
            show Go p e below _ (s₁.setTop (mkF m 37 #[.val (.int ch)] [(.int (1 : Int32))]))
            refine Go.by (fun t k => XS.goto X0.here hx rfl (pc0 := 37) (pc' := 41) rfl (hb hby d1_37) (by decide) (by decide) k) ?_
            show Go p e below _ (s₁.setTop (mkF m 41 #[.val (.int ch)] [(.int (1 : Int32))]))
            have hq : Q_isWs Z ch h0 n0 (some (.int (nar .boolean (1 : Int32)))) h0 _ := ⟨(by show some (Value.int _) = _; simp [own_ws, nar, hc1, hc2, hc3, hc4, hc5]), N0, rfl⟩
            exact Go.retN X0 hx (t := .boolean) Bd.returns (by simp) hlk (hb hby d1_41) (by decide) (by decide) (by rw [e0]; exact hq)
          · skip
            refine Go.by (fun t k => XS.icmpNo X0.here hx rfl (hb hby d1_27) rfl (feq hc5).1 k) ?_
            show Go p e below _ (s₁.setTop (mkF m 30 #[.val (.int ch)] []))
            refine Go.by (fun t k => XS.iloadN X0.here hx rfl (hb hby d1_30) rfl k) ?_
            show Go p e below _ (s₁.setTop (mkF m 31 #[.val (.int ch)] [(.int ch)]))
            refine Go.by (fun t k => XS.bipush X0.here hx rfl (hb hby d1_31) k) ?_
            show Go p e below _ (s₁.setTop (mkF m 33 #[.val (.int ch)] [(.int (13 : Int32)), (.int ch)]))
            by_cases hc6 : ch = (13 : Int32)
            · skip
              refine Go.by (fun t k => XS.icmpNo X0.here hx rfl (hb hby d1_33) rfl (teq hc6).2 k) ?_
              show Go p e below _ (s₁.setTop (mkF m 36 #[.val (.int ch)] []))
              refine Go.by (fun t k => XS.iconst X0.here hx rfl (hb hby d1_36) k) ?_
              show Go p e below _ (s₁.setTop (mkF m 37 #[.val (.int ch)] [(.int (1 : Int32))]))
              refine Go.by (fun t k => XS.goto X0.here hx rfl (pc0 := 37) (pc' := 41) rfl (hb hby d1_37) (by decide) (by decide) k) ?_
              show Go p e below _ (s₁.setTop (mkF m 41 #[.val (.int ch)] [(.int (1 : Int32))]))
              have hq : Q_isWs Z ch h0 n0 (some (.int (nar .boolean (1 : Int32)))) h0 _ := ⟨(by show some (Value.int _) = _; simp [own_ws, nar, hc1, hc2, hc3, hc4, hc5, hc6]), N0, rfl⟩
              exact Go.retN X0 hx (t := .boolean) Bd.returns (by simp) hlk (hb hby d1_41) (by decide) (by decide) (by rw [e0]; exact hq)
            · skip
              refine Go.by (fun t k => XS.icmpYes X0.here hx rfl (pc0 := 33) (pc' := 40) rfl (hb hby d1_33) rfl (feq hc6).2 (by decide) (by decide) k) ?_
              show Go p e below _ (s₁.setTop (mkF m 40 #[.val (.int ch)] []))
              refine Go.by (fun t k => XS.iconst X0.here hx rfl (hb hby d1_40) k) ?_
              show Go p e below _ (s₁.setTop (mkF m 41 #[.val (.int ch)] [(.int (0 : Int32))]))
              have hq : Q_isWs Z ch h0 n0 (some (.int (nar .boolean (0 : Int32)))) h0 _ := ⟨(by show some (Value.int _) = _; simp [own_ws, nar, hc1, hc2, hc3, hc4, hc5, hc6]), N0, rfl⟩
              exact Go.retN X0 hx (t := .boolean) Bd.returns (by simp) hlk (hb hby d1_41) (by decide) (by decide) (by rw [e0]; exact hq)
theorem pn_1 : plainName "com/example/corpus_search/corpussearch/collection/LineReaderIsAsciiWhiteSpacePinLaw" = true := by first | (simp [plainName, overriddenIn]; done) | decide +kernel
theorem pd_0 : parseMethodDescriptor "(C)Z" = some ⟨[.char], some .boolean⟩ := by decide +kernel
theorem ef_law (m : MethodId) (ix : Int32) : entryFrame m #[(.int ix)] maxLocals = mkF m 0 #[.val (.int ix), .unset, .unset] [] := by first | (simp [entryFrame, mkF, argsToLocals, Value.category, maxLocals]; done) | rfl
def Q_law (Z : State) (ix : Int32) (h0 : Heap) (n0 : Nat) (v : Option Value) (h : Heap) (L : List Loc) : Prop := v = some (.int (1 : Int32)) ∧ Fr n0 L ∧ Keep h0 h []
set_option maxRecDepth 65536 in
set_option maxHeartbeats 40000000 in
theorem law (l : Launch) (Z : State) (a0 : Array Value) (hw : ∀ d ∈ tables_1, d.before a0 Z = true) (ws : List Jvm.Cond) (ix : Int32) (h0 : Heap) (n0 : Nat) (O0 : Old Z n0 h0) :
    MetFree l x (head1 (Jvm.Cond.code x code maxLocals ret :: ws) room_1) (fun a U => a = #[(.int ix)] ∧ Z.Warmed39 U.vm ∧ U.heap = h0) (fun _ _ _ _ _ => True) (fun _ U o U' => ∃ v L, o = .returned v ∧ Q_law Z ix h0 n0 v U'.heap L ∧ FrameEnd U o U' L room_1.cells room_1.slots) := by
  refine MetFree.of_bodySF (plainFor_of_name pn_1) hisR ?_
  intro p e s m args below meth c s₁ Bd hml0 hP hK
  obtain ⟨rfl, hZ, hh⟩ := hP
  have hx := Bd.exec
  have hby := Bd.bytes
  have hml : c.maxLocals = 3 := hml0
  have hown : s.vm.findClass "com/example/corpus_search/corpussearch/collection/LineReaderIsAsciiWhiteSpacePinLaw" = some m.cls := findClass_of_methodNamed Bd.named
  have hnm := (name_of_methodNamed Bd.named Bd.method).1
  have hlk := BodyLoose.notSynchronized Bd
  have X0 : Stand p l e room_1 s m #[(.int ix)] below meth c s₁ [] 0 0 := Stand.of_body Bd
  have e0 : s₁.heap = h0 := by rw [← hh, Bd.state]; rfl
  have N0 := Fr.nil n0
  refine Go.start (P := fun o U' => ∃ v L, o = .returned v ∧ Q_law Z ix h0 n0 v U'.heap L ∧ FrameEnd s o U' L room_1.cells room_1.slots) (ef_law m ix) ?_
  show Go p e below _ (s₁.setTop (mkF m 0 #[.val (.int ix), .unset, .unset] []))
  refine Go.by (fun t k => XS.iloadN X0.here hx rfl (hb hby at_0) rfl k) ?_
  show Go p e below _ (s₁.setTop (mkF m 1 #[.val (.int ix), .unset, .unset] [(.int ix)]))
  refine Go.by (fun t k => X0.ldcInt hx hown (mvT hZ (hw _ (List.mem_of_getElem? (i := 0) rfl))) (g := (mkF m 1 #[.val (.int ix), .unset, .unset] [(.int ix)])) rfl (hb hby at_1) t k) ?_
  show Go p e below _ (s₁.setTop (mkF m 3 #[.val (.int ix), .unset, .unset] [(.int (65535 : Int32)), (.int ix)]))
  refine Go.by (fun t k => XS.iand X0.here hx rfl (hb hby at_3) rfl k) ?_
  show Go p e below _ (s₁.setTop (mkF m 4 #[.val (.int ix), .unset, .unset] [(.int (ix &&& (65535 : Int32)))]))
  refine Go.by (fun t k => XS.i2c X0.here hx rfl (hb hby at_4) rfl k) ?_
  show Go p e below _ (s₁.setTop (mkF m 5 #[.val (.int ix), .unset, .unset] [(.int ((ix &&& (65535 : Int32)).toUInt32.toUInt16.toUInt32.toInt32))]))
  refine Go.by (fun t k => XS.istoreN X0.here hx rfl (hb hby at_5) rfl (l' := #[.val (.int ix), .val (.int ((ix &&& (65535 : Int32)).toUInt32.toUInt16.toUInt32.toInt32)), .unset]) rfl k) ?_
  show Go p e below _ (s₁.setTop (mkF m 6 #[.val (.int ix), .val (.int ((ix &&& (65535 : Int32)).toUInt32.toUInt16.toUInt32.toInt32)), .unset] []))
  refine Go.by (fun t k => XS.iloadN X0.here hx rfl (hb hby at_6) rfl k) ?_
  show Go p e below _ (s₁.setTop (mkF m 7 #[.val (.int ix), .val (.int ((ix &&& (65535 : Int32)).toUInt32.toUInt16.toUInt32.toInt32)), .unset] [(.int ((ix &&& (65535 : Int32)).toUInt32.toUInt16.toUInt32.toInt32))]))
  refine Go.by (fun t k => XS.bipush X0.here hx rfl (hb hby at_7) k) ?_
  show Go p e below _ (s₁.setTop (mkF m 9 #[.val (.int ix), .val (.int ((ix &&& (65535 : Int32)).toUInt32.toUInt16.toUInt32.toInt32)), .unset] [(.int (9 : Int32)), (.int ((ix &&& (65535 : Int32)).toUInt32.toUInt16.toUInt32.toInt32))]))
  have J30 : ∀ (j_e : Int32) (hex : j_e = own_ws ((ix &&& (65535 : Int32)).toUInt32.toUInt16.toUInt32.toInt32)), Go p e below (fun o U' => ∃ v L, o = .returned v ∧ Q_law Z ix h0 n0 v U'.heap L ∧ FrameEnd s o U' L room_1.cells room_1.slots) (s₁.setTop (mkF m 30 #[.val (.int ix), .val (.int ((ix &&& (65535 : Int32)).toUInt32.toUInt16.toUInt32.toInt32)), .val (.int j_e)] [])) := by
    intro j_e hex
    show Go p e below _ (s₁.setTop (mkF m 30 #[.val (.int ix), .val (.int ((ix &&& (65535 : Int32)).toUInt32.toUInt16.toUInt32.toInt32)), .val (.int j_e)] []))
    refine Go.by (fun t k => XS.iloadN X0.here hx rfl (hb hby at_30) rfl k) ?_
    show Go p e below _ (s₁.setTop (mkF m 31 #[.val (.int ix), .val (.int ((ix &&& (65535 : Int32)).toUInt32.toUInt16.toUInt32.toInt32)), .val (.int j_e)] [(.int ((ix &&& (65535 : Int32)).toUInt32.toUInt16.toUInt32.toInt32))]))
    obtain ⟨_, _, ⟨T1, L1, k1, n1⟩, -, X1, ⟨Lc1, hQ1, l1, y1, z1⟩, st1⟩ := Jvm.LawKit.callS X0 hx (y := (⟨"com/example/corpus_search/corpussearch/collection/LineReader", "isAsciiWhiteSpace", "(C)Z"⟩ : MethodName)) hown (mvT hZ (hw _ (List.mem_of_getElem? (i := 1) rfl))) (mvT hZ (hw _ (List.mem_of_getElem? (i := 2) rfl))) (mvT hZ (hw _ (List.mem_of_getElem? (i := 3) rfl))) (mvT hZ (hw _ (List.mem_of_getElem? (i := 4) rfl))) (by decide) (backOf (W := 0) (isWs l Z a0 hw [] ((ix &&& (65535 : Int32)).toUInt32.toUInt16.toUInt32.toInt32) h0 n0 O0) hZ (hw _ (List.mem_of_getElem? (i := 4) rfl)) (hw _ (List.mem_of_getElem? (i := 3) rfl)) (by decide) (by decide)) (g := (mkF m 31 #[.val (.int ix), .val (.int ((ix &&& (65535 : Int32)).toUInt32.toUInt16.toUInt32.toInt32)), .val (.int j_e)] [(.int ((ix &&& (65535 : Int32)).toUInt32.toUInt16.toUInt32.toInt32))])) rfl (by rw [hml]; rfl) (argsL := [(.int ((ix &&& (65535 : Int32)).toUInt32.toUInt16.toUInt32.toInt32))]) (rest := []) (lenOf pd_0 rfl) rfl (by show 2 * 0 + _ ≤ _; exact Nat.le_of_eq rfl) (hb hby at_31) (fun _ _ => ⟨rfl, e0, (by decide : 0 + 0 ≤ _), (by decide : 0 + 0 ≤ _)⟩)
    dsimp only [Pt.U, Pt.locs, Pt.cells, Pt.slots] at X1 l1 y1 z1 st1 hQ1
    subst l1 y1 z1
    obtain ⟨rfl, N1q, e1⟩ := hQ1
    have N1 := Fr.app N0 N1q
    refine Go.by st1 ?_
    show Go p e below _ (T1.setTop (mkF m 34 #[.val (.int ix), .val (.int ((ix &&& (65535 : Int32)).toUInt32.toUInt16.toUInt32.toInt32)), .val (.int j_e)] [(.int (own_ws ((ix &&& (65535 : Int32)).toUInt32.toUInt16.toUInt32.toInt32)))]))
    refine Go.by (fun t k => XS.iloadN X1.here hx rfl (hb hby at_34) rfl k) ?_
    show Go p e below _ (T1.setTop (mkF m 35 #[.val (.int ix), .val (.int ((ix &&& (65535 : Int32)).toUInt32.toUInt16.toUInt32.toInt32)), .val (.int j_e)] [(.int j_e), (.int (own_ws ((ix &&& (65535 : Int32)).toUInt32.toUInt16.toUInt32.toInt32)))]))
    refine Go.by (fun t k => XS.icmpNo X1.here hx rfl (hb hby at_35) rfl (teq hex.symm).2 k) ?_
    show Go p e below _ (T1.setTop (mkF m 38 #[.val (.int ix), .val (.int ((ix &&& (65535 : Int32)).toUInt32.toUInt16.toUInt32.toInt32)), .val (.int j_e)] []))
    refine Go.by (fun t k => XS.iconst X1.here hx rfl (hb hby at_38) k) ?_
    show Go p e below _ (T1.setTop (mkF m 39 #[.val (.int ix), .val (.int ((ix &&& (65535 : Int32)).toUInt32.toUInt16.toUInt32.toInt32)), .val (.int j_e)] [(.int (1 : Int32))]))
    refine Go.by (fun t k => XS.goto X1.here hx rfl (pc0 := 39) (pc' := 43) rfl (hb hby at_39) (by decide) (by decide) k) ?_
    show Go p e below _ (T1.setTop (mkF m 43 #[.val (.int ix), .val (.int ((ix &&& (65535 : Int32)).toUInt32.toUInt16.toUInt32.toInt32)), .val (.int j_e)] [(.int (1 : Int32))]))
    have hq : Q_law Z ix h0 n0 (some (.int (nar .boolean (1 : Int32)))) h0 _ := ⟨rfl, N1, (Keep.refl h0 [])⟩
    exact Go.retN X1 hx (t := .boolean) Bd.returns (by simp) hlk (hb hby at_43) (by decide) (by decide) (by rw [e1]; exact hq)
  by_cases hc2 : ((ix &&& (65535 : Int32)).toUInt32.toUInt16.toUInt32.toInt32) < (9 : Int32)
  · skip
    refine Go.by (fun t k => XS.icmpYes X0.here hx rfl (pc0 := 9) (pc' := 18) rfl (hb hby at_9) rfl (tlt hc2).1 (by decide) (by decide) k) ?_
    show Go p e below _ (s₁.setTop (mkF m 18 #[.val (.int ix), .val (.int ((ix &&& (65535 : Int32)).toUInt32.toUInt16.toUInt32.toInt32)), .unset] []))
    refine Go.by (fun t k => XS.iloadN X0.here hx rfl (hb hby at_18) rfl k) ?_
    show Go p e below _ (s₁.setTop (mkF m 19 #[.val (.int ix), .val (.int ((ix &&& (65535 : Int32)).toUInt32.toUInt16.toUInt32.toInt32)), .unset] [(.int ((ix &&& (65535 : Int32)).toUInt32.toUInt16.toUInt32.toInt32))]))
    refine Go.by (fun t k => XS.bipush X0.here hx rfl (hb hby at_19) k) ?_
    show Go p e below _ (s₁.setTop (mkF m 21 #[.val (.int ix), .val (.int ((ix &&& (65535 : Int32)).toUInt32.toUInt16.toUInt32.toInt32)), .unset] [(.int (32 : Int32)), (.int ((ix &&& (65535 : Int32)).toUInt32.toUInt16.toUInt32.toInt32))]))
    by_cases hc3 : ((ix &&& (65535 : Int32)).toUInt32.toUInt16.toUInt32.toInt32) = (32 : Int32)
    · skip
      refine Go.by (fun t k => XS.icmpNo X0.here hx rfl (hb hby at_21) rfl (teq hc3).2 k) ?_
      show Go p e below _ (s₁.setTop (mkF m 24 #[.val (.int ix), .val (.int ((ix &&& (65535 : Int32)).toUInt32.toUInt16.toUInt32.toInt32)), .unset] []))
      refine Go.by (fun t k => XS.iconst X0.here hx rfl (hb hby at_24) k) ?_
      show Go p e below _ (s₁.setTop (mkF m 25 #[.val (.int ix), .val (.int ((ix &&& (65535 : Int32)).toUInt32.toUInt16.toUInt32.toInt32)), .unset] [(.int (1 : Int32))]))
      refine Go.by (fun t k => XS.goto X0.here hx rfl (pc0 := 25) (pc' := 29) rfl (hb hby at_25) (by decide) (by decide) k) ?_
      show Go p e below _ (s₁.setTop (mkF m 29 #[.val (.int ix), .val (.int ((ix &&& (65535 : Int32)).toUInt32.toUInt16.toUInt32.toInt32)), .unset] [(.int (1 : Int32))]))
      refine Go.by (fun t k => XS.istoreN X0.here hx rfl (hb hby at_29) rfl (l' := #[.val (.int ix), .val (.int ((ix &&& (65535 : Int32)).toUInt32.toUInt16.toUInt32.toInt32)), .val (.int (1 : Int32))]) rfl k) ?_
      show Go p e below _ (s₁.setTop (mkF m 30 #[.val (.int ix), .val (.int ((ix &&& (65535 : Int32)).toUInt32.toUInt16.toUInt32.toInt32)), .val (.int (1 : Int32))] []))
      exact J30 _ (by first | exact (own_in _ (by assumption) (by assumption)).symm | exact (own_is _ (by assumption)).symm | exact (own_out _ (Or.inl (by assumption)) (by assumption)).symm | exact (own_out _ (Or.inr (by assumption)) (by assumption)).symm)
    · skip
      refine Go.by (fun t k => XS.icmpYes X0.here hx rfl (pc0 := 21) (pc' := 28) rfl (hb hby at_21) rfl (feq hc3).2 (by decide) (by decide) k) ?_
      show Go p e below _ (s₁.setTop (mkF m 28 #[.val (.int ix), .val (.int ((ix &&& (65535 : Int32)).toUInt32.toUInt16.toUInt32.toInt32)), .unset] []))
      refine Go.by (fun t k => XS.iconst X0.here hx rfl (hb hby at_28) k) ?_
      show Go p e below _ (s₁.setTop (mkF m 29 #[.val (.int ix), .val (.int ((ix &&& (65535 : Int32)).toUInt32.toUInt16.toUInt32.toInt32)), .unset] [(.int (0 : Int32))]))
      refine Go.by (fun t k => XS.istoreN X0.here hx rfl (hb hby at_29) rfl (l' := #[.val (.int ix), .val (.int ((ix &&& (65535 : Int32)).toUInt32.toUInt16.toUInt32.toInt32)), .val (.int (0 : Int32))]) rfl k) ?_
      show Go p e below _ (s₁.setTop (mkF m 30 #[.val (.int ix), .val (.int ((ix &&& (65535 : Int32)).toUInt32.toUInt16.toUInt32.toInt32)), .val (.int (0 : Int32))] []))
      exact J30 _ (by first | exact (own_in _ (by assumption) (by assumption)).symm | exact (own_is _ (by assumption)).symm | exact (own_out _ (Or.inl (by assumption)) (by assumption)).symm | exact (own_out _ (Or.inr (by assumption)) (by assumption)).symm)
  · skip
    refine Go.by (fun t k => XS.icmpNo X0.here hx rfl (hb hby at_9) rfl (flt hc2).1 k) ?_
    show Go p e below _ (s₁.setTop (mkF m 12 #[.val (.int ix), .val (.int ((ix &&& (65535 : Int32)).toUInt32.toUInt16.toUInt32.toInt32)), .unset] []))
    refine Go.by (fun t k => XS.iloadN X0.here hx rfl (hb hby at_12) rfl k) ?_
    show Go p e below _ (s₁.setTop (mkF m 13 #[.val (.int ix), .val (.int ((ix &&& (65535 : Int32)).toUInt32.toUInt16.toUInt32.toInt32)), .unset] [(.int ((ix &&& (65535 : Int32)).toUInt32.toUInt16.toUInt32.toInt32))]))
    refine Go.by (fun t k => XS.bipush X0.here hx rfl (hb hby at_13) k) ?_
    show Go p e below _ (s₁.setTop (mkF m 15 #[.val (.int ix), .val (.int ((ix &&& (65535 : Int32)).toUInt32.toUInt16.toUInt32.toInt32)), .unset] [(.int (13 : Int32)), (.int ((ix &&& (65535 : Int32)).toUInt32.toUInt16.toUInt32.toInt32))]))
    by_cases hc4 : (13 : Int32) < ((ix &&& (65535 : Int32)).toUInt32.toUInt16.toUInt32.toInt32)
    · skip
      refine Go.by (fun t k => XS.icmpNo X0.here hx rfl (hb hby at_15) rfl (tlt hc4).2.2.2 k) ?_
      show Go p e below _ (s₁.setTop (mkF m 18 #[.val (.int ix), .val (.int ((ix &&& (65535 : Int32)).toUInt32.toUInt16.toUInt32.toInt32)), .unset] []))
      refine Go.by (fun t k => XS.iloadN X0.here hx rfl (hb hby at_18) rfl k) ?_
      show Go p e below _ (s₁.setTop (mkF m 19 #[.val (.int ix), .val (.int ((ix &&& (65535 : Int32)).toUInt32.toUInt16.toUInt32.toInt32)), .unset] [(.int ((ix &&& (65535 : Int32)).toUInt32.toUInt16.toUInt32.toInt32))]))
      refine Go.by (fun t k => XS.bipush X0.here hx rfl (hb hby at_19) k) ?_
      show Go p e below _ (s₁.setTop (mkF m 21 #[.val (.int ix), .val (.int ((ix &&& (65535 : Int32)).toUInt32.toUInt16.toUInt32.toInt32)), .unset] [(.int (32 : Int32)), (.int ((ix &&& (65535 : Int32)).toUInt32.toUInt16.toUInt32.toInt32))]))
      by_cases hc5 : ((ix &&& (65535 : Int32)).toUInt32.toUInt16.toUInt32.toInt32) = (32 : Int32)
      · skip
        refine Go.by (fun t k => XS.icmpNo X0.here hx rfl (hb hby at_21) rfl (teq hc5).2 k) ?_
        show Go p e below _ (s₁.setTop (mkF m 24 #[.val (.int ix), .val (.int ((ix &&& (65535 : Int32)).toUInt32.toUInt16.toUInt32.toInt32)), .unset] []))
        refine Go.by (fun t k => XS.iconst X0.here hx rfl (hb hby at_24) k) ?_
        show Go p e below _ (s₁.setTop (mkF m 25 #[.val (.int ix), .val (.int ((ix &&& (65535 : Int32)).toUInt32.toUInt16.toUInt32.toInt32)), .unset] [(.int (1 : Int32))]))
        refine Go.by (fun t k => XS.goto X0.here hx rfl (pc0 := 25) (pc' := 29) rfl (hb hby at_25) (by decide) (by decide) k) ?_
        show Go p e below _ (s₁.setTop (mkF m 29 #[.val (.int ix), .val (.int ((ix &&& (65535 : Int32)).toUInt32.toUInt16.toUInt32.toInt32)), .unset] [(.int (1 : Int32))]))
        refine Go.by (fun t k => XS.istoreN X0.here hx rfl (hb hby at_29) rfl (l' := #[.val (.int ix), .val (.int ((ix &&& (65535 : Int32)).toUInt32.toUInt16.toUInt32.toInt32)), .val (.int (1 : Int32))]) rfl k) ?_
        show Go p e below _ (s₁.setTop (mkF m 30 #[.val (.int ix), .val (.int ((ix &&& (65535 : Int32)).toUInt32.toUInt16.toUInt32.toInt32)), .val (.int (1 : Int32))] []))
        exact J30 _ (by first | exact (own_in _ (by assumption) (by assumption)).symm | exact (own_is _ (by assumption)).symm | exact (own_out _ (Or.inl (by assumption)) (by assumption)).symm | exact (own_out _ (Or.inr (by assumption)) (by assumption)).symm)
      · skip
        refine Go.by (fun t k => XS.icmpYes X0.here hx rfl (pc0 := 21) (pc' := 28) rfl (hb hby at_21) rfl (feq hc5).2 (by decide) (by decide) k) ?_
        show Go p e below _ (s₁.setTop (mkF m 28 #[.val (.int ix), .val (.int ((ix &&& (65535 : Int32)).toUInt32.toUInt16.toUInt32.toInt32)), .unset] []))
        refine Go.by (fun t k => XS.iconst X0.here hx rfl (hb hby at_28) k) ?_
        show Go p e below _ (s₁.setTop (mkF m 29 #[.val (.int ix), .val (.int ((ix &&& (65535 : Int32)).toUInt32.toUInt16.toUInt32.toInt32)), .unset] [(.int (0 : Int32))]))
        refine Go.by (fun t k => XS.istoreN X0.here hx rfl (hb hby at_29) rfl (l' := #[.val (.int ix), .val (.int ((ix &&& (65535 : Int32)).toUInt32.toUInt16.toUInt32.toInt32)), .val (.int (0 : Int32))]) rfl k) ?_
        show Go p e below _ (s₁.setTop (mkF m 30 #[.val (.int ix), .val (.int ((ix &&& (65535 : Int32)).toUInt32.toUInt16.toUInt32.toInt32)), .val (.int (0 : Int32))] []))
        exact J30 _ (by first | exact (own_in _ (by assumption) (by assumption)).symm | exact (own_is _ (by assumption)).symm | exact (own_out _ (Or.inl (by assumption)) (by assumption)).symm | exact (own_out _ (Or.inr (by assumption)) (by assumption)).symm)
    · skip
      refine Go.by (fun t k => XS.icmpYes X0.here hx rfl (pc0 := 15) (pc' := 24) rfl (hb hby at_15) rfl (flt hc4).2.2.2 (by decide) (by decide) k) ?_
      show Go p e below _ (s₁.setTop (mkF m 24 #[.val (.int ix), .val (.int ((ix &&& (65535 : Int32)).toUInt32.toUInt16.toUInt32.toInt32)), .unset] []))
      refine Go.by (fun t k => XS.iconst X0.here hx rfl (hb hby at_24) k) ?_
      show Go p e below _ (s₁.setTop (mkF m 25 #[.val (.int ix), .val (.int ((ix &&& (65535 : Int32)).toUInt32.toUInt16.toUInt32.toInt32)), .unset] [(.int (1 : Int32))]))
      refine Go.by (fun t k => XS.goto X0.here hx rfl (pc0 := 25) (pc' := 29) rfl (hb hby at_25) (by decide) (by decide) k) ?_
      show Go p e below _ (s₁.setTop (mkF m 29 #[.val (.int ix), .val (.int ((ix &&& (65535 : Int32)).toUInt32.toUInt16.toUInt32.toInt32)), .unset] [(.int (1 : Int32))]))
      refine Go.by (fun t k => XS.istoreN X0.here hx rfl (hb hby at_29) rfl (l' := #[.val (.int ix), .val (.int ((ix &&& (65535 : Int32)).toUInt32.toUInt16.toUInt32.toInt32)), .val (.int (1 : Int32))]) rfl k) ?_
      show Go p e below _ (s₁.setTop (mkF m 30 #[.val (.int ix), .val (.int ((ix &&& (65535 : Int32)).toUInt32.toUInt16.toUInt32.toInt32)), .val (.int (1 : Int32))] []))
      exact J30 _ (by first | exact (own_in _ (by assumption) (by assumption)).symm | exact (own_is _ (by assumption)).symm | exact (own_out _ (Or.inl (by assumption)) (by assumption)).symm | exact (own_out _ (Or.inr (by assumption)) (by assumption)).symm)
set_option maxRecDepth 65536 in
set_option maxHeartbeats 40000000 in
theorem comes_1 {Post : Tables → Env → Array Value → State → Outcome → State → Prop} (hpost : ∀ tb e args s v u, (limb_1_1.after args s (.returned v) u = true ∧ limb_1_2.after args s (.returned v) u = true ∧ True) → FrameEnd s (.returned v) u (Jvm.fieldLocs frame_1_writes args s ++ Jvm.arrayLocs frame_1_arrays args s ++ Jvm.staticLocs frame_1_statics s) 0 0 → Post tb e args s (.returned v) u) :
    ArmFor flags0 classFile x code maxLocals ret World_1 tables_1 room_1 Calls_1 rest_1 Pre_1 Post := by
  intro l hfl _ _ p e ha hc hk s m args below hf hA hF happ hP
  obtain ⟨hcalls, hrest, hpre⟩ := hP
  obtain ⟨-, -, -, hnamed, -, -, -, hat⟩ := (Spec.applies_iff hf).mp happ
  obtain ⟨hg, hn⟩ := and_e (Cond.before_iff.mp (show (Jvm.Cond.and given_1 narrow_1).before args s = true from hpre))
  obtain ⟨hcnt, hv0⟩ := and_e hg
  obtain ⟨w0, rfl⟩ : ∃ w0 : Value, args = #[w0] := by
    have hs : args.size = 1 := by simpa [Cond.value, given_1] using hcnt
    obtain ⟨L⟩ := args
    match L, hs with
    | [w0], _ => exact ⟨w0, rfl⟩
  have hw := fun d (hd : d ∈ tables_1) => atoms_spec (ws := Jvm.Cond.code x code maxLocals ret :: tables_1) hat d (List.mem_cons_of_mem _ hd)
  have hfit : Fit s := fun {y c} hc i hi => by
    obtain ⟨ha, rfl⟩ := Array.getElem?_eq_some_iff.mp hc
    have q := List.all_eq_true.mp ((Array.all_eq_true_iff_forall_mem.mp hF) _ (Array.getElem_mem ha)) i (List.mem_range.mpr hi)
    simpa [Array.getElem?_eq_getElem hi] using q
  obtain ⟨i0, ei0⟩ := is_v hv0
  obtain rfl : w0 = (.int i0) := Option.some.inj ei0
  obtain ⟨n, o, h1, h2, h3, _, L, rfl, ⟨rfl, N, -⟩, hq⟩ := law l s _ hw tables_1 i0  s.heap s.heap.size (Old.start s)  p e ha hc hk s m _ below hf ((Spec.applies_iff_loose hf).mp happ).1 ⟨rfl, State.Warmed39.refl s, rfl⟩ trivial
  refine ⟨n, _, h1, h2, h3, hpost _ _ _ _ _ _ ⟨Cond.after_iff.mpr rfl, Cond.after_iff.mpr (eq_i res_at (Term.int_eval (1)) rfl), trivial⟩ ⟨hq.1, hq.2.1, (hq.2.2.sift fun y hy => Or.inr (N y hy)).mono (by decide) (by decide)⟩⟩
theorem main_1_1 : Claimed_1_1 := comes_1 fun _ _ _ _ _ _ h hF => ⟨h.1, hF⟩
theorem main_1_2 : Claimed_1_2 := comes_1 fun _ _ _ _ _ _ h hF => ⟨h.2.1, hF⟩
end Jvm.Pilot.@@N@@
namespace Jvm.Pilot.@@N@@
open Jvm Jvm.ClassFile Sem Op Lib Jvm.Free Jvm.Stand Jvm.Pilot.@@N@@.Jvm.D
/-! MADE BY PROGRAM (witnessworld.py) out of the Statement's table words and the real class files: 11 classes; the members and pool entries that the words name. The judged class is class 1, her method 1. -/
namespace start1
open Jvm.ClassFile
def u (s : String) : CpInfo := .utf8 (stringToUtf16 s)
/-- a pool by its gaps: so many unusable entries, then the entry; so many at the end -/
def gap : Nat → List CpInfo → List CpInfo
  | 0, r => r
  | n + 1, r => .unusable :: gap n r
def poolList (es : List (Nat × CpInfo)) (last : Nat) : List CpInfo := es.foldr (fun e r => gap e.1 (e.2 :: r)) (gap last [])
def pool (es : List (Nat × CpInfo)) (last : Nat) : Array CpInfo := ⟨poolList es last⟩
def fileOf (pool : Array CpInfo) (this : Nat) (attrs : Array Attribute := #[]) (ms : Array MethodInfo := #[]) (fl : Nat := 33) (sup : Nat := 0) (ifs : Array Nat := #[]) (fds : Array FieldInfo := #[]) : ClassFile where
  minorVersion := 0
  majorVersion := 65
  constantPool := pool
  accessFlags := fl
  thisClass := this
  superClass := sup
  interfaces := ifs
  fields := fds
  methods := ms
  attributes := attrs
def plain (name : String) (sup : Option ClassId) : Class where
  name := name
  kind := .ordinary
  loader := none
  accessFlags := 33
  super := sup
  interfaces := #[]
  cf := none
  fields := #[]
  methods := #[]
  instanceTypes := #[]
  staticTypes := #[]
  resolved := #[]
  callSites := []
  init := .initialized
  statics := none
  mirror := none

def pool0 : Array CpInfo := pool [(5, u "<init>"), (0, u "()V"), (1, .class_ 10), (1, u "java/lang/Object")] 113

def k0m0 : Method := { name := "<init>", desc := "()V", sig := { parameters := [], returnType := none }, accessFlags := 1, code := none }
/-- java/lang/Object -/
def k0 : Class := { plain "java/lang/Object" none with
  accessFlags := 33
  interfaces := #[]
  cf := some (fileOf pool0 8 #[] #[{ accessFlags := 1, nameIndex := 5, descriptorIndex := 6, attributes := #[] }] 33 0 #[] #[])
  fields := #[]
  methods := #[k0m0]
  instanceTypes := #[]
  staticTypes := #[]
  resolved := Array.replicate 124 none
  statics := none }

def pool1 : Array CpInfo := pool [(2, .class_ 4), (1, u "java/lang/Object"), (0, u "<init>"), (0, u "()V"), (0, .integer 65535), (0, .methodref 9 10), (0, .class_ 11), (0, .nameAndType 12 13), (0, u "com/example/corpus_search/corpussearch/collection/LineReader"), (0, u "isAsciiWhiteSpace"), (0, u "(C)Z"), (0, .class_ 15), (0, u "com/example/corpus_search/corpussearch/collection/LineReaderIsAsciiWhiteSpacePinLaw"), (2, u "law"), (0, u "(I)Z")] 3

def k1m0 : Method := { name := "<init>", desc := "()V", sig := { parameters := [], returnType := none }, accessFlags := 2, code := none }
def k1c1 : Code := { maxStack := 2, maxLocals := 3, code := code, exceptionTable := #[], attributes := #[] }
def k1m1 : Method := { name := "law", desc := "(I)Z", sig := { parameters := [.int], returnType := some .boolean }, accessFlags := 9, code := some k1c1 }
/-- com/example/corpus_search/corpussearch/collection/LineReaderIsAsciiWhiteSpacePinLaw -/
def k1 : Class := { plain "com/example/corpus_search/corpussearch/collection/LineReaderIsAsciiWhiteSpacePinLaw" (some 0) with
  accessFlags := 49
  interfaces := #[]
  cf := some (fileOf pool1 14 #[] #[{ accessFlags := 2, nameIndex := 5, descriptorIndex := 6, attributes := #[] }, { accessFlags := 9, nameIndex := 18, descriptorIndex := 19, attributes := #[] }] 49 2 #[] #[])
  fields := #[]
  methods := #[k1m0, k1m1]
  instanceTypes := #[]
  staticTypes := #[]
  resolved := Array.replicate 23 none
  statics := none }

def pool2 : Array CpInfo := pool [(1, .class_ 2), (0, u "java/lang/AutoCloseable"), (0, .class_ 4), (0, u "java/lang/Object")] 7

/-- java/lang/AutoCloseable -/
def k2 : Class := { plain "java/lang/AutoCloseable" (some 0) with
  accessFlags := 1537
  interfaces := #[]
  cf := some (fileOf pool2 1 #[] #[] 1537 3 #[] #[])
  fields := #[]
  methods := #[]
  instanceTypes := #[]
  staticTypes := #[]
  resolved := Array.replicate 12 none
  statics := none }

def pool3 : Array CpInfo := pool [(1, .class_ 2), (0, u "java/io/Closeable"), (0, .class_ 4), (0, u "java/lang/Object"), (0, .class_ 6), (0, u "java/lang/AutoCloseable")] 7

/-- java/io/Closeable -/
def k3 : Class := { plain "java/io/Closeable" (some 0) with
  accessFlags := 1537
  interfaces := #[2]
  cf := some (fileOf pool3 1 #[] #[] 1537 3 #[5] #[])
  fields := #[]
  methods := #[]
  instanceTypes := #[]
  staticTypes := #[]
  resolved := Array.replicate 14 none
  statics := none }

def pool4 : Array CpInfo := pool [(2, .class_ 4), (1, u "java/lang/Object"), (15, .class_ 22), (1, u "com/example/corpus_search/corpussearch/collection/LineReader"), (0, u "strict"), (0, u "Ljava/nio/charset/CharsetDecoder;"), (17, u "replacing"), (2, u "in"), (0, u "Ljava/io/BufferedReader;"), (20, u "line"), (0, u "I"), (10, u "malformed"), (0, u "Z"), (39, u "isAsciiWhiteSpace"), (0, u "(C)Z"), (0, .class_ 123), (0, u "java/io/Closeable")] 12

def k4c0 : Code := { maxStack := 2, maxLocals := 1, code := prog_27_method_6_code, exceptionTable := #[], attributes := #[] }
def k4m0 : Method := { name := "isAsciiWhiteSpace", desc := "(C)Z", sig := { parameters := [.char], returnType := some .boolean }, accessFlags := 9, code := some k4c0 }
/-- com/example/corpus_search/corpussearch/collection/LineReader -/
def k4 : Class := { plain "com/example/corpus_search/corpussearch/collection/LineReader" (some 0) with
  accessFlags := 49
  interfaces := #[3]
  cf := some (fileOf pool4 20 #[] #[{ accessFlags := 9, nameIndex := 120, descriptorIndex := 121, attributes := #[] }] 49 2 #[122] #[{ accessFlags := 18, nameIndex := 45, descriptorIndex := 46, attributes := #[] }, { accessFlags := 18, nameIndex := 23, descriptorIndex := 24, attributes := #[] }, { accessFlags := 18, nameIndex := 42, descriptorIndex := 24, attributes := #[] }, { accessFlags := 2, nameIndex := 67, descriptorIndex := 68, attributes := #[] }, { accessFlags := 2, nameIndex := 79, descriptorIndex := 80, attributes := #[] }])
  fields := #[{ name := "in", type := (.object "java/io/BufferedReader"), accessFlags := 18, slot := 0, constantValue := 0 }, { name := "strict", type := (.object "java/nio/charset/CharsetDecoder"), accessFlags := 18, slot := 1, constantValue := 0 }, { name := "replacing", type := (.object "java/nio/charset/CharsetDecoder"), accessFlags := 18, slot := 2, constantValue := 0 }, { name := "line", type := .int, accessFlags := 2, slot := 3, constantValue := 0 }, { name := "malformed", type := .boolean, accessFlags := 2, slot := 4, constantValue := 0 }]
  methods := #[k4m0]
  instanceTypes := #[(.object "java/io/BufferedReader"), (.object "java/nio/charset/CharsetDecoder"), (.object "java/nio/charset/CharsetDecoder"), .int, .boolean]
  staticTypes := #[]
  resolved := Array.replicate 136 none
  statics := none }

def pool5 : Array CpInfo := pool [(1, u "java/lang/Cloneable"), (0, .class_ 1), (0, u "java/lang/Object"), (0, .class_ 3)] 3

/-- java/lang/Cloneable -/
def k5 : Class := { plain "java/lang/Cloneable" (some 0) with
  accessFlags := 1537
  interfaces := #[]
  cf := some (fileOf pool5 2 #[] #[] 1537 4 #[] #[])
  fields := #[]
  methods := #[]
  instanceTypes := #[]
  staticTypes := #[]
  resolved := Array.replicate 8 none
  statics := none }

def pool6 : Array CpInfo := pool [(1, u "java/io/Serializable"), (0, .class_ 1), (0, u "java/lang/Object"), (0, .class_ 3)] 3

/-- java/io/Serializable -/
def k6 : Class := { plain "java/io/Serializable" (some 0) with
  accessFlags := 1537
  interfaces := #[]
  cf := some (fileOf pool6 2 #[] #[] 1537 4 #[] #[])
  fields := #[]
  methods := #[]
  instanceTypes := #[]
  staticTypes := #[]
  resolved := Array.replicate 8 none
  statics := none }

/-- the primitive byte -/
def k7 : Class := { plain "byte" none with kind := .primitive 'B', accessFlags := 0x411 }
/-- [B -/
def k8 : Class := { plain "[B" (some 0) with kind := .array 7 .byte, interfaces := #[5, 6], accessFlags := 1041 }

/-- the primitive int -/
def k9 : Class := { plain "int" none with kind := .primitive 'I', accessFlags := 0x411 }
/-- [I -/
def k10 : Class := { plain "[I" (some 0) with kind := .array 9 .int, interfaces := #[5, 6], accessFlags := 1041 }

def heap : Heap := #[]
def classes : Array Class := #[k0, k1, k2, k3, k4, k5, k6, k7, k8, k9, k10]
def interned : List (Array UInt16 × Addr) := []
def slotsUsed : Nat := 0
def theMethod : MethodId := ⟨1, 1⟩
def args0 : Array Value := #[.int 5]
def aboutOver (below : List Frame) : State where
  vm := { classes := classes, interned := interned.toArray }
  heap := heap
  slotsUsed := slotsUsed
  threads := #[{ frames := .invoking theMethod args0 :: below }]
def below0 : List Frame := [.native { method := ⟨0, 0⟩, args := #[] }]
def about1 : State := aboutOver below0
def p0 : Program := .bare "" "" ""
def e0 : Env := launch0.env 0 0 0
theorem w_frames : about1.frames = Frame.invoking theMethod args0 :: below0 := rfl
set_option maxRecDepth 65536 in
theorem w_args : argsFit about1.vm theMethod args0 = true := by decide +kernel
set_option maxRecDepth 65536 in
theorem w_heap : heapFits about1 = true := by decide +kernel
set_option maxRecDepth 65536 in
theorem w_runnable : about1.curStatus? = some .runnable := by decide +kernel
set_option maxRecDepth 65536 in
theorem w_alone : about1.alone = true := by decide +kernel
set_option maxRecDepth 65536 in
theorem w_named : about1.methodNamed? x = some theMethod := by decide +kernel
set_option maxRecDepth 65536 in
theorem w_hears : about1.hears theMethod below0 = true := by decide +kernel
set_option maxRecDepth 65536 in
theorem w_ripe : about1.ripe theMethod args0 below0 = true := by decide +kernel
theorem w_running : about1.status = .running := rfl
set_option maxRecDepth 65536 in
theorem w_room : about1.hasRoom e0.platform room_1 = true :=
  launch0.hasRoom_least _ room_1 (by decide +kernel) (by decide +kernel) (by decide +kernel) (by decide +kernel) (by decide +kernel) (by decide +kernel)
theorem allAtoms_all (ts : List Jvm.Cond) (a : Array Jvm.Value) (st : Jvm.State) : (allAtoms ts).before a st = ts.all (fun c => c.before a st) := by
  induction ts with
  | nil => rfl
  | cons c t ih =>
    show (Jvm.Cond.and c (allAtoms t)).before a st = _
    rw [Jvm.Cond.before_and, ih, List.all_cons]
def words1 : List Jvm.Cond := Jvm.Cond.code x code maxLocals ret :: tables_1
/-- a 'code' word, met by the world's own term for the bytes: nothing is compared byte by byte -/
theorem code_word {y : MethodName} {bytes : ByteArray} {mx : Nat} {rt : Option FieldType} {a : Array Value} {s : State} {m : MethodId} {meth : Method} {c : Code} (h1 : s.methodNamed? y = some m) (h2 : s.vm.method? m = some meth) (h3 : meth.code = some c) (h4 : c.code = bytes)
    (h5 : (c.maxLocals == mx && c.exceptionTable.isEmpty && decide (c.maxStack ≤ mostOperands) && decide (meth.sig.returnType = rt) && !meth.locks && decide (parseMethodDescriptor y.desc = some meth.sig)) = true) : (Jvm.Cond.code y bytes mx rt).before a s = true := by
  simp only [Bool.and_eq_true, beq_iff_eq, Bool.not_eq_true', decide_eq_true_eq] at h5
  obtain ⟨⟨⟨⟨⟨g1, g2⟩, g3⟩, g4⟩, g5⟩, g6⟩ := h5
  simp [Cond.before, Cond.holds, Cond.value, h1, h2, h3, h4, g1, g2, g3, g4, g5, g6]
def isCode : Jvm.Cond → Bool
  | .code _ _ _ _ => true
  | _ => false
theorem all_split {L : List Jvm.Cond} {P : Jvm.Cond → Bool} (h1 : L.all (fun c => isCode c || P c) = true) (h2 : ∀ c ∈ L.filter isCode, P c = true) : L.all P = true := by
  refine List.all_eq_true.mpr fun c hc => ?_
  have h := List.all_eq_true.mp h1 c hc
  rcases Bool.eq_false_or_eq_true (isCode c) with hi | hi
  · exact h2 c (List.mem_filter.mpr ⟨hc, hi⟩)
  · simpa [hi] using h
set_option maxRecDepth 65536 in
theorem w_c0 : (Jvm.Cond.code x code maxLocals ret).before args0 about1 = true := code_word (m := ⟨1, 1⟩) (meth := k1m1) (c := k1c1) (by decide +kernel) rfl rfl rfl (by decide +kernel)
set_option maxRecDepth 65536 in
theorem w_c1 : (Jvm.Cond.code ({ cls := "com/example/corpus_search/corpussearch/collection/LineReader", name := "isAsciiWhiteSpace", desc := "(C)Z" } : Jvm.MethodName) prog_27_method_6_code (1 : Nat) (Option.some Jvm.ClassFile.FieldType.boolean)).before args0 about1 = true := code_word (m := ⟨4, 0⟩) (meth := k4m0) (c := k4c0) (by decide +kernel) rfl rfl rfl (by decide +kernel)
def codes1 : List Jvm.Cond := [Jvm.Cond.code x code maxLocals ret, Jvm.Cond.code ({ cls := "com/example/corpus_search/corpussearch/collection/LineReader", name := "isAsciiWhiteSpace", desc := "(C)Z" } : Jvm.MethodName) prog_27_method_6_code (1 : Nat) (Option.some Jvm.ClassFile.FieldType.boolean)]
set_option maxRecDepth 65536 in
theorem codes_eq : words1.filter isCode = codes1 := rfl
theorem w_codes : ∀ c ∈ words1.filter isCode, c.before args0 about1 = true := by
  rw [codes_eq]
  intro c hc
  simp only [codes1, List.mem_cons, List.not_mem_nil, or_false] at hc
  rcases hc with rfl | rfl
  · exact w_c0
  · exact w_c1
set_option maxRecDepth 65536 in
theorem w_t1 : words1.all (fun c => isCode c || c.before args0 about1) = true := by decide +kernel
theorem w_tables : (allAtoms (Jvm.Cond.code x code maxLocals ret :: tables_1)).before args0 about1 = true := by
  rw [allAtoms_all]
  show words1.all (fun c => c.before args0 about1) = true
  refine all_split ?_ w_codes
  rw [w_t1]
set_option maxRecDepth 65536 in
theorem w_case : (Jvm.Cond.and given_1 narrow_1).before args0 about1 = true := by decide +kernel
theorem w_applies : (headSpec (Jvm.Cond.code x code maxLocals ret :: tables_1) room_1).applies x e0.platform about1 = true :=
  (Spec.applies_iff w_frames).mpr ⟨w_running, w_runnable, w_alone, w_named, w_hears, w_ripe, w_room, w_tables⟩
theorem atStart : AtStart classFile x code maxLocals ret World_1 tables_1 room_1 Calls_1 rest_1 Pre_1 launch0 p0 e0 about1 theMethod args0 below0 :=
  ⟨lists_1, trivial, launch0.admits_env _ _ _, launch0.least_env, fairChoices_fair.cas, fairChoices_fair.clock, w_frames, w_args, w_heap, w_applies, trivial, trivial, w_case⟩
end start1
theorem witness_1 : WitnessClaimed_1 := ⟨start1.p0, start1.e0, start1.about1, start1.theMethod, start1.args0, start1.below0, start1.atStart⟩
end Jvm.Pilot.@@N@@
