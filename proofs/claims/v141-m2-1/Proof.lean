import JvmDerived
import JvmDerived.Pilot.@@N@@Statement
import JvmDerived.Pilot.@@N@@Code
set_option linter.unusedVariables false
set_option linter.unusedSimpArgs false
namespace Jvm.RoadKit
open Sem ClassFile Op Lib Jvm.Stand Jvm.Free Jvm.LawKit
section New
variable {p : Program} {l : Launch} {e : Env} {R : Room} {s : State} {m : MethodId} {args : Array Value} {below : List Frame} {meth : Method} {c : Code} {T : State} {locs : List Loc} {cells slots : Nat}
theorem retI (X : Stand p l e R s m args below meth c T locs cells slots) (hx : p.tables.exec = Jvm.exec) {pc : Nat} {Ls : Array Slot} {z : Int32} {rest : List Value} (hret : meth.sig.returnType = some .int) (hd : decode c.code pc = .ok (.ireturn, 1)) {fs : List Frame}
    (hl : ∀ (f : JFrame) (acts : List Action), f.method = m → f.locked = none → f.entered = [] → (doReturn e (T.setTop f) acts (some (.int z))).1 = T.setFrames fs) : Steps p.tables e below (T.setTop (mkF m pc Ls (.int z :: rest))) (T.setFrames fs) := by
  have hm' : T.vm.method? m = some meth := X.method'
  have hn : narrow .int (.int z) = .int z := rfl
  show Steps p.tables e below (T.setTop { method := m, pc := pc, locals := Ls, stack := _ :: rest, locked := none }) _
  jvm_step X.here [X.here.top, hx, hd, hm', hret, hn]
  first | (intro acts; rw [hl _ acts rfl rfl rfl]) | rw [hl _ _ rfl rfl rfl]
  exact Steps.refl _
theorem own_retL (X : Stand p l e R s m args below meth c T locs cells slots) (hx : p.tables.exec = Jvm.exec) {pc : Nat} {Ls : Array Slot} {z : Int64} {rest : List Value} (hret : meth.sig.returnType = some .long) (hd : decode c.code pc = .ok (.lreturn, 1)) {fs : List Frame}
    (hl : ∀ (f : JFrame) (acts : List Action), f.method = m → f.locked = none → f.entered = [] → (doReturn e (T.setTop f) acts (some (.long z))).1 = T.setFrames fs) : Steps p.tables e below (T.setTop (mkF m pc Ls (.long z :: rest))) (T.setFrames fs) := by
  have hm' : T.vm.method? m = some meth := X.method'
  show Steps p.tables e below (T.setTop { method := m, pc := pc, locals := Ls, stack := _ :: rest, locked := none }) _
  jvm_step X.here [X.here.top, hx, hd, hm', hret, narrow]
  first | (intro acts; rw [hl _ acts rfl rfl rfl]) | rw [hl _ _ rfl rfl rfl]
  exact Steps.refl _
theorem own_retA (X : Stand p l e R s m args below meth c T locs cells slots) (hx : p.tables.exec = Jvm.exec) {pc : Nat} {Ls : Array Slot} {v : Value} {t : FieldType} {rest : List Value} (hret : meth.sig.returnType = some t) (ht : t.isReference = true) (hv : v.isRef = true) (hd : decode c.code pc = .ok (.areturn, 1)) {fs : List Frame}
    (hl : ∀ (f : JFrame) (acts : List Action), f.method = m → f.locked = none → f.entered = [] → (doReturn e (T.setTop f) acts (some v)).1 = T.setFrames fs) : Steps p.tables e below (T.setTop (mkF m pc Ls (v :: rest))) (T.setFrames fs) := by
  have hm' : T.vm.method? m = some meth := X.method'
  show Steps p.tables e below (T.setTop { method := m, pc := pc, locals := Ls, stack := v :: rest, locked := none }) _
  rcases ref_cases hv with rfl | ⟨a, rfl⟩
  all_goals
    jvm_step X.here [X.here.top, hx, hd, hm', hret, ht, Value.isRef]
    first | (intro acts; rw [hl _ acts rfl rfl rfl]) | rw [hl _ _ rfl rfl rfl]
    exact Steps.refl _
def Go (p : Program) (e : Env) (below : List Frame) (P : Outcome → State → Prop) (S : State) : Prop := ∃ s₂ o, Steps p.tables e below S s₂ ∧ s₂.status = .running ∧ Ended s₂ below o ∧ P o s₂
variable {P : Outcome → State → Prop}
theorem Go.by {A B : State} (st : ∀ t, Steps p.tables e below B t → Steps p.tables e below A t) (g : Go p e below P B) : Go p e below P A := by
  obtain ⟨u, o, h1, h2⟩ := g; exact ⟨u, o, st _ h1, h2⟩
theorem Go.tr {A B : State} (st : Steps p.tables e below A B) (g : Go p e below P B) : Go p e below P A := by
  obtain ⟨u, o, h1, h2⟩ := g; exact ⟨u, o, st.trans h1, h2⟩
theorem Go.start {f g : JFrame} (q : f = g) (h : Go p e below P (T.setTop g)) : ∃ s₂ o, Steps p.tables e below (T.setTop f) s₂ ∧ s₂.status = .running ∧ Ended s₂ below o ∧ P o s₂ := q ▸ h
variable {Q : Option Value → Heap → List Loc → Prop} {rc rs : Nat}
theorem Go.retI (X : Stand p l e R s m args below meth c T locs cells slots) (hx : p.tables.exec = Jvm.exec) {pc : Nat} {Ls : Array Slot} {z : Int32} {rest : List Value} (hret : meth.sig.returnType = some .int) (hlk : meth.locks = false) (hd : decode c.code pc = .ok (.ireturn, 1)) (hc : cells ≤ rc) (hs : slots ≤ rs) (hq : Q (some (.int z)) T.heap locs) :
    Go p e below (fun o U' => ∃ v L, o = .returned v ∧ Q v U'.heap L ∧ FrameEnd s o U' L rc rs) (T.setTop (mkF m pc Ls (.int z :: rest))) := by
  obtain ⟨fs, hr, hrun, hended, hW, hsame⟩ := X.leave (v := some (.int z)) (fun h => by rw [hret] at h; cases h) hlk
  exact ⟨_, _, RoadKit.retI X hx hret hd hr, hrun, hended, _, _, rfl, hq, ⟨_, rfl⟩, hW, hsame.mono hc hs⟩
theorem Go.retN (X : Stand p l e R s m args below meth c T locs cells slots) (hx : p.tables.exec = Jvm.exec) {pc : Nat} {Ls : Array Slot} {z : Int32} {t : FieldType} {rest : List Value} (hret : meth.sig.returnType = some t) (ht : t = .boolean ∨ t = .byte ∨ t = .char ∨ t = .short) (hlk : meth.locks = false) (hd : decode c.code pc = .ok (.ireturn, 1)) (hc : cells ≤ rc) (hs : slots ≤ rs) (hq : Q (some (.int (nar t z))) T.heap locs) :
    Go p e below (fun o U' => ∃ v L, o = .returned v ∧ Q v U'.heap L ∧ FrameEnd s o U' L rc rs) (T.setTop (mkF m pc Ls (.int z :: rest))) := by
  obtain ⟨fs, hr, hrun, hended, hW, hsame⟩ := X.leave (v := some (.int (nar t z))) (fun h => by rw [hret] at h; cases h) hlk
  exact ⟨_, _, RoadKit.retN X hx hret ht hd hr, hrun, hended, _, _, rfl, hq, ⟨_, rfl⟩, hW, hsame.mono hc hs⟩
theorem Go.retL (X : Stand p l e R s m args below meth c T locs cells slots) (hx : p.tables.exec = Jvm.exec) {pc : Nat} {Ls : Array Slot} {z : Int64} {rest : List Value} (hret : meth.sig.returnType = some .long) (hlk : meth.locks = false) (hd : decode c.code pc = .ok (.lreturn, 1)) (hc : cells ≤ rc) (hs : slots ≤ rs) (hq : Q (some (.long z)) T.heap locs) :
    Go p e below (fun o U' => ∃ v L, o = .returned v ∧ Q v U'.heap L ∧ FrameEnd s o U' L rc rs) (T.setTop (mkF m pc Ls (.long z :: rest))) := by
  obtain ⟨fs, hr, hrun, hended, hW, hsame⟩ := X.leave (v := some (.long z)) (fun h => by rw [hret] at h; cases h) hlk
  exact ⟨_, _, own_retL X hx hret hd hr, hrun, hended, _, _, rfl, hq, ⟨_, rfl⟩, hW, hsame.mono hc hs⟩
theorem Go.retA (X : Stand p l e R s m args below meth c T locs cells slots) (hx : p.tables.exec = Jvm.exec) {pc : Nat} {Ls : Array Slot} {v : Value} {t : FieldType} {rest : List Value} (hret : meth.sig.returnType = some t) (ht : t.isReference = true) (hv : v.isRef = true) (hlk : meth.locks = false) (hd : decode c.code pc = .ok (.areturn, 1)) (hc : cells ≤ rc) (hs : slots ≤ rs) (hq : Q (some v) T.heap locs) :
    Go p e below (fun o U' => ∃ v L, o = .returned v ∧ Q v U'.heap L ∧ FrameEnd s o U' L rc rs) (T.setTop (mkF m pc Ls (v :: rest))) := by
  obtain ⟨fs, hr, hrun, hended, hW, hsame⟩ := X.leave (v := some v) (fun h => by rw [hret] at h; cases h) hlk
  exact ⟨_, _, own_retA X hx hret ht hv hd hr, hrun, hended, _, _, rfl, hq, ⟨_, rfl⟩, hW, hsame.mono hc hs⟩
theorem Go.ret0 (X : Stand p l e R s m args below meth c T locs cells slots) (hx : p.tables.exec = Jvm.exec) {pc : Nat} {Ls : Array Slot} (hret : meth.sig.returnType = none) (hlk : meth.locks = false) (hd : decode c.code pc = .ok (.return_, 1)) (hc : cells ≤ rc) (hs : slots ≤ rs) (hq : Q none T.heap locs) :
    Go p e below (fun o U' => ∃ v L, o = .returned v ∧ Q v U'.heap L ∧ FrameEnd s o U' L rc rs) (T.setTop (mkF m pc Ls [])) := by
  obtain ⟨fs, hr, hrun, hended, hW, hsame⟩ := X.leave (v := none) (fun _ => rfl) hlk
  exact ⟨_, _, X.returnOut hx hret hd hr, hrun, hended, _, _, rfl, hq, ⟨_, rfl⟩, hW, hsame.mono hc hs⟩
section Wide
variable {vm₁ : Vm} {kS : Nat}
theorem Go.retIW (hS : s.Since vm₁ kS) (hn : kS ≤ T.heap.size) (X : Stand p l e R (s.setVm vm₁) m args below meth c T locs cells slots) (hx : p.tables.exec = Jvm.exec) {pc : Nat} {Ls : Array Slot} {z : Int32} {rest : List Value} (hret : meth.sig.returnType = some .int) (hlk : meth.locks = false) (hd : decode c.code pc = .ok (.ireturn, 1)) (hc : cells ≤ rc) (hs : slots ≤ rs) (hq : Q (some (.int z)) T.heap locs) :
    Go p e below (fun o U' => ∃ v L, o = .returned v ∧ Q v U'.heap L ∧ ReturnedEndW s o U' L rc rs) (T.setTop (mkF m pc Ls (.int z :: rest))) := by
  obtain ⟨fs, hr, hrun, hended, w1, w2, w3, w4⟩ := X.leaveW hS hn (v := some (.int z)) (fun h => by rw [hret] at h; cases h) hlk
  exact ⟨_, _, RoadKit.retI X hx hret hd hr, hrun, hended, _, _, rfl, hq, w1, w2, w3, w4.mono hc hs⟩
theorem Go.retNW (hS : s.Since vm₁ kS) (hn : kS ≤ T.heap.size) (X : Stand p l e R (s.setVm vm₁) m args below meth c T locs cells slots) (hx : p.tables.exec = Jvm.exec) {pc : Nat} {Ls : Array Slot} {z : Int32} {t : FieldType} {rest : List Value} (hret : meth.sig.returnType = some t) (ht : t = .boolean ∨ t = .byte ∨ t = .char ∨ t = .short) (hlk : meth.locks = false) (hd : decode c.code pc = .ok (.ireturn, 1)) (hc : cells ≤ rc) (hs : slots ≤ rs) (hq : Q (some (.int (nar t z))) T.heap locs) :
    Go p e below (fun o U' => ∃ v L, o = .returned v ∧ Q v U'.heap L ∧ ReturnedEndW s o U' L rc rs) (T.setTop (mkF m pc Ls (.int z :: rest))) := by
  obtain ⟨fs, hr, hrun, hended, w1, w2, w3, w4⟩ := X.leaveW hS hn (v := some (.int (nar t z))) (fun h => by rw [hret] at h; cases h) hlk
  exact ⟨_, _, RoadKit.retN X hx hret ht hd hr, hrun, hended, _, _, rfl, hq, w1, w2, w3, w4.mono hc hs⟩
theorem Go.retAW (hS : s.Since vm₁ kS) (hn : kS ≤ T.heap.size) (X : Stand p l e R (s.setVm vm₁) m args below meth c T locs cells slots) (hx : p.tables.exec = Jvm.exec) {pc : Nat} {Ls : Array Slot} {v : Value} {t : FieldType} {rest : List Value} (hret : meth.sig.returnType = some t) (ht : t.isReference = true) (hv : v.isRef = true) (hlk : meth.locks = false) (hd : decode c.code pc = .ok (.areturn, 1)) (hc : cells ≤ rc) (hs : slots ≤ rs) (hq : Q (some v) T.heap locs) :
    Go p e below (fun o U' => ∃ v L, o = .returned v ∧ Q v U'.heap L ∧ ReturnedEndW s o U' L rc rs) (T.setTop (mkF m pc Ls (v :: rest))) := by
  obtain ⟨fs, hr, hrun, hended, w1, w2, w3, w4⟩ := X.leaveW hS hn (v := some v) (fun h => by rw [hret] at h; cases h) hlk
  exact ⟨_, _, own_retA X hx hret ht hv hd hr, hrun, hended, _, _, rfl, hq, w1, w2, w3, w4.mono hc hs⟩
theorem Go.ret0W (hS : s.Since vm₁ kS) (hn : kS ≤ T.heap.size) (X : Stand p l e R (s.setVm vm₁) m args below meth c T locs cells slots) (hx : p.tables.exec = Jvm.exec) {pc : Nat} {Ls : Array Slot} (hret : meth.sig.returnType = none) (hlk : meth.locks = false) (hd : decode c.code pc = .ok (.return_, 1)) (hc : cells ≤ rc) (hs : slots ≤ rs) (hq : Q none T.heap locs) :
    Go p e below (fun o U' => ∃ v L, o = .returned v ∧ Q v U'.heap L ∧ ReturnedEndW s o U' L rc rs) (T.setTop (mkF m pc Ls [])) := by
  obtain ⟨fs, hr, hrun, hended, w1, w2, w3, w4⟩ := X.leaveW hS hn (v := none) (fun _ => rfl) hlk
  exact ⟨_, _, X.returnOut hx hret hd hr, hrun, hended, _, _, rfl, hq, w1, w2, w3, w4.mono hc hs⟩
end Wide
section Held
variable {vm₁ : Vm} {kS : Nat} {Z : State} {a0 : Array Value} {EL : List (String × Nat)} {h0 h h' : Heap} {vm0 : Vm}
theorem own_chE (A : CHr Z EL vm₁ h0 vm0 h) (E : Ext h h') : CHr Z EL vm₁ h0 vm0 h' := A.trans (CHr.ext E A.1)
theorem own_chW {a : Addr} {sl : Nat} {v : Value} (A : CHr Z EL vm₁ h0 vm0 h) (W : Wr h h' a sl v) (S : Safe Z EL vm0 h a) : CHr Z EL vm₁ h0 vm0 h' := A.trans (CHr.wr W S A.1)
theorem own_chK {ws : List Addr} (A : CHr Z EL vm₁ h0 vm0 h) (K : Keep h h' ws) (S : ∀ x ∈ ws, Safe Z EL vm0 h x) : CHr Z EL vm₁ h0 vm0 h' := A.trans (CHr.keep K S A.1)
theorem own_chEnd (X : Stand p l e R (s.setVm vm₁) m args below meth c T locs cells slots) (eT : T.heap = h) (hZ : Z.Warmed39 vm₁) (hEL : EW Z a0 EL) (A : CHr Z EL s.vm h0 vm₁ h) (hh : s.heap = h0) : CHr Z EL s.vm s.heap T.vm T.heap := by
  rw [eT, hh]; exact A.trans (CHv.at X hZ hEL A.1)
theorem Go.retNH (hS : s.Since vm₁ kS) (hn : kS ≤ T.heap.size) (hC : CHr Z EL s.vm s.heap T.vm T.heap) (X : Stand p l e R (s.setVm vm₁) m args below meth c T locs cells slots) (hx : p.tables.exec = Jvm.exec) {pc : Nat} {Ls : Array Slot} {z : Int32} {t : FieldType} {rest : List Value} (hret : meth.sig.returnType = some t) (ht : t = .boolean ∨ t = .byte ∨ t = .char ∨ t = .short) (hlk : meth.locks = false) (hd : decode c.code pc = .ok (.ireturn, 1)) (hc : cells ≤ rc) (hs : slots ≤ rs) (hq : Q (some (.int (nar t z))) T.heap locs) :
    Go p e below (fun o U' => ∃ v L, o = .returned v ∧ Q v U'.heap L ∧ CHr Z EL s.vm s.heap U'.vm U'.heap ∧ ReturnedEndW s o U' L rc rs) (T.setTop (mkF m pc Ls (.int z :: rest))) := by
  obtain ⟨fs, hr, hrun, hended, w1, w2, w3, w4⟩ := X.leaveW hS hn (v := some (.int (nar t z))) (fun h => by rw [hret] at h; cases h) hlk
  exact ⟨_, _, RoadKit.retN X hx hret ht hd hr, hrun, hended, _, _, rfl, hq, hC, w1, w2, w3, w4.mono hc hs⟩
theorem Go.retAH (hS : s.Since vm₁ kS) (hn : kS ≤ T.heap.size) (hC : CHr Z EL s.vm s.heap T.vm T.heap) (X : Stand p l e R (s.setVm vm₁) m args below meth c T locs cells slots) (hx : p.tables.exec = Jvm.exec) {pc : Nat} {Ls : Array Slot} {v : Value} {t : FieldType} {rest : List Value} (hret : meth.sig.returnType = some t) (ht : t.isReference = true) (hv : v.isRef = true) (hlk : meth.locks = false) (hd : decode c.code pc = .ok (.areturn, 1)) (hc : cells ≤ rc) (hs : slots ≤ rs) (hq : Q (some v) T.heap locs) :
    Go p e below (fun o U' => ∃ v L, o = .returned v ∧ Q v U'.heap L ∧ CHr Z EL s.vm s.heap U'.vm U'.heap ∧ ReturnedEndW s o U' L rc rs) (T.setTop (mkF m pc Ls (v :: rest))) := by
  obtain ⟨fs, hr, hrun, hended, w1, w2, w3, w4⟩ := X.leaveW hS hn (v := some v) (fun h => by rw [hret] at h; cases h) hlk
  exact ⟨_, _, own_retA X hx hret ht hv hd hr, hrun, hended, _, _, rfl, hq, hC, w1, w2, w3, w4.mono hc hs⟩
theorem Go.ret0H (hS : s.Since vm₁ kS) (hn : kS ≤ T.heap.size) (hC : CHr Z EL s.vm s.heap T.vm T.heap) (X : Stand p l e R (s.setVm vm₁) m args below meth c T locs cells slots) (hx : p.tables.exec = Jvm.exec) {pc : Nat} {Ls : Array Slot} (hret : meth.sig.returnType = none) (hlk : meth.locks = false) (hd : decode c.code pc = .ok (.return_, 1)) (hc : cells ≤ rc) (hs : slots ≤ rs) (hq : Q none T.heap locs) :
    Go p e below (fun o U' => ∃ v L, o = .returned v ∧ Q v U'.heap L ∧ CHr Z EL s.vm s.heap U'.vm U'.heap ∧ ReturnedEndW s o U' L rc rs) (T.setTop (mkF m pc Ls [])) := by
  obtain ⟨fs, hr, hrun, hended, w1, w2, w3, w4⟩ := X.leaveW hS hn (v := none) (fun _ => rfl) hlk
  exact ⟨_, _, X.returnOut hx hret hd hr, hrun, hended, _, _, rfl, hq, hC, w1, w2, w3, w4.mono hc hs⟩
end Held
theorem own_selP {Z : State} {a0 : Array Value} {y : MethodName} {n : Nat} (hZ : Z.Warmed39 s.vm) (wi : (Cond.instantiable y.cls n).before a0 Z = true) (wp : (Cond.privateMethod y).before a0 Z = true) (wm : (Cond.instanceMethod y).before a0 Z = true) (hy : y.cls ≠ "java/lang/invoke/MethodHandle" ∧ y.cls ≠ "java/lang/invoke/VarHandle") : (Cond.selects y.cls y y).before args s = true := by
  obtain ⟨c, k, h1, h2, h3, h4, -⟩ := Cond.instantiable_spec (show (Cond.instantiable y.cls n).before args s = true from mv hZ wi)
  refine selects_self_of_private h1 h2 ?_ (Cond.privateMethod_at (mvP (args := args) hZ wp)) (mvT hZ wm) hy
  simp only [Bool.or_eq_false_iff] at h4; exact h4.1
theorem own_NSroot {Z : State} {a0 : Array Value} {O K : String} {n : Nat} (w : (Cond.noSuperclass O).before a0 Z = true) (wk : (Cond.instantiable K n).before a0 Z = true) (hn : O ≠ K) : NS Z O K := by
  obtain ⟨c, k, h1, h2, h3, -, -⟩ := Cond.noSuperclass_spec w
  obtain ⟨t, -, g1, -⟩ := Cond.instantiable_spec wk
  have ne := ids_ne h1 g1 hn
  refine ⟨c, t, h1, g1, fun fuel => ?_⟩
  cases fuel with
  | zero => rfl
  | succ f => simp [Vm.isSubclassAux, ne, h2, h3]
theorem own_NSno {Z : State} {a0 : Array Value} {C S K : String} {n : Nat} (w : (Cond.superclass C S).before a0 Z = true) (wk : (Cond.instantiable K n).before a0 Z = true) (ns : NS Z C K) (hn : C ≠ K) : ∃ c t, Z.vm.findClass C = some c ∧ Z.vm.findClass K = some t ∧ Z.vm.assignable c t = false := by
  obtain ⟨c, t, h0, g0, n3⟩ := ns
  obtain ⟨p, k, kp, h1, h2, h3, h4, h5, -, h7⟩ := Cond.superclass_spec h0 w
  obtain ⟨t', kt, g1, g2, g3, g4, -⟩ := Cond.instantiable_spec wk
  cases g0.symm.trans g1
  simp only [Bool.or_eq_false_iff] at g4
  have ne := ids_ne h0 g0 hn
  refine ⟨c, t, h0, g0, ?_⟩
  show Z.vm.assignableAux (255 + 1) c t = false
  simp [Vm.assignableAux, ne, h2, g2, h5, g3, g4.1, Vm.isSubclass, n3]
theorem own_mr (X : Stand p l e R s m args below meth c T locs cells slots) (C S : Nat) (hc : cells ≤ C) (hs : slots ≤ S) : Stand p l e R s m args below meth c T locs C S := X.more hc hs
theorem own_old_size {Z : State} {n0 : Nat} {h : Heap} (O : Old Z n0 h) : n0 ≤ h.size := by rw [← O.1]; exact O.2.1
theorem own_cat1 {v : Value} (h : v.isRef = true) : v.category = 1 := by rcases ref_cases h with rfl | ⟨_, rfl⟩ <;> rfl
end New
end Jvm.RoadKit
namespace Jvm.Pilot.@@N@@
open Jvm Jvm.ClassFile Sem Op Lib Jvm.Free Jvm.Stand Jvm.LawKit Jvm.RoadKit Bundle Jvm.Pilot.@@N@@.Jvm.D
theorem own_fitb {v : Value} (h : fits .byte v = true) : ∃ b : Int32, v = .int b := by cases v <;> simp_all [fits]
theorem own_nn {j : Int32} (h : 0 ≤ j.toInt) : ¬ j < (0 : Int32) := by
  rw [Int32.lt_iff_toInt_lt]; have e0 : (0 : Int32).toInt = 0 := rfl
  omega
theorem own_nn' {j : Int32} (h : ¬ j < (0 : Int32)) : 0 ≤ j.toInt := by
  rw [Int32.lt_iff_toInt_lt] at h; have e0 : (0 : Int32).toInt = 0 := rfl
  omega
theorem own_ltT {j z : Int32} {k : Nat} (h : j.toInt + (k + 1 : Nat) = z.toInt) : j < z := by rw [Int32.lt_iff_toInt_lt]; omega
theorem own_ltF {j z : Int32} (h : j.toInt + (0 : Nat) = z.toInt) : ¬ j < z := by rw [Int32.lt_iff_toInt_lt]; omega
theorem own_up1 {j z : Int32} {k : Nat} (h0 : 0 ≤ j.toInt) (h : j.toInt + (k + 1 : Nat) = z.toInt) : 0 ≤ (j + (1 : Int32)).toInt ∧ (j + (1 : Int32)).toInt + (k : Nat) = z.toInt := by
  have a := c_iadd j 1; have b := rng32 (j + (1 : Int32)); have c := rng32 z; have e : (1 : Int32).toInt = 1 := rfl
  omega
abbrev own_EL : List (String × Nat) := consts_1
theorem own_sA : ∀ a ∈ Bundle.stringAtoms, a ∈ tables_1 := by decide +kernel
theorem own_EW {Z : State} {a0 : Array Value} (hw : ∀ d ∈ tables_1, d.before a0 Z = true) : EW Z a0 own_EL := EW.cons (hw _ (List.mem_of_getElem? (i := 136) rfl)) (by decide) (EW.cons (hw _ (List.mem_of_getElem? (i := 68) rfl)) (by decide) (EW.cons (hw _ (List.mem_of_getElem? (i := 10) rfl)) (by decide) (EW.cons (hw _ (List.mem_of_getElem? (i := 138) rfl)) (by decide) (EW.nil))))
theorem own_ne0 {args : Array Value} {s : State} {t : Term} {x : Int32} (ht : t.eval args s none [] s = some (.int x)) (h : (Jvm.Cond.not (.eq t (.int 0))).value args s none s [] = some true) : x ≠ (0 : Int32) := by
  intro e; subst e; simp [Cond.value, Term.eval, ht] at h
theorem own_safeNull {Z : State} {EL : List (String × Nat)} {vm : Vm} {h : Heap} {x : Addr} (hal : Z.vm.Alike vm) (E : Exa Z h x "java/lang/String") (F : Fld Z h x "java/lang/String" "value" "[B" .null) : Safe Z EL vm h x := fun Bq => by
  obtain ⟨cell, cf, k, i, f, f1, f2, -, -, -, -, f7⟩ := F
  obtain ⟨p, -, u, a, -, q, -, G, rfl | rfl⟩ := Bq
  · cases (show h[q.sa]? = some q.sC from G.ha).symm.trans f1
    obtain ⟨cS, ⟨⟨-, -, -, ⟨c1, k1, i1, g1, -⟩, -, -, -, v1, -⟩, -⟩, -⟩ := G
    obtain ⟨k3, e3, -⟩ := State.fieldFound?_setVm (s := { Z with heap := h }) hal (show State.fieldFound? { Z with heap := h } _ _ _ = _ from f2)
    have e4 := (show (Wst Z vm h).fieldFound? _ _ _ = _ from e3).symm.trans g1
    simp only [Option.some.injEq, Prod.mk.injEq] at e4
    rw [← e4.2.2.2, f7] at v1
    simp at v1
  · obtain ⟨cell2, k2, e1, her2, e3, -, -⟩ := E
    cases (show h[q.sd]? = some q.SA from G.hd).symm.trans e1
    obtain ⟨cS, -, -, fB, -⟩ := G
    have fB' : vm.findClass "[B" = some q.SA.cls := fB
    rw [hal.findClass] at fB'
    obtain ⟨ka, q1, q2⟩ := Vm.findClass_spec fB'
    obtain ⟨kb, q3, q4⟩ := Vm.findClass_spec her2
    cases q1.symm.trans q3
    exact absurd (q2.symm.trans q4) (by decide)
theorem own_narc {c : Int32} (h : 0 ≤ c.toInt ∧ c.toInt ≤ 255) : nar .char c = c := by
  have a := c_i2c c
  exact Int32.toInt_inj.mp (show c.toUInt32.toUInt16.toUInt32.toInt32.toInt = c.toInt by omega)
theorem own_i2c {c : Int32} (h : 0 ≤ c.toInt ∧ c.toInt ≤ 255) : c.toUInt32.toUInt16.toUInt32.toInt32 = c := own_narc h
theorem own_narn (c : Int32) : nar .char (nar .char c) = nar .char c := by
  have a := c_i2c c; have b := c_i2c (nar .char c)
  have e : (nar .char c) = c.toUInt32.toUInt16.toUInt32.toInt32 := rfl
  rw [e] at b
  exact Int32.toInt_inj.mp (show (c.toUInt32.toUInt16.toUInt32.toInt32).toUInt32.toUInt16.toUInt32.toInt32.toInt = c.toUInt32.toUInt16.toUInt32.toInt32.toInt by omega)
theorem own_47 : nar .char (47 : Int32) = 47 := own_narc (by decide)
theorem own_47r : 0 ≤ (nar .char (47 : Int32)).toInt ∧ (nar .char (47 : Int32)).toInt ≤ 255 := by rw [own_47]; decide
theorem own_nle {c : Int32} (h : 0 ≤ c.toInt ∧ c.toInt ≤ 255) : ¬ (255 : Int32) < c := by
  rw [Int32.lt_iff_toInt_lt]; have e : (255 : Int32).toInt = 255 := rfl
  omega
theorem own_cc {c : Int32} (h : 0 ≤ c.toInt ∧ c.toInt ≤ 255) (ha1 : ¬ c = (47 : Int32)) : 0 ≤ (nar .char (c.toUInt32.toUInt16.toUInt32.toInt32)).toInt ∧ (nar .char (c.toUInt32.toUInt16.toUInt32.toInt32)).toInt ≤ 255 ∧ (nar .char (c.toUInt32.toUInt16.toUInt32.toInt32)).toInt ≠ 47 := by
  rw [own_i2c h, own_narc h]
  exact ⟨h.1, h.2, fun q => ha1 (Int32.toInt_inj.mp q)⟩
theorem own_m255 (x : Int32) : 0 ≤ (x &&& (255 : Int32)).toInt ∧ (x &&& (255 : Int32)).toInt ≤ 255 := by
  have a := c_mask x 255 8 (by decide) (by decide)
  omega
theorem own_m63 (x : Int64) : 0 ≤ (x &&& (63 : Int64)).toInt32.toInt ∧ (x &&& (63 : Int64)).toInt32.toInt ≤ 63 := by
  have a := c_maskL x 63 6 (by decide) (by decide); have b := c_l2i (x &&& (63 : Int64)); have c := rng32 (x &&& (63 : Int64)).toInt32
  omega
def own_lc (b : Int32) : Int32 := nar .char ((b &&& (255 : Int32)).toUInt32.toUInt16.toUInt32.toInt32)
theorem own_shr0 (z : Int32) : z >>> ((0 : Int32) &&& 31) = z := by
  have a := c_ishr z 0 0 (by decide)
  exact Int32.toInt_inj.mp (by omega)
theorem own_sub0 (z : Int32) : z - (0 : Int32) = z := by simp
theorem own_add0 (z : Int32) : (0 : Int32) + z = z := by simp
theorem own_lt {a b : Int32} (h : a.toInt < b.toInt) : a < b := Int32.lt_iff_toInt_lt.mpr h
theorem own_nlt {a b : Int32} (h : ¬ a.toInt < b.toInt) : ¬ a < b := fun q => h (Int32.lt_iff_toInt_lt.mp q)
theorem own_neI {a b : Int32} (h : a.toInt ≠ b.toInt) : ¬ a = b := fun q => h (by rw [q])
theorem own_nat {z : Int32} (h : 0 ≤ z.toInt) : (z.toNatClampNeg : Int) = z.toInt := Int.toNat_of_nonneg h
theorem own_natle {a b : Int32} (h : 0 ≤ a.toInt) (ha2 : a.toInt ≤ b.toInt) : a.toNatClampNeg ≤ b.toNatClampNeg := by
  have := own_nat h; have := own_nat (Int.le_trans h ha2); omega
theorem own_natlt {a b : Int32} (h : 0 ≤ a.toInt) (ha2 : a.toInt < b.toInt) : a.toNatClampNeg < b.toNatClampNeg := by
  have := own_nat h; have := own_nat (show 0 ≤ b.toInt by omega); omega
theorem own_gd {vs : List Value} {x : Int32} {n : Nat} {v : Value} (hn : x.toNatClampNeg = n) (h : vs.getD n (.int 0) = v) : vs.getD x.toNatClampNeg (.int 0) = v := by rw [hn]; exact h
def own_tk (vs : List Value) (n : Int32) : List Value := (List.range n.toNatClampNeg).map fun i => vs.getD i (.int 0)
theorem own_rep {n : Nat} (i : Nat) : (List.replicate n (Value.int 0)).getD i (.int 0) = ([] : List Value).getD i (.int 0) := by
  simp [List.getD_eq_getElem?_getD, List.getElem?_replicate]; split <;> rfl
def own_last (vs : List Value) (z r : Int32) : Prop := (0 ≤ r.toInt ∧ r.toInt < z.toInt) ∧ vs.getD r.toNatClampNeg (.int 0) = .int 47 ∧ ∀ q : Nat, r.toNatClampNeg < q → q < z.toNatClampNeg → vs.getD q (.int 0) ≠ .int 47
theorem own_tk_getD {vs : List Value} {n : Int32} {q : Nat} (h : q < n.toNatClampNeg) : (own_tk vs n).getD q (.int 0) = vs.getD q (.int 0) := by
  simp [own_tk, List.getD_eq_getElem?_getD, List.getElem?_map, List.getElem?_range h]
theorem own_last_tk {vs : List Value} {z r : Int32} (h : own_last vs z r) : own_last (own_tk vs z) z r := ⟨h.1, by rw [own_tk_getD (own_natlt h.1.1 h.1.2)]; exact h.2.1, fun q h1 h2 => by rw [own_tk_getD h2]; exact h.2.2 q h1 h2⟩
theorem own_dn {j r z : Int32} {k : Nat} (h : j.toInt = r.toInt + (k + 1 : Nat)) (ha1 : j.toInt < z.toInt) (ha0 : 0 ≤ r.toInt) : (j + (-1 : Int32)).toInt = r.toInt + (k : Nat) ∧ (j + (-1 : Int32)).toInt < z.toInt := by
  have a := c_iadd j (-1); have b := rng32 (j + (-1 : Int32)); have c := rng32 z; have e : (-1 : Int32).toInt = -1 := rfl
  omega
theorem own_z1 {z : Int32} (h : 0 < z.toInt) : (z - (1 : Int32)).toInt = z.toInt - 1 := by
  have a := c_isub z 1; have b := rng32 (z - (1 : Int32)); have c := rng32 z; have e : (1 : Int32).toInt = 1 := rfl
  omega
theorem own_k3 (x : Int32) : ((2 : Int32) * ((x &&& (2147483647 : Int32)) % (3 : Int32))) = (0 : Int32) ∨ ((2 : Int32) * ((x &&& (2147483647 : Int32)) % (3 : Int32))) = (2 : Int32) ∨ ((2 : Int32) * ((x &&& (2147483647 : Int32)) % (3 : Int32))) = (4 : Int32) := by
  have e := c_mask x 2147483647 31 (by decide) (by decide)
  have f := (c_irem (x &&& (2147483647 : Int32)) 3 3 rfl).1 (by omega)
  have h : ((x &&& (2147483647 : Int32)) % (3 : Int32)) = 0 ∨ ((x &&& (2147483647 : Int32)) % (3 : Int32)) = 1 ∨ ((x &&& (2147483647 : Int32)) % (3 : Int32)) = 2 := by
    generalize ((x &&& (2147483647 : Int32)) % (3 : Int32)) = k at *
    simp only [← Int32.toInt_inj, Int32.reduceToInt]
    omega
  rcases h with h | h | h <;> rw [h] <;> decide
theorem own_a5 (x : Int32) : ((1 : Int32) + ((x &&& (65535 : Int32)) % (5 : Int32))) = (1 : Int32) ∨ ((1 : Int32) + ((x &&& (65535 : Int32)) % (5 : Int32))) = (2 : Int32) ∨ ((1 : Int32) + ((x &&& (65535 : Int32)) % (5 : Int32))) = (3 : Int32) ∨ ((1 : Int32) + ((x &&& (65535 : Int32)) % (5 : Int32))) = (4 : Int32) ∨ ((1 : Int32) + ((x &&& (65535 : Int32)) % (5 : Int32))) = (5 : Int32) := by
  have e := c_mask x 65535 16 (by decide) (by decide)
  have f := (c_irem (x &&& (65535 : Int32)) 5 5 rfl).1 (by omega)
  have g := c_iadd 1 ((x &&& (65535 : Int32)) % (5 : Int32)); have r := rng32 ((1 : Int32) + ((x &&& (65535 : Int32)) % (5 : Int32)))
  have o : (1 : Int32).toInt = 1 := rfl
  simp only [← Int32.toInt_inj, Int32.reduceToInt]
  omega
theorem own_a3 (x : Int32) : ((1 : Int32) + ((x &&& (65535 : Int32)) % (3 : Int32))) = (1 : Int32) ∨ ((1 : Int32) + ((x &&& (65535 : Int32)) % (3 : Int32))) = (2 : Int32) ∨ ((1 : Int32) + ((x &&& (65535 : Int32)) % (3 : Int32))) = (3 : Int32) := by
  have e := c_mask x 65535 16 (by decide) (by decide)
  have f := (c_irem (x &&& (65535 : Int32)) 3 3 rfl).1 (by omega)
  have g := c_iadd 1 ((x &&& (65535 : Int32)) % (3 : Int32)); have r := rng32 ((1 : Int32) + ((x &&& (65535 : Int32)) % (3 : Int32)))
  have o : (1 : Int32).toInt = 1 := rfl
  simp only [← Int32.toInt_inj, Int32.reduceToInt]
  omega
theorem own_a1 (x : Int32) : ((1 : Int32) + ((x &&& (65535 : Int32)) % (1 : Int32))) = (1 : Int32) := by
  have e := c_mask x 65535 16 (by decide) (by decide)
  have f := (c_irem (x &&& (65535 : Int32)) 1 1 rfl).1 (by omega)
  have g := c_iadd 1 ((x &&& (65535 : Int32)) % (1 : Int32)); have r := rng32 ((1 : Int32) + ((x &&& (65535 : Int32)) % (1 : Int32)))
  have o : (1 : Int32).toInt = 1 := rfl
  simp only [← Int32.toInt_inj, Int32.reduceToInt]
  omega
theorem own_b47 {c : Int32} (h : 0 ≤ c.toInt ∧ c.toInt ≤ 255) (ha1 : c.toInt ≠ 47) : Value.int (nar .byte (c.toInt8.toInt32)) ≠ .int 47 := by
  intro q
  have q' : c.toInt8.toInt32.toInt8.toInt32 = (47 : Int32) := Value.int.inj q
  have a := c_i2b c; have b := c_i2b c.toInt8.toInt32; have e : (47 : Int32).toInt = 47 := rfl
  rw [q'] at b; omega
theorem own_isref {args : Array Value} {s : State} {t : Term} (h : (Jvm.Cond.isRef t).value args s none s [] = some true) : ∃ v : Value, t.eval args s none [] s = some v ∧ v.isRef = true := by
  simp only [Cond.value] at h
  cases ht : t.eval args s none [] s with
  | none => simp [ht] at h
  | some x => exact ⟨x, rfl, by cases x <;> simp_all [Value.isRef]⟩
abbrev qI (x : Int32) : Slot := .val (.int x)
abbrev qU : Slot := .unset
abbrev qB (c : Int32) : Int32 := nar .byte (c.toInt8.toInt32)
theorem mg (i : Nat) {d : Jvm.Cond} (h : tables_1[i]? = some d) : d ∈ tables_1 := List.mem_of_getElem? h
theorem pn_0 : plainName "com/example/bare_lock/barelock/zookeeper/LockPathsChrootPinLaw" = true := by first | (simp [plainName, overriddenIn]; done) | decide +kernel
theorem d1_0 : decode method_3_code 0 = .ok (.iload_n 0, 1) := by decide +kernel
theorem d1_1 : decode method_3_code 1 = .ok (.sipush 255, 3) := by decide +kernel
theorem d1_4 : decode method_3_code 4 = .ok (.iand, 1) := by decide +kernel
theorem d1_5 : decode method_3_code 5 = .ok (.istore_n 1, 1) := by decide +kernel
theorem d1_6 : decode method_3_code 6 = .ok (.iload_n 1, 1) := by decide +kernel
theorem d1_7 : decode method_3_code 7 = .ok (.bipush 47, 2) := by decide +kernel
theorem d1_9 : decode method_3_code 9 = .ok (.if_icmp .eq 7, 3) := by decide +kernel
theorem d1_16 : decode method_3_code 16 = .ok (.bipush 97, 2) := by decide +kernel
theorem d1_18 : decode method_3_code 18 = .ok (.ireturn, 1) := by decide +kernel
theorem d1_12 : decode method_3_code 12 = .ok (.iload_n 1, 1) := by decide +kernel
theorem d1_13 : decode method_3_code 13 = .ok (.ifCond .ne 6, 3) := by decide +kernel
theorem d1_19 : decode method_3_code 19 = .ok (.iload_n 1, 1) := by decide +kernel
theorem d1_20 : decode method_3_code 20 = .ok (.i2c, 1) := by decide +kernel
theorem d1_21 : decode method_3_code 21 = .ok (.ireturn, 1) := by decide +kernel
theorem ef_cchar (m : MethodId) (v_ : Int32) : entryFrame m #[(.int v_)] 2 = mkF m 0 #[.val (.int v_), .unset] [] := by first | (simp [entryFrame, mkF, argsToLocals, Value.category]; done) | rfl
def Q_cchar (Z : State) (v_ : Int32) (h0 : Heap) (n0 : Nat) (v : Option Value) (h : Heap) (L : List Loc) : Prop := ∃ xc : Int32, v = some (.int xc) ∧ Fr n0 L ∧ h = h0 ∧ (0 ≤ xc.toInt ∧ xc.toInt ≤ 255 ∧ xc.toInt ≠ 47)
set_option maxRecDepth 65536 in
set_option maxHeartbeats 40000000 in
theorem cchar (l : Launch) (Z : State) (a0 : Array Value) (hw : ∀ d ∈ tables_1, d.before a0 Z = true) (ws : List Jvm.Cond) (v_ : Int32) (h0 : Heap) (n0 : Nat) (O0 : Old Z n0 h0) :
    MetFree l (⟨"com/example/bare_lock/barelock/zookeeper/LockPathsChrootPinLaw", "chrootChar", "(I)C"⟩ : MethodName) (head1 (Jvm.Cond.code (⟨"com/example/bare_lock/barelock/zookeeper/LockPathsChrootPinLaw", "chrootChar", "(I)C"⟩ : MethodName) method_3_code 2 (some .char) :: ws) ({ frames := 0, cells := 0, slots := 0, locals := 0 } : Room)) (fun a U => a = #[(.int v_)] ∧ Z.Warmed39 U.vm ∧ U.heap = h0) (fun _ _ _ _ _ => True) (fun _ U o U' => ∃ v L, o = .returned v ∧ Q_cchar Z v_ h0 n0 v U'.heap L ∧ FrameEnd U o U' L ({ frames := 0, cells := 0, slots := 0, locals := 0 } : Room).cells ({ frames := 0, cells := 0, slots := 0, locals := 0 } : Room).slots) := by
  refine MetFree.of_bodySF (plainFor_of_name pn_0) hisR ?_
  intro p e s m args below meth c s₁ Bd hml0 hP hK
  obtain ⟨rfl, hZ, hh⟩ := hP
  have hx := Bd.exec
  have hby := Bd.bytes
  have hml : c.maxLocals = 2 := hml0
  have hown : s.vm.findClass "com/example/bare_lock/barelock/zookeeper/LockPathsChrootPinLaw" = some m.cls := findClass_of_methodNamed Bd.named
  have hnm := (name_of_methodNamed Bd.named Bd.method).1
  have hlk := BodyLoose.notSynchronized Bd
  have X0 : Stand p l e ({ frames := 0, cells := 0, slots := 0, locals := 0 } : Room) s m #[(.int v_)] below meth c s₁ [] 0 0 := Stand.of_body Bd
  have e0 : s₁.heap = h0 := by rw [← hh, Bd.state]; rfl
  have N0 := Fr.nil n0
  refine Go.start (P := fun o U' => ∃ v L, o = .returned v ∧ Q_cchar Z v_ h0 n0 v U'.heap L ∧ FrameEnd s o U' L ({ frames := 0, cells := 0, slots := 0, locals := 0 } : Room).cells ({ frames := 0, cells := 0, slots := 0, locals := 0 } : Room).slots) (ef_cchar m v_) ?_
  show Go p e below _ (s₁.setTop (mkF m 0 #[qI v_, qU] []))
  refine Go.by (fun t k => XS.iloadN X0.here hx rfl (hb hby d1_0) rfl (XS.sipush X0.here hx rfl (hb hby d1_1) (XS.iand X0.here hx rfl (hb hby d1_4) rfl (XS.istoreN X0.here hx rfl (hb hby d1_5) rfl (l' := #[qI v_, .val (.int (v_ &&& (255 : Int32)))]) rfl (XS.iloadN X0.here hx rfl (hb hby d1_6) rfl (XS.bipush X0.here hx rfl (hb hby d1_7) k)))))) ?_
  show Go p e below _ (s₁.setTop (mkF m 9 #[qI v_, .val (.int (v_ &&& (255 : Int32)))] [(.int 47), (.int (v_ &&& (255 : Int32)))]))
  by_cases hc1 : (v_ &&& (255 : Int32)) = (47 : Int32)
  · skip
    refine Go.by (fun t k => XS.icmpYes X0.here hx rfl (pc0 := 9) (pc' := 16) rfl (hb hby d1_9) rfl (teq hc1).1 (by decide) (by decide) (XS.bipush X0.here hx rfl (hb hby d1_16) k)) ?_
    show Go p e below _ (s₁.setTop (mkF m 18 #[qI v_, .val (.int (v_ &&& (255 : Int32)))] [(.int 97)]))
    have hq : Q_cchar Z v_ h0 n0 (some (.int (nar .char (97 : Int32)))) h0 _ := ⟨(nar .char (97 : Int32)), rfl, N0, rfl, (by decide)⟩
    exact Go.retN X0 hx (t := .char) Bd.returns (by simp) hlk (hb hby d1_18) (by decide) (by decide) (by rw [e0]; exact hq)
  · skip
    refine Go.by (fun t k => XS.icmpNo X0.here hx rfl (hb hby d1_9) rfl (feq hc1).1 (XS.iloadN X0.here hx rfl (hb hby d1_12) rfl k)) ?_
    show Go p e below _ (s₁.setTop (mkF m 13 #[qI v_, .val (.int (v_ &&& (255 : Int32)))] [(.int (v_ &&& (255 : Int32)))]))
    by_cases hc2 : (v_ &&& (255 : Int32)) = (0 : Int32)
    · skip
      refine Go.by (fun t k => XS.ifNo X0.here hx rfl (hb hby d1_13) rfl ((if0 _ _).trans (teq hc2).2) (XS.bipush X0.here hx rfl (hb hby d1_16) k)) ?_
      show Go p e below _ (s₁.setTop (mkF m 18 #[qI v_, .val (.int (v_ &&& (255 : Int32)))] [(.int 97)]))
      have hq : Q_cchar Z v_ h0 n0 (some (.int (nar .char (97 : Int32)))) h0 _ := ⟨(nar .char (97 : Int32)), rfl, N0, rfl, (by decide)⟩
      exact Go.retN X0 hx (t := .char) Bd.returns (by simp) hlk (hb hby d1_18) (by decide) (by decide) (by rw [e0]; exact hq)
    · skip
      refine Go.by (fun t k => XS.ifYes X0.here hx rfl (pc0 := 13) (pc' := 19) rfl (hb hby d1_13) rfl ((if0 _ _).trans (feq hc2).2) (by decide) (by decide) (XS.iloadN X0.here hx rfl (hb hby d1_19) rfl (XS.i2c X0.here hx rfl (hb hby d1_20) rfl k))) ?_
      show Go p e below _ (s₁.setTop (mkF m 21 #[qI v_, .val (.int (v_ &&& (255 : Int32)))] [(.int ((v_ &&& (255 : Int32)).toUInt32.toUInt16.toUInt32.toInt32))]))
      have hq : Q_cchar Z v_ h0 n0 (some (.int (nar .char ((v_ &&& (255 : Int32)).toUInt32.toUInt16.toUInt32.toInt32)))) h0 _ := ⟨(nar .char ((v_ &&& (255 : Int32)).toUInt32.toUInt16.toUInt32.toInt32)), rfl, N0, rfl, (own_cc (own_m255 _) hc1)⟩
      exact Go.retN X0 hx (t := .char) Bd.returns (by simp) hlk (hb hby d1_21) (by decide) (by decide) (by rw [e0]; exact hq)
theorem d8_0 : decode method_4_code 0 = .ok (.lload_n 0, 1) := by decide +kernel
theorem d8_1 : decode method_4_code 1 = .ok (.bipush 8, 2) := by decide +kernel
theorem d8_3 : decode method_4_code 3 = .ok (.iload_n 2, 1) := by decide +kernel
theorem d8_4 : decode method_4_code 4 = .ok (.imul, 1) := by decide +kernel
theorem d8_5 : decode method_4_code 5 = .ok (.lushr, 1) := by decide +kernel
theorem d8_6 : decode method_4_code 6 = .ok (.ldc2_w 36, 3) := by decide +kernel
theorem d8_9 : decode method_4_code 9 = .ok (.land, 1) := by decide +kernel
theorem d8_10 : decode method_4_code 10 = .ok (.l2i, 1) := by decide +kernel
theorem d8_11 : decode method_4_code 11 = .ok (.istore_n 3, 1) := by decide +kernel
theorem d8_12 : decode method_4_code 12 = .ok (.iload_n 3, 1) := by decide +kernel
theorem d8_13 : decode method_4_code 13 = .ok (.bipush 26, 2) := by decide +kernel
theorem d8_15 : decode method_4_code 15 = .ok (.if_icmp .ge 9, 3) := by decide +kernel
theorem d8_18 : decode method_4_code 18 = .ok (.bipush 65, 2) := by decide +kernel
theorem d8_20 : decode method_4_code 20 = .ok (.iload_n 3, 1) := by decide +kernel
theorem d8_21 : decode method_4_code 21 = .ok (.iadd, 1) := by decide +kernel
theorem d8_22 : decode method_4_code 22 = .ok (.i2c, 1) := by decide +kernel
theorem d8_23 : decode method_4_code 23 = .ok (.ireturn, 1) := by decide +kernel
theorem d8_24 : decode method_4_code 24 = .ok (.iload_n 3, 1) := by decide +kernel
theorem d8_25 : decode method_4_code 25 = .ok (.bipush 52, 2) := by decide +kernel
theorem d8_27 : decode method_4_code 27 = .ok (.if_icmp .ge 12, 3) := by decide +kernel
theorem d8_30 : decode method_4_code 30 = .ok (.bipush 97, 2) := by decide +kernel
theorem d8_32 : decode method_4_code 32 = .ok (.iload_n 3, 1) := by decide +kernel
theorem d8_33 : decode method_4_code 33 = .ok (.bipush 26, 2) := by decide +kernel
theorem d8_35 : decode method_4_code 35 = .ok (.isub, 1) := by decide +kernel
theorem d8_36 : decode method_4_code 36 = .ok (.iadd, 1) := by decide +kernel
theorem d8_37 : decode method_4_code 37 = .ok (.i2c, 1) := by decide +kernel
theorem d8_38 : decode method_4_code 38 = .ok (.ireturn, 1) := by decide +kernel
theorem d8_39 : decode method_4_code 39 = .ok (.iload_n 3, 1) := by decide +kernel
theorem d8_40 : decode method_4_code 40 = .ok (.bipush 62, 2) := by decide +kernel
theorem d8_42 : decode method_4_code 42 = .ok (.if_icmp .ge 12, 3) := by decide +kernel
theorem d8_45 : decode method_4_code 45 = .ok (.bipush 48, 2) := by decide +kernel
theorem d8_47 : decode method_4_code 47 = .ok (.iload_n 3, 1) := by decide +kernel
theorem d8_48 : decode method_4_code 48 = .ok (.bipush 52, 2) := by decide +kernel
theorem d8_50 : decode method_4_code 50 = .ok (.isub, 1) := by decide +kernel
theorem d8_51 : decode method_4_code 51 = .ok (.iadd, 1) := by decide +kernel
theorem d8_52 : decode method_4_code 52 = .ok (.i2c, 1) := by decide +kernel
theorem d8_53 : decode method_4_code 53 = .ok (.ireturn, 1) := by decide +kernel
theorem d8_54 : decode method_4_code 54 = .ok (.iload_n 3, 1) := by decide +kernel
theorem d8_55 : decode method_4_code 55 = .ok (.bipush 62, 2) := by decide +kernel
theorem d8_57 : decode method_4_code 57 = .ok (.if_icmp .ne 6, 3) := by decide +kernel
theorem d8_60 : decode method_4_code 60 = .ok (.bipush 45, 2) := by decide +kernel
theorem d8_62 : decode method_4_code 62 = .ok (.ireturn, 1) := by decide +kernel
theorem d8_63 : decode method_4_code 63 = .ok (.bipush 95, 2) := by decide +kernel
theorem d8_65 : decode method_4_code 65 = .ok (.ireturn, 1) := by decide +kernel
theorem ef_pchar (m : MethodId) (pp : Int64) (ix : Int32) : entryFrame m #[(.long pp), (.int ix)] 4 = mkF m 0 #[.val (.long pp), .second, .val (.int ix), .unset] [] := by first | (simp [entryFrame, mkF, argsToLocals, Value.category]; done) | rfl
def Q_pchar (Z : State) (pp : Int64) (ix : Int32) (h0 : Heap) (n0 : Nat) (v : Option Value) (h : Heap) (L : List Loc) : Prop := ∃ pv : Int32, v = some (.int pv) ∧ Fr n0 L ∧ h = h0 ∧ (0 ≤ pv.toInt ∧ pv.toInt ≤ 255 ∧ pv.toInt ≠ 47)
set_option maxRecDepth 65536 in
set_option maxHeartbeats 40000000 in
theorem pchar (l : Launch) (Z : State) (a0 : Array Value) (hw : ∀ d ∈ tables_1, d.before a0 Z = true) (ws : List Jvm.Cond) (pp : Int64) (ix : Int32) (h0 : Heap) (n0 : Nat) (O0 : Old Z n0 h0) :
    MetFree l (⟨"com/example/bare_lock/barelock/zookeeper/LockPathsChrootPinLaw", "partChar", "(JI)C"⟩ : MethodName) (head1 (Jvm.Cond.code (⟨"com/example/bare_lock/barelock/zookeeper/LockPathsChrootPinLaw", "partChar", "(JI)C"⟩ : MethodName) method_4_code 4 (some .char) :: ws) ({ frames := 0, cells := 0, slots := 0, locals := 0 } : Room)) (fun a U => a = #[(.long pp), (.int ix)] ∧ Z.Warmed39 U.vm ∧ U.heap = h0) (fun _ _ _ _ _ => True) (fun _ U o U' => ∃ v L, o = .returned v ∧ Q_pchar Z pp ix h0 n0 v U'.heap L ∧ FrameEnd U o U' L ({ frames := 0, cells := 0, slots := 0, locals := 0 } : Room).cells ({ frames := 0, cells := 0, slots := 0, locals := 0 } : Room).slots) := by
  refine MetFree.of_bodySF (plainFor_of_name pn_0) hisR ?_
  intro p e s m args below meth c s₁ Bd hml0 hP hK
  obtain ⟨rfl, hZ, hh⟩ := hP
  have hx := Bd.exec
  have hby := Bd.bytes
  have hml : c.maxLocals = 4 := hml0
  have hown : s.vm.findClass "com/example/bare_lock/barelock/zookeeper/LockPathsChrootPinLaw" = some m.cls := findClass_of_methodNamed Bd.named
  have hnm := (name_of_methodNamed Bd.named Bd.method).1
  have hlk := BodyLoose.notSynchronized Bd
  have X0 : Stand p l e ({ frames := 0, cells := 0, slots := 0, locals := 0 } : Room) s m #[(.long pp), (.int ix)] below meth c s₁ [] 0 0 := Stand.of_body Bd
  have e0 : s₁.heap = h0 := by rw [← hh, Bd.state]; rfl
  have N0 := Fr.nil n0
  refine Go.start (P := fun o U' => ∃ v L, o = .returned v ∧ Q_pchar Z pp ix h0 n0 v U'.heap L ∧ FrameEnd s o U' L ({ frames := 0, cells := 0, slots := 0, locals := 0 } : Room).cells ({ frames := 0, cells := 0, slots := 0, locals := 0 } : Room).slots) (ef_pchar m pp ix) ?_
  show Go p e below _ (s₁.setTop (mkF m 0 #[.val (.long pp), .second, qI ix, qU] []))
  refine Go.by (fun t k => XS.lloadN X0.here hx rfl (hb hby d8_0) rfl (XS.bipush X0.here hx rfl (hb hby d8_1) (XS.iloadN X0.here hx rfl (hb hby d8_3) rfl (XS.imul X0.here hx rfl (hb hby d8_4) rfl (XS.lushr X0.here hx rfl (hb hby d8_5) rfl k))))) ?_
  show Go p e below _ (s₁.setTop (mkF m 6 #[.val (.long pp), .second, qI ix, qU] [(.long ((pp.toUInt64 >>> (((8 : Int32) * ix) &&& 0x3f).toInt64.toUInt64).toInt64))]))
  refine Go.by (fun t k => X0.ldc2Long hx hown (mvT hZ (hw _ (mg 46 rfl))) (g := (mkF m 6 #[.val (.long pp), .second, qI ix, qU] [(.long ((pp.toUInt64 >>> (((8 : Int32) * ix) &&& 0x3f).toInt64.toUInt64).toInt64))])) rfl (hb hby d8_6) t k) ?_
  show Go p e below _ (s₁.setTop (mkF m 9 #[.val (.long pp), .second, qI ix, qU] [(.long (63 : Int64)), (.long ((pp.toUInt64 >>> (((8 : Int32) * ix) &&& 0x3f).toInt64.toUInt64).toInt64))]))
  refine Go.by (fun t k => XS.land X0.here hx rfl (hb hby d8_9) rfl (XS.l2i X0.here hx rfl (hb hby d8_10) rfl k)) ?_
  show Go p e below _ (s₁.setTop (mkF m 11 #[.val (.long pp), .second, qI ix, qU] [(.int ((((pp.toUInt64 >>> (((8 : Int32) * ix) &&& 0x3f).toInt64.toUInt64).toInt64) &&& (63 : Int64)).toInt32))]))
  obtain ⟨vv, e_vv⟩ : ∃ q : Int32, q = ((((pp.toUInt64 >>> (((8 : Int32) * ix) &&& 0x3f).toInt64.toUInt64).toInt64) &&& (63 : Int64)).toInt32) := ⟨_, rfl⟩
  have hvv : 0 ≤ vv.toInt ∧ vv.toInt ≤ 63 := by rw [e_vv]; exact own_m63 _
  rw [show s₁.setTop (mkF m 11 #[.val (.long pp), .second, qI ix, qU] [(.int ((((pp.toUInt64 >>> (((8 : Int32) * ix) &&& 0x3f).toInt64.toUInt64).toInt64) &&& (63 : Int64)).toInt32))]) = s₁.setTop (mkF m 11 #[.val (.long pp), .second, qI ix, qU] [(.int vv)]) from by rw [e_vv]]
  show Go p e below _ (s₁.setTop (mkF m 11 #[.val (.long pp), .second, qI ix, qU] [(.int vv)]))
  refine Go.by (fun t k => XS.istoreN X0.here hx rfl (hb hby d8_11) rfl (l' := #[.val (.long pp), .second, qI ix, qI vv]) rfl (XS.iloadN X0.here hx rfl (hb hby d8_12) rfl (XS.bipush X0.here hx rfl (hb hby d8_13) k))) ?_
  show Go p e below _ (s₁.setTop (mkF m 15 #[.val (.long pp), .second, qI ix, qI vv] [(.int 26), (.int vv)]))
  by_cases hc1 : vv < (26 : Int32)
  · skip
    refine Go.by (fun t k => XS.icmpNo X0.here hx rfl (hb hby d8_15) rfl (tlt hc1).2.1 (XS.bipush X0.here hx rfl (hb hby d8_18) (XS.iloadN X0.here hx rfl (hb hby d8_20) rfl (XS.iadd X0.here hx rfl (hb hby d8_21) rfl (XS.i2c X0.here hx rfl (hb hby d8_22) rfl k))))) ?_
    show Go p e below _ (s₁.setTop (mkF m 23 #[.val (.long pp), .second, qI ix, qI vv] [(.int (((65 : Int32) + vv).toUInt32.toUInt16.toUInt32.toInt32))]))
    have hq : Q_pchar Z pp ix h0 n0 (some (.int (nar .char (((65 : Int32) + vv).toUInt32.toUInt16.toUInt32.toInt32)))) h0 _ := ⟨(nar .char (((65 : Int32) + vv).toUInt32.toUInt16.toUInt32.toInt32)), rfl, N0, rfl, (own_cc (c := ((65 : Int32) + vv)) (by have qhc1 := hc1; rw [Int32.lt_iff_toInt_lt] at qhc1; have a1 := c_iadd (65 : Int32) vv; have l26 : (26 : Int32).toInt = 26 := rfl; have l48 : (48 : Int32).toInt = 48 := rfl; have l52 : (52 : Int32).toInt = 52 := rfl; have l62 : (62 : Int32).toInt = 62 := rfl; have l65 : (65 : Int32).toInt = 65 := rfl; have l97 : (97 : Int32).toInt = 97 := rfl; have l47 : (47 : Int32).toInt = 47 := rfl; have b := rng32 ((65 : Int32) + vv); omega) (own_neI (by have qhc1 := hc1; rw [Int32.lt_iff_toInt_lt] at qhc1; have a1 := c_iadd (65 : Int32) vv; have l26 : (26 : Int32).toInt = 26 := rfl; have l48 : (48 : Int32).toInt = 48 := rfl; have l52 : (52 : Int32).toInt = 52 := rfl; have l62 : (62 : Int32).toInt = 62 := rfl; have l65 : (65 : Int32).toInt = 65 := rfl; have l97 : (97 : Int32).toInt = 97 := rfl; have l47 : (47 : Int32).toInt = 47 := rfl; have b := rng32 ((65 : Int32) + vv); omega)))⟩
    exact Go.retN X0 hx (t := .char) Bd.returns (by simp) hlk (hb hby d8_23) (by decide) (by decide) (by rw [e0]; exact hq)
  · skip
    refine Go.by (fun t k => XS.icmpYes X0.here hx rfl (pc0 := 15) (pc' := 24) rfl (hb hby d8_15) rfl (flt hc1).2.1 (by decide) (by decide) (XS.iloadN X0.here hx rfl (hb hby d8_24) rfl (XS.bipush X0.here hx rfl (hb hby d8_25) k))) ?_
    show Go p e below _ (s₁.setTop (mkF m 27 #[.val (.long pp), .second, qI ix, qI vv] [(.int 52), (.int vv)]))
    by_cases hc2 : vv < (52 : Int32)
    · skip
      refine Go.by (fun t k => XS.icmpNo X0.here hx rfl (hb hby d8_27) rfl (tlt hc2).2.1 (XS.bipush X0.here hx rfl (hb hby d8_30) (XS.iloadN X0.here hx rfl (hb hby d8_32) rfl (XS.bipush X0.here hx rfl (hb hby d8_33) (XS.isub X0.here hx rfl (hb hby d8_35) rfl (XS.iadd X0.here hx rfl (hb hby d8_36) rfl (XS.i2c X0.here hx rfl (hb hby d8_37) rfl k))))))) ?_
      show Go p e below _ (s₁.setTop (mkF m 38 #[.val (.long pp), .second, qI ix, qI vv] [(.int (((97 : Int32) + (vv - (26 : Int32))).toUInt32.toUInt16.toUInt32.toInt32))]))
      have hq : Q_pchar Z pp ix h0 n0 (some (.int (nar .char (((97 : Int32) + (vv - (26 : Int32))).toUInt32.toUInt16.toUInt32.toInt32)))) h0 _ := ⟨(nar .char (((97 : Int32) + (vv - (26 : Int32))).toUInt32.toUInt16.toUInt32.toInt32)), rfl, N0, rfl, (own_cc (c := ((97 : Int32) + (vv - (26 : Int32)))) (by have qhc1 := hc1; rw [Int32.lt_iff_toInt_lt] at qhc1; have qhc2 := hc2; rw [Int32.lt_iff_toInt_lt] at qhc2; have a1 := c_iadd (97 : Int32) (vv - (26 : Int32)); have a2 := c_isub vv 26; have l26 : (26 : Int32).toInt = 26 := rfl; have l48 : (48 : Int32).toInt = 48 := rfl; have l52 : (52 : Int32).toInt = 52 := rfl; have l62 : (62 : Int32).toInt = 62 := rfl; have l65 : (65 : Int32).toInt = 65 := rfl; have l97 : (97 : Int32).toInt = 97 := rfl; have l47 : (47 : Int32).toInt = 47 := rfl; have b := rng32 ((97 : Int32) + (vv - (26 : Int32))); omega) (own_neI (by have qhc1 := hc1; rw [Int32.lt_iff_toInt_lt] at qhc1; have qhc2 := hc2; rw [Int32.lt_iff_toInt_lt] at qhc2; have a1 := c_iadd (97 : Int32) (vv - (26 : Int32)); have a2 := c_isub vv 26; have l26 : (26 : Int32).toInt = 26 := rfl; have l48 : (48 : Int32).toInt = 48 := rfl; have l52 : (52 : Int32).toInt = 52 := rfl; have l62 : (62 : Int32).toInt = 62 := rfl; have l65 : (65 : Int32).toInt = 65 := rfl; have l97 : (97 : Int32).toInt = 97 := rfl; have l47 : (47 : Int32).toInt = 47 := rfl; have b := rng32 ((97 : Int32) + (vv - (26 : Int32))); omega)))⟩
      exact Go.retN X0 hx (t := .char) Bd.returns (by simp) hlk (hb hby d8_38) (by decide) (by decide) (by rw [e0]; exact hq)
    · skip
      refine Go.by (fun t k => XS.icmpYes X0.here hx rfl (pc0 := 27) (pc' := 39) rfl (hb hby d8_27) rfl (flt hc2).2.1 (by decide) (by decide) (XS.iloadN X0.here hx rfl (hb hby d8_39) rfl (XS.bipush X0.here hx rfl (hb hby d8_40) k))) ?_
      show Go p e below _ (s₁.setTop (mkF m 42 #[.val (.long pp), .second, qI ix, qI vv] [(.int 62), (.int vv)]))
      by_cases hc3 : vv < (62 : Int32)
      · skip
        refine Go.by (fun t k => XS.icmpNo X0.here hx rfl (hb hby d8_42) rfl (tlt hc3).2.1 (XS.bipush X0.here hx rfl (hb hby d8_45) (XS.iloadN X0.here hx rfl (hb hby d8_47) rfl (XS.bipush X0.here hx rfl (hb hby d8_48) (XS.isub X0.here hx rfl (hb hby d8_50) rfl (XS.iadd X0.here hx rfl (hb hby d8_51) rfl (XS.i2c X0.here hx rfl (hb hby d8_52) rfl k))))))) ?_
        show Go p e below _ (s₁.setTop (mkF m 53 #[.val (.long pp), .second, qI ix, qI vv] [(.int (((48 : Int32) + (vv - (52 : Int32))).toUInt32.toUInt16.toUInt32.toInt32))]))
        have hq : Q_pchar Z pp ix h0 n0 (some (.int (nar .char (((48 : Int32) + (vv - (52 : Int32))).toUInt32.toUInt16.toUInt32.toInt32)))) h0 _ := ⟨(nar .char (((48 : Int32) + (vv - (52 : Int32))).toUInt32.toUInt16.toUInt32.toInt32)), rfl, N0, rfl, (own_cc (c := ((48 : Int32) + (vv - (52 : Int32)))) (by have qhc1 := hc1; rw [Int32.lt_iff_toInt_lt] at qhc1; have qhc2 := hc2; rw [Int32.lt_iff_toInt_lt] at qhc2; have qhc3 := hc3; rw [Int32.lt_iff_toInt_lt] at qhc3; have a1 := c_iadd (48 : Int32) (vv - (52 : Int32)); have a2 := c_isub vv 52; have l26 : (26 : Int32).toInt = 26 := rfl; have l48 : (48 : Int32).toInt = 48 := rfl; have l52 : (52 : Int32).toInt = 52 := rfl; have l62 : (62 : Int32).toInt = 62 := rfl; have l65 : (65 : Int32).toInt = 65 := rfl; have l97 : (97 : Int32).toInt = 97 := rfl; have l47 : (47 : Int32).toInt = 47 := rfl; have b := rng32 ((48 : Int32) + (vv - (52 : Int32))); omega) (own_neI (by have qhc1 := hc1; rw [Int32.lt_iff_toInt_lt] at qhc1; have qhc2 := hc2; rw [Int32.lt_iff_toInt_lt] at qhc2; have qhc3 := hc3; rw [Int32.lt_iff_toInt_lt] at qhc3; have a1 := c_iadd (48 : Int32) (vv - (52 : Int32)); have a2 := c_isub vv 52; have l26 : (26 : Int32).toInt = 26 := rfl; have l48 : (48 : Int32).toInt = 48 := rfl; have l52 : (52 : Int32).toInt = 52 := rfl; have l62 : (62 : Int32).toInt = 62 := rfl; have l65 : (65 : Int32).toInt = 65 := rfl; have l97 : (97 : Int32).toInt = 97 := rfl; have l47 : (47 : Int32).toInt = 47 := rfl; have b := rng32 ((48 : Int32) + (vv - (52 : Int32))); omega)))⟩
        exact Go.retN X0 hx (t := .char) Bd.returns (by simp) hlk (hb hby d8_53) (by decide) (by decide) (by rw [e0]; exact hq)
      · skip
        refine Go.by (fun t k => XS.icmpYes X0.here hx rfl (pc0 := 42) (pc' := 54) rfl (hb hby d8_42) rfl (flt hc3).2.1 (by decide) (by decide) (XS.iloadN X0.here hx rfl (hb hby d8_54) rfl (XS.bipush X0.here hx rfl (hb hby d8_55) k))) ?_
        show Go p e below _ (s₁.setTop (mkF m 57 #[.val (.long pp), .second, qI ix, qI vv] [(.int 62), (.int vv)]))
        by_cases hc4 : vv = (62 : Int32)
        · skip
          refine Go.by (fun t k => XS.icmpNo X0.here hx rfl (hb hby d8_57) rfl (teq hc4).2 (XS.bipush X0.here hx rfl (hb hby d8_60) k)) ?_
          show Go p e below _ (s₁.setTop (mkF m 62 #[.val (.long pp), .second, qI ix, qI vv] [(.int 45)]))
          have hq : Q_pchar Z pp ix h0 n0 (some (.int (nar .char (45 : Int32)))) h0 _ := ⟨(nar .char (45 : Int32)), rfl, N0, rfl, (by decide)⟩
          exact Go.retN X0 hx (t := .char) Bd.returns (by simp) hlk (hb hby d8_62) (by decide) (by decide) (by rw [e0]; exact hq)
        · skip
          refine Go.by (fun t k => XS.icmpYes X0.here hx rfl (pc0 := 57) (pc' := 63) rfl (hb hby d8_57) rfl (feq hc4).2 (by decide) (by decide) (XS.bipush X0.here hx rfl (hb hby d8_63) k)) ?_
          show Go p e below _ (s₁.setTop (mkF m 65 #[.val (.long pp), .second, qI ix, qI vv] [(.int 95)]))
          have hq : Q_pchar Z pp ix h0 n0 (some (.int (nar .char (95 : Int32)))) h0 _ := ⟨(nar .char (95 : Int32)), rfl, N0, rfl, (by decide)⟩
          exact Go.retN X0 hx (t := .char) Bd.returns (by simp) hlk (hb hby d8_65) (by decide) (by decide) (by rw [e0]; exact hq)
theorem pn_1 : plainName "java/lang/String" = true := by first | (simp [plainName, overriddenIn]; done) | decide +kernel
theorem d4_0 : decode jdk_42_method_154_code 0 = .ok (.getstatic 38, 3) := by decide +kernel
theorem d4_3 : decode jdk_42_method_154_code 3 = .ok (.ifCond .eq 14, 3) := by decide +kernel
theorem d4_6 : decode jdk_42_method_154_code 6 = .ok (.aload_n 0, 1) := by decide +kernel
theorem d4_7 : decode jdk_42_method_154_code 7 = .ok (.getfield 15, 3) := by decide +kernel
theorem d4_10 : decode jdk_42_method_154_code 10 = .ok (.ifCond .ne 7, 3) := by decide +kernel
theorem d4_13 : decode jdk_42_method_154_code 13 = .ok (.iconst 1, 1) := by decide +kernel
theorem d4_14 : decode jdk_42_method_154_code 14 = .ok (.goto 4, 3) := by decide +kernel
theorem d4_18 : decode jdk_42_method_154_code 18 = .ok (.ireturn, 1) := by decide +kernel
theorem ef_isLat (m : MethodId) (sa : Addr) : entryFrame m #[(.ref sa)] 1 = mkF m 0 #[.val (.ref sa)] [] := by first | (simp [entryFrame, mkF, argsToLocals, Value.category]; done) | rfl
def Q_isLat (Z : State) (sa : Addr) (cs : Int32) (h0 : Heap) (n0 : Nat) (v : Option Value) (h : Heap) (L : List Loc) : Prop := v = some (.int 1) ∧ Fr n0 L ∧ h = h0
set_option maxRecDepth 65536 in
set_option maxHeartbeats 40000000 in
theorem isLat (l : Launch) (Z : State) (a0 : Array Value) (hw : ∀ d ∈ tables_1, d.before a0 Z = true) (ws : List Jvm.Cond) (sa : Addr) (cs : Int32) (h0 : Heap) (n0 : Nat) (O0 : Old Z n0 h0) (P0 : Sta Z Z.heap "java/lang/String" "COMPACT_STRINGS" "Z" (.int cs)) (P1 : Fld Z h0 sa "java/lang/String" "coder" "B" (.int 0)) (hcs : cs ≠ (0 : Int32)) :
    MetFree l (⟨"java/lang/String", "isLatin1", "()Z"⟩ : MethodName) (head1 (Jvm.Cond.code (⟨"java/lang/String", "isLatin1", "()Z"⟩ : MethodName) jdk_42_method_154_code 1 (some .boolean) :: ws) ({ frames := 0, cells := 0, slots := 0, locals := 0 } : Room)) (fun a U => a = #[(.ref sa)] ∧ Z.Warmed39 U.vm ∧ U.heap = h0) (fun _ _ _ _ _ => True) (fun _ U o U' => ∃ v L, o = .returned v ∧ Q_isLat Z sa cs h0 n0 v U'.heap L ∧ FrameEnd U o U' L ({ frames := 0, cells := 0, slots := 0, locals := 0 } : Room).cells ({ frames := 0, cells := 0, slots := 0, locals := 0 } : Room).slots) := by
  refine MetFree.of_bodySF (plainFor_of_name pn_1) hisR ?_
  intro p e s m args below meth c s₁ Bd hml0 hP hK
  obtain ⟨rfl, hZ, hh⟩ := hP
  have hx := Bd.exec
  have hby := Bd.bytes
  have hml : c.maxLocals = 1 := hml0
  have hown : s.vm.findClass "java/lang/String" = some m.cls := findClass_of_methodNamed Bd.named
  have hnm := (name_of_methodNamed Bd.named Bd.method).1
  have hlk := BodyLoose.notSynchronized Bd
  have X0 : Stand p l e ({ frames := 0, cells := 0, slots := 0, locals := 0 } : Room) s m #[(.ref sa)] below meth c s₁ [] 0 0 := Stand.of_body Bd
  have e0 : s₁.heap = h0 := by rw [← hh, Bd.state]; rfl
  have N0 := Fr.nil n0
  refine Go.start (P := fun o U' => ∃ v L, o = .returned v ∧ Q_isLat Z sa cs h0 n0 v U'.heap L ∧ FrameEnd s o U' L ({ frames := 0, cells := 0, slots := 0, locals := 0 } : Room).cells ({ frames := 0, cells := 0, slots := 0, locals := 0 } : Room).slots) (ef_isLat m sa) ?_
  show Go p e below _ (s₁.setTop (mkF m 0 #[.val (.ref sa)] []))
  have F1 : Sta Z h0 "java/lang/String" "COMPACT_STRINGS" "Z" (.int cs) := P0.ext O0.2
  obtain ⟨T2, X2, e2, st2⟩ := getS2 X0 hx hZ hown (host := "") (Or.inl (hw _ (mg 28 rfl))) Via.refl e0 F1 (g := (mkF m 0 #[.val (.ref sa)] [])) rfl (hb hby d4_0)
  refine Go.by st2 ?_
  show Go p e below _ (T2.setTop (mkF m 3 #[.val (.ref sa)] [(.int cs)]))
  refine Go.by (fun t k => XS.ifNo X2.here hx rfl (hb hby d4_3) rfl ((if0 _ _).trans (feq hcs).1) (XS.aloadN X2.here hx rfl (hb hby d4_6) rfl rfl k)) ?_
  show Go p e below _ (T2.setTop (mkF m 7 #[.val (.ref sa)] [(.ref sa)]))
  obtain ⟨T3, X3, e3, st3⟩ := getF X2 hx hZ hown (host := "") (Or.inl (hw _ (mg 29 rfl))) Via.refl e2 P1 (g := (mkF m 7 #[.val (.ref sa)] [(.ref sa)])) rfl rfl (hb hby d4_7)
  refine Go.by st3 ?_
  show Go p e below _ (T3.setTop (mkF m 10 #[.val (.ref sa)] [(.int 0)]))
  refine Go.by (fun t k => XS.ifNo X3.here hx rfl (hb hby d4_10) rfl ((if0 _ _).trans (teq rfl).2) (XS.iconst X3.here hx rfl (hb hby d4_13) (XS.goto X3.here hx rfl (pc0 := 14) (pc' := 18) rfl (hb hby d4_14) (by decide) (by decide) k))) ?_
  show Go p e below _ (T3.setTop (mkF m 18 #[.val (.ref sa)] [(.int 1)]))
  have hq : Q_isLat Z sa cs h0 n0 (some (.int (nar .boolean (1 : Int32)))) h0 _ := ⟨rfl, N0, rfl⟩
  exact Go.retN X3 hx (t := .boolean) Bd.returns (by simp) hlk (hb hby d4_18) (by decide) (by decide) (by rw [e3]; exact hq)
theorem pn_2 : plainName "jdk/internal/util/Preconditions" = true := by first | (simp [plainName, overriddenIn]; done) | decide +kernel
theorem d7_0 : decode jdk_41_method_11_code 0 = .ok (.iload_n 0, 1) := by decide +kernel
theorem d7_1 : decode jdk_41_method_11_code 1 = .ok (.ifCond .lt 8, 3) := by decide +kernel
theorem d7_4 : decode jdk_41_method_11_code 4 = .ok (.iload_n 0, 1) := by decide +kernel
theorem d7_5 : decode jdk_41_method_11_code 5 = .ok (.iload_n 1, 1) := by decide +kernel
theorem d7_6 : decode jdk_41_method_11_code 6 = .ok (.if_icmp .lt 10, 3) := by decide +kernel
theorem d7_16 : decode jdk_41_method_11_code 16 = .ok (.iload_n 0, 1) := by decide +kernel
theorem d7_17 : decode jdk_41_method_11_code 17 = .ok (.ireturn, 1) := by decide +kernel
theorem ef_pcheck (m : MethodId) (i_ : Int32) (z_ : Int32) (fm : Value) (h_fm : fm.isRef = true) : entryFrame m #[(.int i_), (.int z_), fm] 3 = mkF m 0 #[.val (.int i_), .val (.int z_), .val fm] [] := by rcases ref_cases h_fm with rfl | ⟨_, rfl⟩ <;> first | (simp [entryFrame, mkF, argsToLocals, Value.category]; done) | rfl
def Q_pcheck (Z : State) (i_ : Int32) (z_ : Int32) (fm : Value) (h0 : Heap) (n0 : Nat) (v : Option Value) (h : Heap) (L : List Loc) : Prop := v = some (.int i_) ∧ Fr n0 L ∧ h = h0
set_option maxRecDepth 65536 in
set_option maxHeartbeats 40000000 in
theorem pcheck (l : Launch) (Z : State) (a0 : Array Value) (hw : ∀ d ∈ tables_1, d.before a0 Z = true) (ws : List Jvm.Cond) (i_ : Int32) (z_ : Int32) (fm : Value) (h0 : Heap) (n0 : Nat) (O0 : Old Z n0 h0) (ha1 : ¬ i_ < (0 : Int32)) (ha2 : i_ < z_) (hfm : fm.isRef = true) :
    MetFree l (⟨"jdk/internal/util/Preconditions", "checkIndex", "(IILjava/util/function/BiFunction;)I"⟩ : MethodName) (head1 (Jvm.Cond.code (⟨"jdk/internal/util/Preconditions", "checkIndex", "(IILjava/util/function/BiFunction;)I"⟩ : MethodName) jdk_41_method_11_code 3 (some .int) :: ws) ({ frames := 0, cells := 0, slots := 0, locals := 0 } : Room)) (fun a U => a = #[(.int i_), (.int z_), fm] ∧ Z.Warmed39 U.vm ∧ U.heap = h0) (fun _ _ _ _ _ => True) (fun _ U o U' => ∃ v L, o = .returned v ∧ Q_pcheck Z i_ z_ fm h0 n0 v U'.heap L ∧ FrameEnd U o U' L ({ frames := 0, cells := 0, slots := 0, locals := 0 } : Room).cells ({ frames := 0, cells := 0, slots := 0, locals := 0 } : Room).slots) := by
  refine MetFree.of_bodySF (plainFor_of_name pn_2) hisR ?_
  intro p e s m args below meth c s₁ Bd hml0 hP hK
  obtain ⟨rfl, hZ, hh⟩ := hP
  have hx := Bd.exec
  have hby := Bd.bytes
  have hml : c.maxLocals = 3 := hml0
  have hown : s.vm.findClass "jdk/internal/util/Preconditions" = some m.cls := findClass_of_methodNamed Bd.named
  have hnm := (name_of_methodNamed Bd.named Bd.method).1
  have hlk := BodyLoose.notSynchronized Bd
  have X0 : Stand p l e ({ frames := 0, cells := 0, slots := 0, locals := 0 } : Room) s m #[(.int i_), (.int z_), fm] below meth c s₁ [] 0 0 := Stand.of_body Bd
  have e0 : s₁.heap = h0 := by rw [← hh, Bd.state]; rfl
  have N0 := Fr.nil n0
  refine Go.start (P := fun o U' => ∃ v L, o = .returned v ∧ Q_pcheck Z i_ z_ fm h0 n0 v U'.heap L ∧ FrameEnd s o U' L ({ frames := 0, cells := 0, slots := 0, locals := 0 } : Room).cells ({ frames := 0, cells := 0, slots := 0, locals := 0 } : Room).slots) (ef_pcheck m i_ z_ fm hfm) ?_
  show Go p e below _ (s₁.setTop (mkF m 0 #[qI i_, qI z_, .val fm] []))
  refine Go.by (fun t k => XS.iloadN X0.here hx rfl (hb hby d7_0) rfl (XS.ifNo X0.here hx rfl (hb hby d7_1) rfl ((if0 _ _).trans (flt ha1).1) (XS.iloadN X0.here hx rfl (hb hby d7_4) rfl (XS.iloadN X0.here hx rfl (hb hby d7_5) rfl (XS.icmpYes X0.here hx rfl (pc0 := 6) (pc' := 16) rfl (hb hby d7_6) rfl (tlt ha2).1 (by decide) (by decide) (XS.iloadN X0.here hx rfl (hb hby d7_16) rfl k)))))) ?_
  show Go p e below _ (s₁.setTop (mkF m 17 #[qI i_, qI z_, .val fm] [(.int i_)]))
  have hq : Q_pcheck Z i_ z_ fm h0 n0 (some (.int i_)) h0 _ := ⟨rfl, N0, rfl⟩
  exact Go.retI X0 hx Bd.returns hlk (hb hby d7_17) (by decide) (by decide) (by rw [e0]; exact hq)
theorem d6_0 : decode jdk_42_method_155_code 0 = .ok (.iload_n 0, 1) := by decide +kernel
theorem d6_1 : decode jdk_42_method_155_code 1 = .ok (.iload_n 1, 1) := by decide +kernel
theorem d6_2 : decode jdk_42_method_155_code 2 = .ok (.getstatic 1053, 3) := by decide +kernel
theorem d6_5 : decode jdk_42_method_155_code 5 = .ok (.invokestatic 1059, 3) := by decide +kernel
theorem pd_0 : parseMethodDescriptor "(IILjava/util/function/BiFunction;)I" = some ⟨[.int, .int, (.object "java/util/function/BiFunction")], some .int⟩ := by decide +kernel
theorem d6_8 : decode jdk_42_method_155_code 8 = .ok (.pop, 1) := by decide +kernel
theorem d6_9 : decode jdk_42_method_155_code 9 = .ok (.return_, 1) := by decide +kernel
theorem ef_scheck (m : MethodId) (i_ : Int32) (z_ : Int32) : entryFrame m #[(.int i_), (.int z_)] 2 = mkF m 0 #[.val (.int i_), .val (.int z_)] [] := by first | (simp [entryFrame, mkF, argsToLocals, Value.category]; done) | rfl
def Q_scheck (Z : State) (i_ : Int32) (z_ : Int32) (fm : Value) (h0 : Heap) (n0 : Nat) (v : Option Value) (h : Heap) (L : List Loc) : Prop := v = none ∧ Fr n0 L ∧ h = h0
set_option maxRecDepth 65536 in
set_option maxHeartbeats 40000000 in
theorem scheck (l : Launch) (Z : State) (a0 : Array Value) (hw : ∀ d ∈ tables_1, d.before a0 Z = true) (ws : List Jvm.Cond) (i_ : Int32) (z_ : Int32) (fm : Value) (h0 : Heap) (n0 : Nat) (O0 : Old Z n0 h0) (P0 : Sta Z Z.heap "jdk/internal/util/Preconditions" "SIOOBE_FORMATTER" "Ljava/util/function/BiFunction;" fm) (ha1 : ¬ i_ < (0 : Int32)) (ha2 : i_ < z_) (hfm : fm.isRef = true) :
    MetFree l (⟨"java/lang/String", "checkIndex", "(II)V"⟩ : MethodName) (head1 (Jvm.Cond.code (⟨"java/lang/String", "checkIndex", "(II)V"⟩ : MethodName) jdk_42_method_155_code 2 none :: ws) ({ frames := 1, cells := 0, slots := 0, locals := 14 } : Room)) (fun a U => a = #[(.int i_), (.int z_)] ∧ Z.Warmed39 U.vm ∧ U.heap = h0) (fun _ _ _ _ _ => True) (fun _ U o U' => ∃ v L, o = .returned v ∧ Q_scheck Z i_ z_ fm h0 n0 v U'.heap L ∧ FrameEnd U o U' L ({ frames := 1, cells := 0, slots := 0, locals := 14 } : Room).cells ({ frames := 1, cells := 0, slots := 0, locals := 14 } : Room).slots) := by
  refine MetFree.of_bodySF (plainFor_of_name pn_1) hisR ?_
  intro p e s m args below meth c s₁ Bd hml0 hP hK
  obtain ⟨rfl, hZ, hh⟩ := hP
  have hx := Bd.exec
  have hby := Bd.bytes
  have hml : c.maxLocals = 2 := hml0
  have hown : s.vm.findClass "java/lang/String" = some m.cls := findClass_of_methodNamed Bd.named
  have hnm := (name_of_methodNamed Bd.named Bd.method).1
  have hlk := BodyLoose.notSynchronized Bd
  have X0 : Stand p l e ({ frames := 1, cells := 0, slots := 0, locals := 14 } : Room) s m #[(.int i_), (.int z_)] below meth c s₁ [] 0 0 := Stand.of_body Bd
  have e0 : s₁.heap = h0 := by rw [← hh, Bd.state]; rfl
  have N0 := Fr.nil n0
  refine Go.start (P := fun o U' => ∃ v L, o = .returned v ∧ Q_scheck Z i_ z_ fm h0 n0 v U'.heap L ∧ FrameEnd s o U' L ({ frames := 1, cells := 0, slots := 0, locals := 14 } : Room).cells ({ frames := 1, cells := 0, slots := 0, locals := 14 } : Room).slots) (ef_scheck m i_ z_) ?_
  show Go p e below _ (s₁.setTop (mkF m 0 #[qI i_, qI z_] []))
  refine Go.by (fun t k => XS.iloadN X0.here hx rfl (hb hby d6_0) rfl (XS.iloadN X0.here hx rfl (hb hby d6_1) rfl k)) ?_
  show Go p e below _ (s₁.setTop (mkF m 2 #[qI i_, qI z_] [(.int z_), (.int i_)]))
  have F1 : Sta Z h0 "jdk/internal/util/Preconditions" "SIOOBE_FORMATTER" "Ljava/util/function/BiFunction;" fm := P0.ext O0.2
  obtain ⟨T2, X2, e2, st2⟩ := getS2 X0 hx hZ hown (host := "") (Or.inl (hw _ (mg 38 rfl))) Via.refl e0 F1 (g := (mkF m 2 #[qI i_, qI z_] [(.int z_), (.int i_)])) rfl (hb hby d6_2)
  refine Go.by st2 ?_
  show Go p e below _ (T2.setTop (mkF m 5 #[qI i_, qI z_] [fm, (.int z_), (.int i_)]))
  obtain ⟨_, _, ⟨T3, L3, k3, n3⟩, -, X3, ⟨Lc3, hQ3, l3, y3, z3⟩, st3⟩ := Jvm.LawKit.callS X2 hx (y := (⟨"jdk/internal/util/Preconditions", "checkIndex", "(IILjava/util/function/BiFunction;)I"⟩ : MethodName)) hown (mvT hZ (hw _ (mg 40 rfl))) (mvT hZ (hw _ (mg 41 rfl))) (mvT hZ (hw _ (mg 39 rfl))) (mvT hZ (hw _ (mg 42 rfl))) (by decide) (backOf (W := 0) (pcheck l Z a0 hw [] i_ z_ fm h0 n0 O0 (by first | assumption | omega | decide | simp_all : ¬ i_ < (0 : Int32)) (by first | assumption | omega | decide | simp_all : i_ < z_) (by first | assumption | omega | decide | simp_all : fm.isRef = true)) hZ (hw _ (mg 42 rfl)) (hw _ (mg 39 rfl)) (by decide) (by decide)) (g := (mkF m 5 #[qI i_, qI z_] [fm, (.int z_), (.int i_)])) rfl (by rw [hml]; rfl) (argsL := [(.int i_), (.int z_), fm]) (rest := []) (lenOf pd_0 rfl) rfl (by show 2 * 0 + _ ≤ _; exact Nat.le_of_eq rfl) (hb hby d6_5) (fun _ _ => ⟨rfl, e2, (by decide : 0 + 0 ≤ _), (by decide : 0 + 0 ≤ _)⟩)
  dsimp only [Pt.U, Pt.locs, Pt.cells, Pt.slots] at X3 l3 y3 z3 st3 hQ3
  subst y3 z3
  obtain ⟨rfl, N3q, e3⟩ := hQ3
  have N3 : Fr n0 L3 := by rw [l3]; exact Fr.app N0 N3q
  have X3 := own_mr X3 0 0 (by decide) (by decide)
  refine Go.by st3 ?_
  show Go p e below _ (T3.setTop (mkF m 8 #[qI i_, qI z_] [(.int i_)]))
  refine Go.by (fun t k => XS.pop X3.here hx rfl (hb hby d6_8) rfl rfl k) ?_
  show Go p e below _ (T3.setTop (mkF m 9 #[qI i_, qI z_] []))
  have hq : Q_scheck Z i_ z_ fm h0 n0 none h0 _ := ⟨rfl, N3, rfl⟩
  exact Go.ret0 X3 hx Bd.returns hlk (hb hby d6_9) (by decide) (by decide) (by rw [e3]; exact hq)
theorem pn_3 : plainName "java/lang/StringLatin1" = true := by first | (simp [plainName, overriddenIn]; done) | decide +kernel
theorem d5_0 : decode jdk_43_method_2_code 0 = .ok (.iload_n 1, 1) := by decide +kernel
theorem d5_1 : decode jdk_43_method_2_code 1 = .ok (.aload_n 0, 1) := by decide +kernel
theorem d5_2 : decode jdk_43_method_2_code 2 = .ok (.arraylength, 1) := by decide +kernel
theorem d5_3 : decode jdk_43_method_2_code 3 = .ok (.invokestatic 9, 3) := by decide +kernel
theorem pd_1 : parseMethodDescriptor "(II)V" = some ⟨[.int, .int], none⟩ := by decide +kernel
theorem d5_6 : decode jdk_43_method_2_code 6 = .ok (.aload_n 0, 1) := by decide +kernel
theorem d5_7 : decode jdk_43_method_2_code 7 = .ok (.iload_n 1, 1) := by decide +kernel
theorem d5_8 : decode jdk_43_method_2_code 8 = .ok (.baload, 1) := by decide +kernel
theorem d5_9 : decode jdk_43_method_2_code 9 = .ok (.sipush 255, 3) := by decide +kernel
theorem d5_12 : decode jdk_43_method_2_code 12 = .ok (.iand, 1) := by decide +kernel
theorem d5_13 : decode jdk_43_method_2_code 13 = .ok (.i2c, 1) := by decide +kernel
theorem d5_14 : decode jdk_43_method_2_code 14 = .ok (.ireturn, 1) := by decide +kernel
theorem ef_latAt (m : MethodId) (xa : Addr) (i_ : Int32) : entryFrame m #[(.ref xa), (.int i_)] 2 = mkF m 0 #[.val (.ref xa), .val (.int i_)] [] := by first | (simp [entryFrame, mkF, argsToLocals, Value.category]; done) | rfl
def Q_latAt (Z : State) (xa : Addr) (i_ : Int32) (ka : ClassId) (z_ : Int32) (vs : List Value) (bv : Int32) (fm : Value) (h0 : Heap) (n0 : Nat) (v : Option Value) (h : Heap) (L : List Loc) : Prop := v = some (.int (own_lc bv)) ∧ Fr n0 L ∧ h = h0
set_option maxRecDepth 65536 in
set_option maxHeartbeats 40000000 in
theorem latAt (l : Launch) (Z : State) (a0 : Array Value) (hw : ∀ d ∈ tables_1, d.before a0 Z = true) (ws : List Jvm.Cond) (xa : Addr) (i_ : Int32) (ka : ClassId) (z_ : Int32) (vs : List Value) (bv : Int32) (fm : Value) (h0 : Heap) (n0 : Nat) (O0 : Old Z n0 h0) (P0 : Arv Z h0 xa ka .byte z_ vs (.int 0)) (P1 : Sta Z Z.heap "jdk/internal/util/Preconditions" "SIOOBE_FORMATTER" "Ljava/util/function/BiFunction;" fm) (ha1 : ¬ i_ < (0 : Int32)) (ha2 : i_ < z_) (hbv : (vs : List Value).getD (i_).toNatClampNeg (.int 0) = .int bv) (hfm : fm.isRef = true) :
    MetFree l (⟨"java/lang/StringLatin1", "charAt", "([BI)C"⟩ : MethodName) (head1 (Jvm.Cond.code (⟨"java/lang/StringLatin1", "charAt", "([BI)C"⟩ : MethodName) jdk_43_method_2_code 2 (some .char) :: ws) ({ frames := 2, cells := 0, slots := 0, locals := 27 } : Room)) (fun a U => a = #[(.ref xa), (.int i_)] ∧ Z.Warmed39 U.vm ∧ U.heap = h0) (fun _ _ _ _ _ => True) (fun _ U o U' => ∃ v L, o = .returned v ∧ Q_latAt Z xa i_ ka z_ vs bv fm h0 n0 v U'.heap L ∧ FrameEnd U o U' L ({ frames := 2, cells := 0, slots := 0, locals := 27 } : Room).cells ({ frames := 2, cells := 0, slots := 0, locals := 27 } : Room).slots) := by
  refine MetFree.of_bodySF (plainFor_of_name pn_3) hisR ?_
  intro p e s m args below meth c s₁ Bd hml0 hP hK
  obtain ⟨rfl, hZ, hh⟩ := hP
  have hx := Bd.exec
  have hby := Bd.bytes
  have hml : c.maxLocals = 2 := hml0
  have hown : s.vm.findClass "java/lang/StringLatin1" = some m.cls := findClass_of_methodNamed Bd.named
  have hnm := (name_of_methodNamed Bd.named Bd.method).1
  have hlk := BodyLoose.notSynchronized Bd
  have X0 : Stand p l e ({ frames := 2, cells := 0, slots := 0, locals := 27 } : Room) s m #[(.ref xa), (.int i_)] below meth c s₁ [] 0 0 := Stand.of_body Bd
  have e0 : s₁.heap = h0 := by rw [← hh, Bd.state]; rfl
  have N0 := Fr.nil n0
  refine Go.start (P := fun o U' => ∃ v L, o = .returned v ∧ Q_latAt Z xa i_ ka z_ vs bv fm h0 n0 v U'.heap L ∧ FrameEnd s o U' L ({ frames := 2, cells := 0, slots := 0, locals := 27 } : Room).cells ({ frames := 2, cells := 0, slots := 0, locals := 27 } : Room).slots) (ef_latAt m xa i_) ?_
  show Go p e below _ (s₁.setTop (mkF m 0 #[.val (.ref xa), qI i_] []))
  refine Go.by (fun t k => XS.iloadN X0.here hx rfl (hb hby d5_0) rfl (XS.aloadN X0.here hx rfl (hb hby d5_1) rfl rfl k)) ?_
  show Go p e below _ (s₁.setTop (mkF m 2 #[.val (.ref xa), qI i_] [(.ref xa), (.int i_)]))
  obtain ⟨cl1, Ar1, qk1, sz1, nn1, Ha1, Gf1⟩ := id P0
  have hl1 : cl1.slots.size.toInt32 = z_ := len_of sz1 nn1
  refine Go.by (fun t k => X0.arraylength hx (by rw [e0]; exact Ar1.1) (State.isArrayOf_alike hZ.alike Ar1.2.1) (g := (mkF m 2 #[.val (.ref xa), qI i_] [(.ref xa), (.int i_)])) rfl rfl (hb hby d5_2) t (by rw [hl1]; exact k)) ?_
  show Go p e below _ (s₁.setTop (mkF m 3 #[.val (.ref xa), qI i_] [(.int z_), (.int i_)]))
  obtain ⟨_, _, ⟨T2, L2, k2, n2⟩, -, X2, ⟨Lc2, hQ2, l2, y2, z2⟩, st2⟩ := Jvm.LawKit.callS X0 hx (y := (⟨"java/lang/String", "checkIndex", "(II)V"⟩ : MethodName)) hown (mvT hZ (hw _ (mg 35 rfl))) (mvT hZ (hw _ (mg 36 rfl))) (mvT hZ (hw _ (mg 11 rfl))) (mvT hZ (hw _ (mg 37 rfl))) (by decide) (backOf (W := 0) (scheck l Z a0 hw [] i_ z_ fm h0 n0 O0 P1 (by first | assumption | omega | decide | simp_all : ¬ i_ < (0 : Int32)) (by first | assumption | omega | decide | simp_all : i_ < z_) (by first | assumption | omega | decide | simp_all : fm.isRef = true)) hZ (hw _ (mg 37 rfl)) (hw _ (mg 11 rfl)) (by decide) (by decide)) (g := (mkF m 3 #[.val (.ref xa), qI i_] [(.int z_), (.int i_)])) rfl (by rw [hml]; rfl) (argsL := [(.int i_), (.int z_)]) (rest := []) (lenOf pd_1 rfl) rfl (by show 2 * 0 + _ ≤ _; exact Nat.le_of_eq rfl) (hb hby d5_3) (fun _ _ => ⟨rfl, e0, (by decide : 0 + 0 ≤ _), (by decide : 0 + 0 ≤ _)⟩)
  dsimp only [Pt.U, Pt.locs, Pt.cells, Pt.slots] at X2 l2 y2 z2 st2 hQ2
  subst y2 z2
  obtain ⟨rfl, N2q, e2⟩ := hQ2
  have N2 : Fr n0 L2 := by rw [l2]; exact Fr.app N0 N2q
  have X2 := own_mr X2 0 0 (by decide) (by decide)
  refine Go.by st2 ?_
  show Go p e below _ (T2.setTop (mkF m 6 #[.val (.ref xa), qI i_] []))
  refine Go.by (fun t k => XS.aloadN X2.here hx rfl (hb hby d5_6) rfl rfl (XS.iloadN X2.here hx rfl (hb hby d5_7) rfl k)) ?_
  show Go p e below _ (T2.setTop (mkF m 8 #[.val (.ref xa), qI i_] [(.int i_), (.ref xa)]))
  obtain ⟨cl3, Ar3, qk3, sz3, nn3, Ha3, Gf3⟩ := id P0
  have hin4 : ¬ (i_ < 0 ∨ cl3.slots.size ≤ (i_).toNatClampNeg) := inb_of sz3 ⟨ha1, ha2⟩
  have hat5 : cl3.slots[(i_).toNatClampNeg]? = some (.int bv) := Has.at Ha3 hin4 hbv
  refine Go.by (fun t k => X2.baloadBytes hx (j := i_) (v := (.int bv)) (by rw [e2]; exact Ar3.1) (State.isArrayOf_alike hZ.alike Ar3.2.1) Ar3.2.2 hin4 hat5 (g := (mkF m 8 #[.val (.ref xa), qI i_] [(.int i_), (.ref xa)])) rfl rfl (hb hby d5_8) t k) ?_
  show Go p e below _ (T2.setTop (mkF m 9 #[.val (.ref xa), qI i_] [(.int bv)]))
  refine Go.by (fun t k => XS.sipush X2.here hx rfl (hb hby d5_9) (XS.iand X2.here hx rfl (hb hby d5_12) rfl (XS.i2c X2.here hx rfl (hb hby d5_13) rfl k))) ?_
  show Go p e below _ (T2.setTop (mkF m 14 #[.val (.ref xa), qI i_] [(.int ((bv &&& (255 : Int32)).toUInt32.toUInt16.toUInt32.toInt32))]))
  have hq : Q_latAt Z xa i_ ka z_ vs bv fm h0 n0 (some (.int (nar .char ((bv &&& (255 : Int32)).toUInt32.toUInt16.toUInt32.toInt32)))) h0 _ := ⟨rfl, N2, rfl⟩
  exact Go.retN X2 hx (t := .char) Bd.returns (by simp) hlk (hb hby d5_14) (by decide) (by decide) (by rw [e2]; exact hq)
theorem d3_0 : decode jdk_42_method_56_code 0 = .ok (.aload_n 0, 1) := by decide +kernel
theorem d3_1 : decode jdk_42_method_56_code 1 = .ok (.invokevirtual 492, 3) := by decide +kernel
theorem pd_2 : parseMethodDescriptor "()Z" = some ⟨[], some .boolean⟩ := by decide +kernel
theorem d3_4 : decode jdk_42_method_56_code 4 = .ok (.ifCond .eq 12, 3) := by decide +kernel
theorem d3_7 : decode jdk_42_method_56_code 7 = .ok (.aload_n 0, 1) := by decide +kernel
theorem d3_8 : decode jdk_42_method_56_code 8 = .ok (.getfield 9, 3) := by decide +kernel
theorem d3_11 : decode jdk_42_method_56_code 11 = .ok (.iload_n 1, 1) := by decide +kernel
theorem d3_12 : decode jdk_42_method_56_code 12 = .ok (.invokestatic 495, 3) := by decide +kernel
theorem pd_3 : parseMethodDescriptor "([BI)C" = some ⟨[(.array .byte), .int], some .char⟩ := by decide +kernel
theorem d3_15 : decode jdk_42_method_56_code 15 = .ok (.ireturn, 1) := by decide +kernel
theorem ef_strAt (m : MethodId) (sa : Addr) (i_ : Int32) : entryFrame m #[(.ref sa), (.int i_)] 2 = mkF m 0 #[.val (.ref sa), .val (.int i_)] [] := by first | (simp [entryFrame, mkF, argsToLocals, Value.category]; done) | rfl
def Q_strAt (Z : State) (sa : Addr) (i_ : Int32) (xa : Addr) (ka : ClassId) (z_ : Int32) (vs : List Value) (bv : Int32) (cs : Int32) (fm : Value) (h0 : Heap) (n0 : Nat) (v : Option Value) (h : Heap) (L : List Loc) : Prop := v = some (.int (own_lc bv)) ∧ Fr n0 L ∧ h = h0
set_option maxRecDepth 65536 in
set_option maxHeartbeats 40000000 in
theorem strAt (l : Launch) (Z : State) (a0 : Array Value) (hw : ∀ d ∈ tables_1, d.before a0 Z = true) (ws : List Jvm.Cond) (sa : Addr) (i_ : Int32) (xa : Addr) (ka : ClassId) (z_ : Int32) (vs : List Value) (bv : Int32) (cs : Int32) (fm : Value) (h0 : Heap) (n0 : Nat) (O0 : Old Z n0 h0) (P0 : Sta Z Z.heap "java/lang/String" "COMPACT_STRINGS" "Z" (.int cs)) (P1 : Exa Z h0 sa "java/lang/String") (P2 : Fld Z h0 sa "java/lang/String" "coder" "B" (.int 0)) (P3 : Fld Z h0 sa "java/lang/String" "value" "[B" (.ref xa)) (P4 : Arv Z h0 xa ka .byte z_ vs (.int 0)) (P5 : Sta Z Z.heap "jdk/internal/util/Preconditions" "SIOOBE_FORMATTER" "Ljava/util/function/BiFunction;" fm) (hcs : cs ≠ (0 : Int32)) (ha1 : ¬ i_ < (0 : Int32)) (ha2 : i_ < z_) (hbv : (vs : List Value).getD (i_).toNatClampNeg (.int 0) = .int bv) (hfm : fm.isRef = true) :
    MetFree l (⟨"java/lang/String", "charAt", "(I)C"⟩ : MethodName) (head1 (Jvm.Cond.code (⟨"java/lang/String", "charAt", "(I)C"⟩ : MethodName) jdk_42_method_56_code 2 (some .char) :: ws) ({ frames := 3, cells := 0, slots := 0, locals := 40 } : Room)) (fun a U => a = #[(.ref sa), (.int i_)] ∧ Z.Warmed39 U.vm ∧ U.heap = h0) (fun _ _ _ _ _ => True) (fun _ U o U' => ∃ v L, o = .returned v ∧ Q_strAt Z sa i_ xa ka z_ vs bv cs fm h0 n0 v U'.heap L ∧ FrameEnd U o U' L ({ frames := 3, cells := 0, slots := 0, locals := 40 } : Room).cells ({ frames := 3, cells := 0, slots := 0, locals := 40 } : Room).slots) := by
  refine MetFree.of_bodySF (plainFor_of_name pn_1) hisR ?_
  intro p e s m args below meth c s₁ Bd hml0 hP hK
  obtain ⟨rfl, hZ, hh⟩ := hP
  have hx := Bd.exec
  have hby := Bd.bytes
  have hml : c.maxLocals = 2 := hml0
  have hown : s.vm.findClass "java/lang/String" = some m.cls := findClass_of_methodNamed Bd.named
  have hnm := (name_of_methodNamed Bd.named Bd.method).1
  have hlk := BodyLoose.notSynchronized Bd
  have X0 : Stand p l e ({ frames := 3, cells := 0, slots := 0, locals := 40 } : Room) s m #[(.ref sa), (.int i_)] below meth c s₁ [] 0 0 := Stand.of_body Bd
  have e0 : s₁.heap = h0 := by rw [← hh, Bd.state]; rfl
  have N0 := Fr.nil n0
  refine Go.start (P := fun o U' => ∃ v L, o = .returned v ∧ Q_strAt Z sa i_ xa ka z_ vs bv cs fm h0 n0 v U'.heap L ∧ FrameEnd s o U' L ({ frames := 3, cells := 0, slots := 0, locals := 40 } : Room).cells ({ frames := 3, cells := 0, slots := 0, locals := 40 } : Room).slots) (ef_strAt m sa i_) ?_
  show Go p e below _ (s₁.setTop (mkF m 0 #[.val (.ref sa), qI i_] []))
  refine Go.by (fun t k => XS.aloadN X0.here hx rfl (hb hby d3_0) rfl rfl k) ?_
  show Go p e below _ (s₁.setTop (mkF m 1 #[.val (.ref sa), qI i_] [(.ref sa)]))
  obtain ⟨cq1, kq1, q1a, q1b, q1c⟩ := isOf hZ e0 P1
  obtain ⟨_, _, ⟨T1, L1, k1, n1⟩, -, X1, ⟨Lc1, hQ1, l1, y1, z1⟩, st1⟩ := X0.virtualBack hx (y := (⟨"java/lang/String", "isLatin1", "()Z"⟩ : MethodName)) (z := (⟨"java/lang/String", "isLatin1", "()Z"⟩ : MethodName)) hown (mvT hZ (hw _ (mg 23 rfl))) (mvT hZ (hw _ (mg 24 rfl))) (notFace_of_selects (args := #[]) (mvT hZ (hw _ (mg 26 rfl)))) (mvT hZ (hw _ (mg 26 rfl))) (mvT hZ (hw _ (mg 25 rfl))) (by decide) (backOf (W := 0) (isLat l Z a0 hw [] sa cs h0 n0 O0 P0 P2 (by first | assumption | omega | decide | simp_all : cs ≠ (0 : Int32))) hZ (hw _ (mg 27 rfl)) (hw _ (mg 11 rfl)) (by decide) (by decide)) q1a q1c (g := (mkF m 1 #[.val (.ref sa), qI i_] [(.ref sa)])) rfl (by rw [hml]; rfl) (Steps.refl _) (argsL := []) (rest := []) (lenOf pd_2 rfl) rfl (by show 2 * 0 + _ ≤ _; exact Nat.le_of_eq rfl) (hb hby d3_1) (fun _ _ => ⟨rfl, e0, (by decide : 0 + 0 ≤ _), (by decide : 0 + 0 ≤ _)⟩)
  dsimp only [Pt.U, Pt.locs, Pt.cells, Pt.slots] at X1 l1 y1 z1 st1 hQ1
  subst y1 z1
  obtain ⟨rfl, N1q, e1⟩ := hQ1
  have N1 : Fr n0 L1 := by rw [l1]; exact Fr.app N0 N1q
  have X1 := own_mr X1 0 0 (by decide) (by decide)
  refine Go.tr st1 ?_
  show Go p e below _ (T1.setTop (mkF m 4 #[.val (.ref sa), qI i_] [(.int 1)]))
  refine Go.by (fun t k => XS.ifNo X1.here hx rfl (hb hby d3_4) rfl ((if0 _ _).trans (feq (by decide : ¬ ((1 : Int32) = (0 : Int32)))).1) (XS.aloadN X1.here hx rfl (hb hby d3_7) rfl rfl k)) ?_
  show Go p e below _ (T1.setTop (mkF m 8 #[.val (.ref sa), qI i_] [(.ref sa)]))
  obtain ⟨T2, X2, e2, st2⟩ := getF X1 hx hZ hown (host := "") (Or.inl (hw _ (mg 30 rfl))) Via.refl e1 P3 (g := (mkF m 8 #[.val (.ref sa), qI i_] [(.ref sa)])) rfl rfl (hb hby d3_8)
  refine Go.by st2 ?_
  show Go p e below _ (T2.setTop (mkF m 11 #[.val (.ref sa), qI i_] [(.ref xa)]))
  refine Go.by (fun t k => XS.iloadN X2.here hx rfl (hb hby d3_11) rfl k) ?_
  show Go p e below _ (T2.setTop (mkF m 12 #[.val (.ref sa), qI i_] [(.int i_), (.ref xa)]))
  obtain ⟨_, _, ⟨T3, L3, k3, n3⟩, -, X3, ⟨Lc3, hQ3, l3, y3, z3⟩, st3⟩ := Jvm.LawKit.callS X2 hx (y := (⟨"java/lang/StringLatin1", "charAt", "([BI)C"⟩ : MethodName)) hown (mvT hZ (hw _ (mg 31 rfl))) (mvT hZ (hw _ (mg 32 rfl))) (mvT hZ (hw _ (mg 33 rfl))) (mvT hZ (hw _ (mg 34 rfl))) (by decide) (backOf (W := 0) (latAt l Z a0 hw [] xa i_ ka z_ vs bv fm h0 n0 O0 P4 P5 ha1 ha2 hbv hfm) hZ (hw _ (mg 34 rfl)) (hw _ (mg 33 rfl)) (by decide) (by decide)) (g := (mkF m 12 #[.val (.ref sa), qI i_] [(.int i_), (.ref xa)])) rfl (by rw [hml]; rfl) (argsL := [(.ref xa), (.int i_)]) (rest := []) (lenOf pd_3 rfl) rfl (by show 2 * 0 + _ ≤ _; exact Nat.le_of_eq rfl) (hb hby d3_12) (fun _ _ => ⟨rfl, e2, (by decide : 0 + 0 ≤ _), (by decide : 0 + 0 ≤ _)⟩)
  dsimp only [Pt.U, Pt.locs, Pt.cells, Pt.slots] at X3 l3 y3 z3 st3 hQ3
  subst y3 z3
  obtain ⟨rfl, N3q, e3⟩ := hQ3
  have N3 : Fr n0 L3 := by rw [l3]; exact Fr.app N1 N3q
  have X3 := own_mr X3 0 0 (by decide) (by decide)
  refine Go.by st3 ?_
  show Go p e below _ (T3.setTop (mkF m 15 #[.val (.ref sa), qI i_] [(.int (own_lc bv))]))
  have hq : Q_strAt Z sa i_ xa ka z_ vs bv cs fm h0 n0 (some (.int (nar .char (own_lc bv)))) h0 _ := ⟨(congrArg (fun q => some (Value.int q)) (own_narn _)), N3, rfl⟩
  exact Go.retN X3 hx (t := .char) Bd.returns (by simp) hlk (hb hby d3_15) (by decide) (by decide) (by rw [e3]; exact hq)
theorem d2_0 : decode method_5_code 0 = .ok (.iload_n 0, 1) := by decide +kernel
theorem d2_1 : decode method_5_code 1 = .ok (.iload_n 1, 1) := by decide +kernel
theorem d2_2 : decode method_5_code 2 = .ok (.if_icmp .ge 21, 3) := by decide +kernel
theorem d2_5 : decode method_5_code 5 = .ok (.iload_n 0, 1) := by decide +kernel
theorem d2_6 : decode method_5_code 6 = .ok (.iconst 1, 1) := by decide +kernel
theorem d2_7 : decode method_5_code 7 = .ok (.if_icmp .ne 5, 3) := by decide +kernel
theorem d2_10 : decode method_5_code 10 = .ok (.iload_n 3, 1) := by decide +kernel
theorem d2_11 : decode method_5_code 11 = .ok (.ireturn, 1) := by decide +kernel
theorem ef_at_x (m : MethodId) (k_ : Int32) (a_ : Int32) (x_ : Int32) (y_ : Int32) (pp : Int64) : entryFrame m #[(.int (1 : Int32)), (.int k_), (.int a_), (.int x_), (.int y_), (.long pp)] 8 = mkF m 0 #[.val (.int (1 : Int32)), .val (.int k_), .val (.int a_), .val (.int x_), .val (.int y_), .val (.long pp), .second, .unset] [] := by first | (simp [entryFrame, mkF, argsToLocals, Value.category]; done) | rfl
def Q_at_x (Z : State) (k_ : Int32) (a_ : Int32) (x_ : Int32) (y_ : Int32) (pp : Int64) (h0 : Heap) (n0 : Nat) (v : Option Value) (h : Heap) (L : List Loc) : Prop := v = some (.int x_) ∧ Fr n0 L ∧ h = h0
set_option maxRecDepth 65536 in
set_option maxHeartbeats 40000000 in
theorem at_x (l : Launch) (Z : State) (a0 : Array Value) (hw : ∀ d ∈ tables_1, d.before a0 Z = true) (ws : List Jvm.Cond) (k_ : Int32) (a_ : Int32) (x_ : Int32) (y_ : Int32) (pp : Int64) (h0 : Heap) (n0 : Nat) (O0 : Old Z n0 h0) (ha1 : (1 : Int32) < k_) (hxx : 0 ≤ x_.toInt ∧ x_.toInt ≤ 255) :
    MetFree l (⟨"com/example/bare_lock/barelock/zookeeper/LockPathsChrootPinLaw", "at", "(IIICCJ)C"⟩ : MethodName) (head1 (Jvm.Cond.code (⟨"com/example/bare_lock/barelock/zookeeper/LockPathsChrootPinLaw", "at", "(IIICCJ)C"⟩ : MethodName) method_5_code 8 (some .char) :: ws) ({ frames := 0, cells := 0, slots := 0, locals := 0 } : Room)) (fun a U => a = #[(.int 1), (.int k_), (.int a_), (.int x_), (.int y_), (.long pp)] ∧ Z.Warmed39 U.vm ∧ U.heap = h0) (fun _ _ _ _ _ => True) (fun _ U o U' => ∃ v L, o = .returned v ∧ Q_at_x Z k_ a_ x_ y_ pp h0 n0 v U'.heap L ∧ FrameEnd U o U' L ({ frames := 0, cells := 0, slots := 0, locals := 0 } : Room).cells ({ frames := 0, cells := 0, slots := 0, locals := 0 } : Room).slots) := by
  refine MetFree.of_bodySF (plainFor_of_name pn_0) hisR ?_
  intro p e s m args below meth c s₁ Bd hml0 hP hK
  obtain ⟨rfl, hZ, hh⟩ := hP
  have hx := Bd.exec
  have hby := Bd.bytes
  have hml : c.maxLocals = 8 := hml0
  have hown : s.vm.findClass "com/example/bare_lock/barelock/zookeeper/LockPathsChrootPinLaw" = some m.cls := findClass_of_methodNamed Bd.named
  have hnm := (name_of_methodNamed Bd.named Bd.method).1
  have hlk := BodyLoose.notSynchronized Bd
  have X0 : Stand p l e ({ frames := 0, cells := 0, slots := 0, locals := 0 } : Room) s m #[(.int 1), (.int k_), (.int a_), (.int x_), (.int y_), (.long pp)] below meth c s₁ [] 0 0 := Stand.of_body Bd
  have e0 : s₁.heap = h0 := by rw [← hh, Bd.state]; rfl
  have N0 := Fr.nil n0
  refine Go.start (P := fun o U' => ∃ v L, o = .returned v ∧ Q_at_x Z k_ a_ x_ y_ pp h0 n0 v U'.heap L ∧ FrameEnd s o U' L ({ frames := 0, cells := 0, slots := 0, locals := 0 } : Room).cells ({ frames := 0, cells := 0, slots := 0, locals := 0 } : Room).slots) (ef_at_x m k_ a_ x_ y_ pp) ?_
  show Go p e below _ (s₁.setTop (mkF m 0 #[qI 1, qI k_, qI a_, qI x_, qI y_, .val (.long pp), .second, qU] []))
  refine Go.by (fun t k => XS.iloadN X0.here hx rfl (hb hby d2_0) rfl (XS.iloadN X0.here hx rfl (hb hby d2_1) rfl (XS.icmpNo X0.here hx rfl (hb hby d2_2) rfl (tlt ha1).2.1 (XS.iloadN X0.here hx rfl (hb hby d2_5) rfl (XS.iconst X0.here hx rfl (hb hby d2_6) (XS.icmpNo X0.here hx rfl (hb hby d2_7) rfl (teq rfl).2 (XS.iloadN X0.here hx rfl (hb hby d2_10) rfl k))))))) ?_
  show Go p e below _ (s₁.setTop (mkF m 11 #[qI 1, qI k_, qI a_, qI x_, qI y_, .val (.long pp), .second, qU] [(.int x_)]))
  have hq : Q_at_x Z k_ a_ x_ y_ pp h0 n0 (some (.int (nar .char x_))) h0 _ := ⟨(congrArg (fun q => some (Value.int q)) (own_narc hxx)), N0, rfl⟩
  exact Go.retN X0 hx (t := .char) Bd.returns (by simp) hlk (hb hby d2_11) (by decide) (by decide) (by rw [e0]; exact hq)
theorem d2_12 : decode method_5_code 12 = .ok (.iload_n 0, 1) := by decide +kernel
theorem d2_13 : decode method_5_code 13 = .ok (.iconst 3, 1) := by decide +kernel
theorem d2_14 : decode method_5_code 14 = .ok (.if_icmp .ne 6, 3) := by decide +kernel
theorem d2_17 : decode method_5_code 17 = .ok (.iload 4, 2) := by decide +kernel
theorem d2_19 : decode method_5_code 19 = .ok (.ireturn, 1) := by decide +kernel
theorem ef_at_y (m : MethodId) (k_ : Int32) (a_ : Int32) (x_ : Int32) (y_ : Int32) (pp : Int64) : entryFrame m #[(.int (3 : Int32)), (.int k_), (.int a_), (.int x_), (.int y_), (.long pp)] 8 = mkF m 0 #[.val (.int (3 : Int32)), .val (.int k_), .val (.int a_), .val (.int x_), .val (.int y_), .val (.long pp), .second, .unset] [] := by first | (simp [entryFrame, mkF, argsToLocals, Value.category]; done) | rfl
def Q_at_y (Z : State) (k_ : Int32) (a_ : Int32) (x_ : Int32) (y_ : Int32) (pp : Int64) (h0 : Heap) (n0 : Nat) (v : Option Value) (h : Heap) (L : List Loc) : Prop := v = some (.int y_) ∧ Fr n0 L ∧ h = h0
set_option maxRecDepth 65536 in
set_option maxHeartbeats 40000000 in
theorem at_y (l : Launch) (Z : State) (a0 : Array Value) (hw : ∀ d ∈ tables_1, d.before a0 Z = true) (ws : List Jvm.Cond) (k_ : Int32) (a_ : Int32) (x_ : Int32) (y_ : Int32) (pp : Int64) (h0 : Heap) (n0 : Nat) (O0 : Old Z n0 h0) (ha1 : (3 : Int32) < k_) (hyy : 0 ≤ y_.toInt ∧ y_.toInt ≤ 255) :
    MetFree l (⟨"com/example/bare_lock/barelock/zookeeper/LockPathsChrootPinLaw", "at", "(IIICCJ)C"⟩ : MethodName) (head1 (Jvm.Cond.code (⟨"com/example/bare_lock/barelock/zookeeper/LockPathsChrootPinLaw", "at", "(IIICCJ)C"⟩ : MethodName) method_5_code 8 (some .char) :: ws) ({ frames := 0, cells := 0, slots := 0, locals := 0 } : Room)) (fun a U => a = #[(.int 3), (.int k_), (.int a_), (.int x_), (.int y_), (.long pp)] ∧ Z.Warmed39 U.vm ∧ U.heap = h0) (fun _ _ _ _ _ => True) (fun _ U o U' => ∃ v L, o = .returned v ∧ Q_at_y Z k_ a_ x_ y_ pp h0 n0 v U'.heap L ∧ FrameEnd U o U' L ({ frames := 0, cells := 0, slots := 0, locals := 0 } : Room).cells ({ frames := 0, cells := 0, slots := 0, locals := 0 } : Room).slots) := by
  refine MetFree.of_bodySF (plainFor_of_name pn_0) hisR ?_
  intro p e s m args below meth c s₁ Bd hml0 hP hK
  obtain ⟨rfl, hZ, hh⟩ := hP
  have hx := Bd.exec
  have hby := Bd.bytes
  have hml : c.maxLocals = 8 := hml0
  have hown : s.vm.findClass "com/example/bare_lock/barelock/zookeeper/LockPathsChrootPinLaw" = some m.cls := findClass_of_methodNamed Bd.named
  have hnm := (name_of_methodNamed Bd.named Bd.method).1
  have hlk := BodyLoose.notSynchronized Bd
  have X0 : Stand p l e ({ frames := 0, cells := 0, slots := 0, locals := 0 } : Room) s m #[(.int 3), (.int k_), (.int a_), (.int x_), (.int y_), (.long pp)] below meth c s₁ [] 0 0 := Stand.of_body Bd
  have e0 : s₁.heap = h0 := by rw [← hh, Bd.state]; rfl
  have N0 := Fr.nil n0
  refine Go.start (P := fun o U' => ∃ v L, o = .returned v ∧ Q_at_y Z k_ a_ x_ y_ pp h0 n0 v U'.heap L ∧ FrameEnd s o U' L ({ frames := 0, cells := 0, slots := 0, locals := 0 } : Room).cells ({ frames := 0, cells := 0, slots := 0, locals := 0 } : Room).slots) (ef_at_y m k_ a_ x_ y_ pp) ?_
  show Go p e below _ (s₁.setTop (mkF m 0 #[qI 3, qI k_, qI a_, qI x_, qI y_, .val (.long pp), .second, qU] []))
  refine Go.by (fun t k => XS.iloadN X0.here hx rfl (hb hby d2_0) rfl (XS.iloadN X0.here hx rfl (hb hby d2_1) rfl (XS.icmpNo X0.here hx rfl (hb hby d2_2) rfl (tlt ha1).2.1 (XS.iloadN X0.here hx rfl (hb hby d2_5) rfl (XS.iconst X0.here hx rfl (hb hby d2_6) (XS.icmpYes X0.here hx rfl (pc0 := 7) (pc' := 12) rfl (hb hby d2_7) rfl (feq (by decide : ¬ ((3 : Int32) = (1 : Int32)))).2 (by decide) (by decide) (XS.iloadN X0.here hx rfl (hb hby d2_12) rfl (XS.iconst X0.here hx rfl (hb hby d2_13) k)))))))) ?_
  show Go p e below _ (s₁.setTop (mkF m 14 #[qI 3, qI k_, qI a_, qI x_, qI y_, .val (.long pp), .second, qU] [(.int 3), (.int 3)]))
  refine Go.by (fun t k => XS.icmpNo X0.here hx rfl (hb hby d2_14) rfl (teq rfl).2 (XS.iload X0.here hx rfl (hb hby d2_17) rfl k)) ?_
  show Go p e below _ (s₁.setTop (mkF m 19 #[qI 3, qI k_, qI a_, qI x_, qI y_, .val (.long pp), .second, qU] [(.int y_)]))
  have hq : Q_at_y Z k_ a_ x_ y_ pp h0 n0 (some (.int (nar .char y_))) h0 _ := ⟨(congrArg (fun q => some (Value.int q)) (own_narc hyy)), N0, rfl⟩
  exact Go.retN X0 hx (t := .char) Bd.returns (by simp) hlk (hb hby d2_19) (by decide) (by decide) (by rw [e0]; exact hq)
theorem d2_20 : decode method_5_code 20 = .ok (.bipush 47, 2) := by decide +kernel
theorem d2_22 : decode method_5_code 22 = .ok (.ireturn, 1) := by decide +kernel
theorem ef_at_s (m : MethodId) (i_ : Int32) (k_ : Int32) (a_ : Int32) (x_ : Int32) (y_ : Int32) (pp : Int64) : entryFrame m #[(.int i_), (.int k_), (.int a_), (.int x_), (.int y_), (.long pp)] 8 = mkF m 0 #[.val (.int i_), .val (.int k_), .val (.int a_), .val (.int x_), .val (.int y_), .val (.long pp), .second, .unset] [] := by first | (simp [entryFrame, mkF, argsToLocals, Value.category]; done) | rfl
def Q_at_s (Z : State) (i_ : Int32) (k_ : Int32) (a_ : Int32) (x_ : Int32) (y_ : Int32) (pp : Int64) (h0 : Heap) (n0 : Nat) (v : Option Value) (h : Heap) (L : List Loc) : Prop := v = some (.int 47) ∧ Fr n0 L ∧ h = h0
set_option maxRecDepth 65536 in
set_option maxHeartbeats 40000000 in
theorem at_s (l : Launch) (Z : State) (a0 : Array Value) (hw : ∀ d ∈ tables_1, d.before a0 Z = true) (ws : List Jvm.Cond) (i_ : Int32) (k_ : Int32) (a_ : Int32) (x_ : Int32) (y_ : Int32) (pp : Int64) (h0 : Heap) (n0 : Nat) (O0 : Old Z n0 h0) (ha1 : i_ < k_) (hm1 : ¬ i_ = (1 : Int32)) (hm3 : ¬ i_ = (3 : Int32)) :
    MetFree l (⟨"com/example/bare_lock/barelock/zookeeper/LockPathsChrootPinLaw", "at", "(IIICCJ)C"⟩ : MethodName) (head1 (Jvm.Cond.code (⟨"com/example/bare_lock/barelock/zookeeper/LockPathsChrootPinLaw", "at", "(IIICCJ)C"⟩ : MethodName) method_5_code 8 (some .char) :: ws) ({ frames := 0, cells := 0, slots := 0, locals := 0 } : Room)) (fun a U => a = #[(.int i_), (.int k_), (.int a_), (.int x_), (.int y_), (.long pp)] ∧ Z.Warmed39 U.vm ∧ U.heap = h0) (fun _ _ _ _ _ => True) (fun _ U o U' => ∃ v L, o = .returned v ∧ Q_at_s Z i_ k_ a_ x_ y_ pp h0 n0 v U'.heap L ∧ FrameEnd U o U' L ({ frames := 0, cells := 0, slots := 0, locals := 0 } : Room).cells ({ frames := 0, cells := 0, slots := 0, locals := 0 } : Room).slots) := by
  refine MetFree.of_bodySF (plainFor_of_name pn_0) hisR ?_
  intro p e s m args below meth c s₁ Bd hml0 hP hK
  obtain ⟨rfl, hZ, hh⟩ := hP
  have hx := Bd.exec
  have hby := Bd.bytes
  have hml : c.maxLocals = 8 := hml0
  have hown : s.vm.findClass "com/example/bare_lock/barelock/zookeeper/LockPathsChrootPinLaw" = some m.cls := findClass_of_methodNamed Bd.named
  have hnm := (name_of_methodNamed Bd.named Bd.method).1
  have hlk := BodyLoose.notSynchronized Bd
  have X0 : Stand p l e ({ frames := 0, cells := 0, slots := 0, locals := 0 } : Room) s m #[(.int i_), (.int k_), (.int a_), (.int x_), (.int y_), (.long pp)] below meth c s₁ [] 0 0 := Stand.of_body Bd
  have e0 : s₁.heap = h0 := by rw [← hh, Bd.state]; rfl
  have N0 := Fr.nil n0
  refine Go.start (P := fun o U' => ∃ v L, o = .returned v ∧ Q_at_s Z i_ k_ a_ x_ y_ pp h0 n0 v U'.heap L ∧ FrameEnd s o U' L ({ frames := 0, cells := 0, slots := 0, locals := 0 } : Room).cells ({ frames := 0, cells := 0, slots := 0, locals := 0 } : Room).slots) (ef_at_s m i_ k_ a_ x_ y_ pp) ?_
  show Go p e below _ (s₁.setTop (mkF m 0 #[qI i_, qI k_, qI a_, qI x_, qI y_, .val (.long pp), .second, qU] []))
  refine Go.by (fun t k => XS.iloadN X0.here hx rfl (hb hby d2_0) rfl (XS.iloadN X0.here hx rfl (hb hby d2_1) rfl (XS.icmpNo X0.here hx rfl (hb hby d2_2) rfl (tlt ha1).2.1 (XS.iloadN X0.here hx rfl (hb hby d2_5) rfl (XS.iconst X0.here hx rfl (hb hby d2_6) (XS.icmpYes X0.here hx rfl (pc0 := 7) (pc' := 12) rfl (hb hby d2_7) rfl (feq hm1).2 (by decide) (by decide) (XS.iloadN X0.here hx rfl (hb hby d2_12) rfl (XS.iconst X0.here hx rfl (hb hby d2_13) k)))))))) ?_
  show Go p e below _ (s₁.setTop (mkF m 14 #[qI i_, qI k_, qI a_, qI x_, qI y_, .val (.long pp), .second, qU] [(.int 3), (.int i_)]))
  refine Go.by (fun t k => XS.icmpYes X0.here hx rfl (pc0 := 14) (pc' := 20) rfl (hb hby d2_14) rfl (feq hm3).2 (by decide) (by decide) (XS.bipush X0.here hx rfl (hb hby d2_20) k)) ?_
  show Go p e below _ (s₁.setTop (mkF m 22 #[qI i_, qI k_, qI a_, qI x_, qI y_, .val (.long pp), .second, qU] [(.int 47)]))
  have hq : Q_at_s Z i_ k_ a_ x_ y_ pp h0 n0 (some (.int (nar .char (47 : Int32)))) h0 _ := ⟨rfl, N0, rfl⟩
  exact Go.retN X0 hx (t := .char) Bd.returns (by simp) hlk (hb hby d2_22) (by decide) (by decide) (by rw [e0]; exact hq)
theorem d2_23 : decode method_5_code 23 = .ok (.iload_n 0, 1) := by decide +kernel
theorem d2_24 : decode method_5_code 24 = .ok (.iload_n 1, 1) := by decide +kernel
theorem d2_25 : decode method_5_code 25 = .ok (.isub, 1) := by decide +kernel
theorem d2_26 : decode method_5_code 26 = .ok (.istore 7, 2) := by decide +kernel
theorem d2_28 : decode method_5_code 28 = .ok (.iload 7, 2) := by decide +kernel
theorem d2_30 : decode method_5_code 30 = .ok (.bipush 11, 2) := by decide +kernel
theorem d2_32 : decode method_5_code 32 = .ok (.if_icmp .ge 11, 3) := by decide +kernel
theorem d2_35 : decode method_5_code 35 = .ok (.ldc 38, 2) := by decide +kernel
theorem d2_37 : decode method_5_code 37 = .ok (.iload 7, 2) := by decide +kernel
theorem d2_39 : decode method_5_code 39 = .ok (.invokevirtual 40, 3) := by decide +kernel
theorem pd_4 : parseMethodDescriptor "(I)C" = some ⟨[.int], some .char⟩ := by decide +kernel
theorem d2_42 : decode method_5_code 42 = .ok (.ireturn, 1) := by decide +kernel
theorem ef_at_lit (m : MethodId) (i_ : Int32) (k_ : Int32) (a_ : Int32) (x_ : Int32) (y_ : Int32) (pp : Int64) : entryFrame m #[(.int i_), (.int k_), (.int a_), (.int x_), (.int y_), (.long pp)] 8 = mkF m 0 #[.val (.int i_), .val (.int k_), .val (.int a_), .val (.int x_), .val (.int y_), .val (.long pp), .second, .unset] [] := by first | (simp [entryFrame, mkF, argsToLocals, Value.category]; done) | rfl
def Q_at_lit (Z : State) (i_ : Int32) (k_ : Int32) (a_ : Int32) (x_ : Int32) (y_ : Int32) (pp : Int64) (bv : Int32) (cs : Int32) (fm : Value) (h0 : Heap) (n0 : Nat) (v : Option Value) (h : Heap) (L : List Loc) : Prop := v = some (.int (own_lc bv)) ∧ Fr n0 L ∧ Keep h0 h []
set_option maxRecDepth 65536 in
set_option maxHeartbeats 40000000 in
theorem at_lit (l : Launch) (Z : State) (a0 : Array Value) (hw : ∀ d ∈ tables_1, d.before a0 Z = true) (ws : List Jvm.Cond) (i_ : Int32) (k_ : Int32) (a_ : Int32) (x_ : Int32) (y_ : Int32) (pp : Int64) (bv : Int32) (cs : Int32) (fm : Value) (h0 : Heap) (n0 : Nat) (O0 : Old Z n0 h0) (P0 : Sta Z Z.heap "java/lang/String" "COMPACT_STRINGS" "Z" (.int cs)) (P1 : Sta Z Z.heap "jdk/internal/util/Preconditions" "SIOOBE_FORMATTER" "Ljava/util/function/BiFunction;" fm) (hcs : cs ≠ (0 : Int32)) (ha0 : ¬ i_ < k_) (ha1 : ¬ (i_ - k_) < (0 : Int32)) (ha2 : (i_ - k_) < (11 : Int32)) (hbv : ([(.int 47), (.int 98), (.int 97), (.int 114), (.int 101), (.int 45), (.int 108), (.int 111), (.int 99), (.int 107), (.int 47)] : List Value).getD ((i_ - k_)).toNatClampNeg (.int 0) = .int bv) (hfm : fm.isRef = true) :
    MetFree l (⟨"com/example/bare_lock/barelock/zookeeper/LockPathsChrootPinLaw", "at", "(IIICCJ)C"⟩ : MethodName) (head1 (Jvm.Cond.code (⟨"com/example/bare_lock/barelock/zookeeper/LockPathsChrootPinLaw", "at", "(IIICCJ)C"⟩ : MethodName) method_5_code 8 (some .char) :: ws) ({ frames := 4, cells := 2, slots := 48, locals := 53 } : Room)) (fun a U => a = #[(.int i_), (.int k_), (.int a_), (.int x_), (.int y_), (.long pp)] ∧ Z.Warmed39 U.vm ∧ U.heap = h0 ∧ CHv Z own_EL U.vm h0) (fun _ _ _ _ _ => True) (fun _ U o U' => ∃ v L, o = .returned v ∧ Q_at_lit Z i_ k_ a_ x_ y_ pp bv cs fm h0 n0 v U'.heap L ∧ CHr Z own_EL U.vm U.heap U'.vm U'.heap ∧ ReturnedEndW U o U' L ({ frames := 4, cells := 2, slots := 48, locals := 53 } : Room).cells ({ frames := 4, cells := 2, slots := 48, locals := 53 } : Room).slots) := by
  refine MetFree.of_bodySF (plainFor_of_name pn_0) hisR ?_
  intro p e s m args below meth c s₁ Bd hml0 hP hK
  obtain ⟨rfl, hZ, hh, hCH⟩ := hP
  have hx := Bd.exec
  have hby := Bd.bytes
  have hml : c.maxLocals = 8 := hml0
  have hown : s.vm.findClass "com/example/bare_lock/barelock/zookeeper/LockPathsChrootPinLaw" = some m.cls := findClass_of_methodNamed Bd.named
  have hnm := (name_of_methodNamed Bd.named Bd.method).1
  have hlk := BodyLoose.notSynchronized Bd
  have X0 : Stand p l e ({ frames := 4, cells := 2, slots := 48, locals := 53 } : Room) (s.setVm s.vm) m #[(.int i_), (.int k_), (.int a_), (.int x_), (.int y_), (.long pp)] below meth c s₁ [] 0 0 := Stand.of_body Bd
  have e0 : s₁.heap = h0 := by rw [← hh, Bd.state]; rfl
  have N0 := Fr.nil n0
  have hS : s.Since s.vm h0.size := (State.WarmedH.refl s).since _
  have hk0 : h0.size ≤ h0.size := Nat.le_refl _
  have wS : ∀ a ∈ Bundle.stringAtoms, a.before a0 Z = true := fun a q => hw a (own_sA a q)
  have hEL : EW Z a0 own_EL := own_EW hw
  have hR0 : CHr Z own_EL s.vm h0 s.vm h0 := CHr.refl hCH
  refine Go.start (P := fun o U' => ∃ v L, o = .returned v ∧ Q_at_lit Z i_ k_ a_ x_ y_ pp bv cs fm h0 n0 v U'.heap L ∧ CHr Z own_EL s.vm s.heap U'.vm U'.heap ∧ ReturnedEndW s o U' L ({ frames := 4, cells := 2, slots := 48, locals := 53 } : Room).cells ({ frames := 4, cells := 2, slots := 48, locals := 53 } : Room).slots) (ef_at_lit m i_ k_ a_ x_ y_ pp) ?_
  show Go p e below _ (s₁.setTop (mkF m 0 #[qI i_, qI k_, qI a_, qI x_, qI y_, .val (.long pp), .second, qU] []))
  refine Go.by (fun t k => XS.iloadN X0.here hx rfl (hb hby d2_0) rfl (XS.iloadN X0.here hx rfl (hb hby d2_1) rfl (XS.icmpYes X0.here hx rfl (pc0 := 2) (pc' := 23) rfl (hb hby d2_2) rfl (flt ha0).2.1 (by decide) (by decide) (XS.iloadN X0.here hx rfl (hb hby d2_23) rfl (XS.iloadN X0.here hx rfl (hb hby d2_24) rfl (XS.isub X0.here hx rfl (hb hby d2_25) rfl (XS.istore X0.here hx rfl (hb hby d2_26) rfl (l' := #[qI i_, qI k_, qI a_, qI x_, qI y_, .val (.long pp), .second, .val (.int (i_ - k_))]) rfl (XS.iload X0.here hx rfl (hb hby d2_28) rfl k)))))))) ?_
  show Go p e below _ (s₁.setTop (mkF m 30 #[qI i_, qI k_, qI a_, qI x_, qI y_, .val (.long pp), .second, .val (.int (i_ - k_))] [(.int (i_ - k_))]))
  refine Go.by (fun t k => XS.bipush X0.here hx rfl (hb hby d2_30) (XS.icmpNo X0.here hx rfl (hb hby d2_32) rfl (tlt ha2).2.1 k)) ?_
  show Go p e below _ (s₁.setTop (mkF m 35 #[qI i_, qI k_, qI a_, qI x_, qI y_, .val (.long pp), .second, .val (.int (i_ - k_))] []))
  obtain ⟨a1, T1, h1, k1, d1, kd1, X1, e1, E1, hS, hk1, hZ, hown, F1_e, F1_c, F1_v, F1_a, -, -, C1, -, ns1, st1⟩ := ldcCH X0 hx hZ hown (hw _ (mg 10 rfl)) wS e0 hS hk0 hEL (List.mem_of_getElem? (i := 2) rfl) hR0.1 (vs := [(.int 47), (.int 98), (.int 97), (.int 114), (.int 101), (.int 45), (.int 108), (.int 111), (.int 99), (.int 107), (.int 47)]) (z := (11 : Int32)) ⟨by decide, rfl⟩ (by decide) rfl (g := (mkF m 35 #[qI i_, qI k_, qI a_, qI x_, qI y_, .val (.long pp), .second, .val (.int (i_ - k_))] [])) rfl (hb hby d2_35) (n := 44) (by decide) (by decide) (by decide) (by decide)
  have A1 := hR0.trans C1
  refine Go.by st1 ?_
  show Go p e below _ (T1.setTop (mkF m 37 #[qI i_, qI k_, qI a_, qI x_, qI y_, .val (.long pp), .second, .val (.int (i_ - k_))] [(.ref a1)]))
  refine Go.by (fun t k => XS.iload X1.here hx rfl (hb hby d2_37) rfl k) ?_
  show Go p e below _ (T1.setTop (mkF m 39 #[qI i_, qI k_, qI a_, qI x_, qI y_, .val (.long pp), .second, .val (.int (i_ - k_))] [(.int (i_ - k_)), (.ref a1)]))
  have F3 : Old Z n0 h1 := (O0.ext E1)
  have F4 : Keep h0 h1 [] := ((Keep.refl h0 []).ext E1)
  obtain ⟨cq2, kq2, q2a, q2b, q2c⟩ := isOf hZ e1 F1_e
  obtain ⟨_, _, ⟨T2, L2, k2, n2⟩, -, X2, ⟨Lc2, hQ2, l2, y2, z2⟩, st2⟩ := X1.virtualBack hx (y := (⟨"java/lang/String", "charAt", "(I)C"⟩ : MethodName)) (z := (⟨"java/lang/String", "charAt", "(I)C"⟩ : MethodName)) hown (mvT hZ (hw _ (mg 18 rfl))) (mvT hZ (hw _ (mg 19 rfl))) (notFace_of_selects (args := #[]) (mvT hZ (hw _ (mg 21 rfl)))) (mvT hZ (hw _ (mg 21 rfl))) (mvT hZ (hw _ (mg 20 rfl))) (by decide) (backOf (W := 0) (strAt l Z a0 hw [] a1 (i_ - k_) d1 kd1 (11 : Int32) ([(.int 47), (.int 98), (.int 97), (.int 114), (.int 101), (.int 45), (.int 108), (.int 111), (.int 99), (.int 107), (.int 47)]) bv cs fm h1 n0 F3 P0 F1_e F1_c F1_v F1_a P1 hcs ha1 ha2 hbv hfm) hZ (hw _ (mg 22 rfl)) (hw _ (mg 11 rfl)) (by decide) (by decide)) q2a q2c (g := (mkF m 39 #[qI i_, qI k_, qI a_, qI x_, qI y_, .val (.long pp), .second, .val (.int (i_ - k_))] [(.int (i_ - k_)), (.ref a1)])) rfl (by rw [hml]; rfl) (Steps.refl _) (argsL := [(.int (i_ - k_))]) (rest := []) (lenOf pd_4 rfl) rfl (by show 2 * 0 + _ ≤ _; exact Nat.le_of_eq rfl) (hb hby d2_39) (fun _ _ => ⟨rfl, e1, (by decide : 2 + 0 ≤ _), (by decide : 48 + 0 ≤ _)⟩)
  dsimp only [Pt.U, Pt.locs, Pt.cells, Pt.slots] at X2 l2 y2 z2 st2 hQ2
  subst y2 z2
  obtain ⟨rfl, N2q, e2⟩ := hQ2
  have N2 : Fr n0 L2 := by rw [l2]; exact Fr.app N0 N2q
  have X2 := own_mr X2 2 48 (by decide) (by decide)
  refine Go.tr st2 ?_
  show Go p e below _ (T2.setTop (mkF m 42 #[qI i_, qI k_, qI a_, qI x_, qI y_, .val (.long pp), .second, .val (.int (i_ - k_))] [(.int (own_lc bv))]))
  have hq : Q_at_lit Z i_ k_ a_ x_ y_ pp bv cs fm h0 n0 (some (.int (nar .char (own_lc bv)))) h1 _ := ⟨(congrArg (fun q => some (Value.int q)) (own_narn _)), N2, F4⟩
  exact Go.retNH hS (by rw [e2]; exact hk1) (own_chEnd X2 e2 hZ hEL A1 hh) X2 hx (t := .char) Bd.returns (by simp) hlk (hb hby d2_42) (by decide) (by decide) (by rw [e2]; exact hq)
theorem d2_43 : decode method_5_code 43 = .ok (.iload 7, 2) := by decide +kernel
theorem d2_45 : decode method_5_code 45 = .ok (.bipush 11, 2) := by decide +kernel
theorem d2_47 : decode method_5_code 47 = .ok (.isub, 1) := by decide +kernel
theorem d2_48 : decode method_5_code 48 = .ok (.istore 7, 2) := by decide +kernel
theorem d2_50 : decode method_5_code 50 = .ok (.iload 7, 2) := by decide +kernel
theorem d2_52 : decode method_5_code 52 = .ok (.iload_n 2, 1) := by decide +kernel
theorem d2_53 : decode method_5_code 53 = .ok (.if_icmp .ge 11, 3) := by decide +kernel
theorem d2_56 : decode method_5_code 56 = .ok (.lload 5, 2) := by decide +kernel
theorem d2_58 : decode method_5_code 58 = .ok (.iload 7, 2) := by decide +kernel
theorem d2_60 : decode method_5_code 60 = .ok (.invokestatic 43, 3) := by decide +kernel
theorem pd_5 : parseMethodDescriptor "(JI)C" = some ⟨[.long, .int], some .char⟩ := by decide +kernel
theorem d2_63 : decode method_5_code 63 = .ok (.ireturn, 1) := by decide +kernel
theorem d2_64 : decode method_5_code 64 = .ok (.iload 7, 2) := by decide +kernel
theorem d2_66 : decode method_5_code 66 = .ok (.iload_n 2, 1) := by decide +kernel
theorem d2_67 : decode method_5_code 67 = .ok (.if_icmp .ne 6, 3) := by decide +kernel
theorem d2_70 : decode method_5_code 70 = .ok (.bipush 47, 2) := by decide +kernel
theorem d2_72 : decode method_5_code 72 = .ok (.ireturn, 1) := by decide +kernel
theorem d2_73 : decode method_5_code 73 = .ok (.lload 5, 2) := by decide +kernel
theorem d2_75 : decode method_5_code 75 = .ok (.iload 7, 2) := by decide +kernel
theorem d2_77 : decode method_5_code 77 = .ok (.iconst 1, 1) := by decide +kernel
theorem d2_78 : decode method_5_code 78 = .ok (.isub, 1) := by decide +kernel
theorem d2_79 : decode method_5_code 79 = .ok (.invokestatic 43, 3) := by decide +kernel
theorem d2_82 : decode method_5_code 82 = .ok (.ireturn, 1) := by decide +kernel
theorem ef_at_tail (m : MethodId) (i_ : Int32) (k_ : Int32) (a_ : Int32) (x_ : Int32) (y_ : Int32) (pp : Int64) : entryFrame m #[(.int i_), (.int k_), (.int a_), (.int x_), (.int y_), (.long pp)] 8 = mkF m 0 #[.val (.int i_), .val (.int k_), .val (.int a_), .val (.int x_), .val (.int y_), .val (.long pp), .second, .unset] [] := by first | (simp [entryFrame, mkF, argsToLocals, Value.category]; done) | rfl
def Q_at_tail (Z : State) (i_ : Int32) (k_ : Int32) (a_ : Int32) (x_ : Int32) (y_ : Int32) (pp : Int64) (h0 : Heap) (n0 : Nat) (v : Option Value) (h : Heap) (L : List Loc) : Prop := ∃ tv : Int32, v = some (.int tv) ∧ Fr n0 L ∧ h = h0 ∧ (0 ≤ tv.toInt ∧ tv.toInt ≤ 255) ∧ (((i_ - k_) - (11 : Int32)) = a_ → tv = (47 : Int32)) ∧ (¬ ((i_ - k_) - (11 : Int32)) = a_ → tv.toInt ≠ 47)
set_option maxRecDepth 65536 in
set_option maxHeartbeats 40000000 in
theorem at_tail (l : Launch) (Z : State) (a0 : Array Value) (hw : ∀ d ∈ tables_1, d.before a0 Z = true) (ws : List Jvm.Cond) (i_ : Int32) (k_ : Int32) (a_ : Int32) (x_ : Int32) (y_ : Int32) (pp : Int64) (h0 : Heap) (n0 : Nat) (O0 : Old Z n0 h0) (ha0 : ¬ i_ < k_) (ha2 : ¬ (i_ - k_) < (11 : Int32)) :
    MetFree l (⟨"com/example/bare_lock/barelock/zookeeper/LockPathsChrootPinLaw", "at", "(IIICCJ)C"⟩ : MethodName) (head1 (Jvm.Cond.code (⟨"com/example/bare_lock/barelock/zookeeper/LockPathsChrootPinLaw", "at", "(IIICCJ)C"⟩ : MethodName) method_5_code 8 (some .char) :: ws) ({ frames := 1, cells := 0, slots := 0, locals := 15 } : Room)) (fun a U => a = #[(.int i_), (.int k_), (.int a_), (.int x_), (.int y_), (.long pp)] ∧ Z.Warmed39 U.vm ∧ U.heap = h0) (fun _ _ _ _ _ => True) (fun _ U o U' => ∃ v L, o = .returned v ∧ Q_at_tail Z i_ k_ a_ x_ y_ pp h0 n0 v U'.heap L ∧ FrameEnd U o U' L ({ frames := 1, cells := 0, slots := 0, locals := 15 } : Room).cells ({ frames := 1, cells := 0, slots := 0, locals := 15 } : Room).slots) := by
  refine MetFree.of_bodySF (plainFor_of_name pn_0) hisR ?_
  intro p e s m args below meth c s₁ Bd hml0 hP hK
  obtain ⟨rfl, hZ, hh⟩ := hP
  have hx := Bd.exec
  have hby := Bd.bytes
  have hml : c.maxLocals = 8 := hml0
  have hown : s.vm.findClass "com/example/bare_lock/barelock/zookeeper/LockPathsChrootPinLaw" = some m.cls := findClass_of_methodNamed Bd.named
  have hnm := (name_of_methodNamed Bd.named Bd.method).1
  have hlk := BodyLoose.notSynchronized Bd
  have X0 : Stand p l e ({ frames := 1, cells := 0, slots := 0, locals := 15 } : Room) s m #[(.int i_), (.int k_), (.int a_), (.int x_), (.int y_), (.long pp)] below meth c s₁ [] 0 0 := Stand.of_body Bd
  have e0 : s₁.heap = h0 := by rw [← hh, Bd.state]; rfl
  have N0 := Fr.nil n0
  refine Go.start (P := fun o U' => ∃ v L, o = .returned v ∧ Q_at_tail Z i_ k_ a_ x_ y_ pp h0 n0 v U'.heap L ∧ FrameEnd s o U' L ({ frames := 1, cells := 0, slots := 0, locals := 15 } : Room).cells ({ frames := 1, cells := 0, slots := 0, locals := 15 } : Room).slots) (ef_at_tail m i_ k_ a_ x_ y_ pp) ?_
  show Go p e below _ (s₁.setTop (mkF m 0 #[qI i_, qI k_, qI a_, qI x_, qI y_, .val (.long pp), .second, qU] []))
  refine Go.by (fun t k => XS.iloadN X0.here hx rfl (hb hby d2_0) rfl (XS.iloadN X0.here hx rfl (hb hby d2_1) rfl (XS.icmpYes X0.here hx rfl (pc0 := 2) (pc' := 23) rfl (hb hby d2_2) rfl (flt ha0).2.1 (by decide) (by decide) (XS.iloadN X0.here hx rfl (hb hby d2_23) rfl (XS.iloadN X0.here hx rfl (hb hby d2_24) rfl (XS.isub X0.here hx rfl (hb hby d2_25) rfl (XS.istore X0.here hx rfl (hb hby d2_26) rfl (l' := #[qI i_, qI k_, qI a_, qI x_, qI y_, .val (.long pp), .second, .val (.int (i_ - k_))]) rfl (XS.iload X0.here hx rfl (hb hby d2_28) rfl k)))))))) ?_
  show Go p e below _ (s₁.setTop (mkF m 30 #[qI i_, qI k_, qI a_, qI x_, qI y_, .val (.long pp), .second, .val (.int (i_ - k_))] [(.int (i_ - k_))]))
  refine Go.by (fun t k => XS.bipush X0.here hx rfl (hb hby d2_30) (XS.icmpYes X0.here hx rfl (pc0 := 32) (pc' := 43) rfl (hb hby d2_32) rfl (flt ha2).2.1 (by decide) (by decide) (XS.iload X0.here hx rfl (hb hby d2_43) rfl (XS.bipush X0.here hx rfl (hb hby d2_45) (XS.isub X0.here hx rfl (hb hby d2_47) rfl (XS.istore X0.here hx rfl (hb hby d2_48) rfl (l' := #[qI i_, qI k_, qI a_, qI x_, qI y_, .val (.long pp), .second, .val (.int ((i_ - k_) - (11 : Int32)))]) rfl (XS.iload X0.here hx rfl (hb hby d2_50) rfl (XS.iloadN X0.here hx rfl (hb hby d2_52) rfl k)))))))) ?_
  show Go p e below _ (s₁.setTop (mkF m 53 #[qI i_, qI k_, qI a_, qI x_, qI y_, .val (.long pp), .second, .val (.int ((i_ - k_) - (11 : Int32)))] [(.int a_), (.int ((i_ - k_) - (11 : Int32)))]))
  by_cases hc1 : ((i_ - k_) - (11 : Int32)) < a_
  · skip
    refine Go.by (fun t k => XS.icmpNo X0.here hx rfl (hb hby d2_53) rfl (tlt hc1).2.1 (XS.lload X0.here hx rfl (hb hby d2_56) rfl (XS.iload X0.here hx rfl (hb hby d2_58) rfl k))) ?_
    show Go p e below _ (s₁.setTop (mkF m 60 #[qI i_, qI k_, qI a_, qI x_, qI y_, .val (.long pp), .second, .val (.int ((i_ - k_) - (11 : Int32)))] [(.int ((i_ - k_) - (11 : Int32))), (.long pp)]))
    obtain ⟨_, _, ⟨T2, L2, k2, n2⟩, -, X2, ⟨Lc2, hQ2, l2, y2, z2⟩, st2⟩ := Jvm.LawKit.callS X0 hx (y := (⟨"com/example/bare_lock/barelock/zookeeper/LockPathsChrootPinLaw", "partChar", "(JI)C"⟩ : MethodName)) hown (mvT hZ (hw _ (mg 43 rfl))) (mvT hZ (hw _ (mg 44 rfl))) (mvT hZ (hw _ (mg 4 rfl))) (mvT hZ (hw _ (mg 45 rfl))) (by decide) (backOf (W := 0) (pchar l Z a0 hw [] pp ((i_ - k_) - (11 : Int32)) h0 n0 O0) hZ (hw _ (mg 45 rfl)) (hw _ (mg 4 rfl)) (by decide) (by decide)) (g := (mkF m 60 #[qI i_, qI k_, qI a_, qI x_, qI y_, .val (.long pp), .second, .val (.int ((i_ - k_) - (11 : Int32)))] [(.int ((i_ - k_) - (11 : Int32))), (.long pp)])) rfl (by rw [hml]; rfl) (argsL := [(.long pp), (.int ((i_ - k_) - (11 : Int32)))]) (rest := []) (lenOf pd_5 rfl) rfl (by show 2 * 0 + _ ≤ _; exact Nat.le_of_eq rfl) (hb hby d2_60) (fun _ _ => ⟨rfl, e0, (by decide : 0 + 0 ≤ _), (by decide : 0 + 0 ≤ _)⟩)
    dsimp only [Pt.U, Pt.locs, Pt.cells, Pt.slots] at X2 l2 y2 z2 st2 hQ2
    subst y2 z2
    obtain ⟨pv_2, rfl, N2q, e2, hp_2⟩ := hQ2
    have N2 : Fr n0 L2 := by rw [l2]; exact Fr.app N0 N2q
    have X2 := own_mr X2 0 0 (by decide) (by decide)
    refine Go.by st2 ?_
    show Go p e below _ (T2.setTop (mkF m 63 #[qI i_, qI k_, qI a_, qI x_, qI y_, .val (.long pp), .second, .val (.int ((i_ - k_) - (11 : Int32)))] [(.int pv_2)]))
    have hq : Q_at_tail Z i_ k_ a_ x_ y_ pp h0 n0 (some (.int (nar .char pv_2))) h0 _ := ⟨(nar .char pv_2), rfl, N2, rfl, (by rw [own_narc ⟨hp_2.1, hp_2.2.1⟩]; exact ⟨hp_2.1, hp_2.2.1⟩), (fun q => absurd hc1 (by rw [q]; exact Int32.lt_irrefl)), (fun _ => by rw [own_narc ⟨hp_2.1, hp_2.2.1⟩]; exact hp_2.2.2)⟩
    exact Go.retN X2 hx (t := .char) Bd.returns (by simp) hlk (hb hby d2_63) (by decide) (by decide) (by rw [e2]; exact hq)
  · skip
    refine Go.by (fun t k => XS.icmpYes X0.here hx rfl (pc0 := 53) (pc' := 64) rfl (hb hby d2_53) rfl (flt hc1).2.1 (by decide) (by decide) (XS.iload X0.here hx rfl (hb hby d2_64) rfl (XS.iloadN X0.here hx rfl (hb hby d2_66) rfl k))) ?_
    show Go p e below _ (s₁.setTop (mkF m 67 #[qI i_, qI k_, qI a_, qI x_, qI y_, .val (.long pp), .second, .val (.int ((i_ - k_) - (11 : Int32)))] [(.int a_), (.int ((i_ - k_) - (11 : Int32)))]))
    by_cases hc3 : ((i_ - k_) - (11 : Int32)) = a_
    · skip
      refine Go.by (fun t k => XS.icmpNo X0.here hx rfl (hb hby d2_67) rfl (teq hc3).2 (XS.bipush X0.here hx rfl (hb hby d2_70) k)) ?_
      show Go p e below _ (s₁.setTop (mkF m 72 #[qI i_, qI k_, qI a_, qI x_, qI y_, .val (.long pp), .second, .val (.int ((i_ - k_) - (11 : Int32)))] [(.int 47)]))
      have hq : Q_at_tail Z i_ k_ a_ x_ y_ pp h0 n0 (some (.int (nar .char (47 : Int32)))) h0 _ := ⟨(nar .char (47 : Int32)), rfl, N0, rfl, own_47r, (fun _ => own_47), (fun q => absurd hc3 q)⟩
      exact Go.retN X0 hx (t := .char) Bd.returns (by simp) hlk (hb hby d2_72) (by decide) (by decide) (by rw [e0]; exact hq)
    · skip
      refine Go.by (fun t k => XS.icmpYes X0.here hx rfl (pc0 := 67) (pc' := 73) rfl (hb hby d2_67) rfl (feq hc3).2 (by decide) (by decide) (XS.lload X0.here hx rfl (hb hby d2_73) rfl (XS.iload X0.here hx rfl (hb hby d2_75) rfl (XS.iconst X0.here hx rfl (hb hby d2_77) (XS.isub X0.here hx rfl (hb hby d2_78) rfl k))))) ?_
      show Go p e below _ (s₁.setTop (mkF m 79 #[qI i_, qI k_, qI a_, qI x_, qI y_, .val (.long pp), .second, .val (.int ((i_ - k_) - (11 : Int32)))] [(.int (((i_ - k_) - (11 : Int32)) - (1 : Int32))), (.long pp)]))
      obtain ⟨_, _, ⟨T4, L4, k4, n4⟩, -, X4, ⟨Lc4, hQ4, l4, y4, z4⟩, st4⟩ := Jvm.LawKit.callS X0 hx (y := (⟨"com/example/bare_lock/barelock/zookeeper/LockPathsChrootPinLaw", "partChar", "(JI)C"⟩ : MethodName)) hown (mvT hZ (hw _ (mg 43 rfl))) (mvT hZ (hw _ (mg 44 rfl))) (mvT hZ (hw _ (mg 4 rfl))) (mvT hZ (hw _ (mg 45 rfl))) (by decide) (backOf (W := 0) (pchar l Z a0 hw [] pp (((i_ - k_) - (11 : Int32)) - (1 : Int32)) h0 n0 O0) hZ (hw _ (mg 45 rfl)) (hw _ (mg 4 rfl)) (by decide) (by decide)) (g := (mkF m 79 #[qI i_, qI k_, qI a_, qI x_, qI y_, .val (.long pp), .second, .val (.int ((i_ - k_) - (11 : Int32)))] [(.int (((i_ - k_) - (11 : Int32)) - (1 : Int32))), (.long pp)])) rfl (by rw [hml]; rfl) (argsL := [(.long pp), (.int (((i_ - k_) - (11 : Int32)) - (1 : Int32)))]) (rest := []) (lenOf pd_5 rfl) rfl (by show 2 * 0 + _ ≤ _; exact Nat.le_of_eq rfl) (hb hby d2_79) (fun _ _ => ⟨rfl, e0, (by decide : 0 + 0 ≤ _), (by decide : 0 + 0 ≤ _)⟩)
      dsimp only [Pt.U, Pt.locs, Pt.cells, Pt.slots] at X4 l4 y4 z4 st4 hQ4
      subst y4 z4
      obtain ⟨pv_4, rfl, N4q, e4, hp_4⟩ := hQ4
      have N4 : Fr n0 L4 := by rw [l4]; exact Fr.app N0 N4q
      have X4 := own_mr X4 0 0 (by decide) (by decide)
      refine Go.by st4 ?_
      show Go p e below _ (T4.setTop (mkF m 82 #[qI i_, qI k_, qI a_, qI x_, qI y_, .val (.long pp), .second, .val (.int ((i_ - k_) - (11 : Int32)))] [(.int pv_4)]))
      have hq : Q_at_tail Z i_ k_ a_ x_ y_ pp h0 n0 (some (.int (nar .char pv_4))) h0 _ := ⟨(nar .char pv_4), rfl, N4, rfl, (by rw [own_narc ⟨hp_4.1, hp_4.2.1⟩]; exact ⟨hp_4.1, hp_4.2.1⟩), (fun q => absurd q hc3), (fun _ => by rw [own_narc ⟨hp_4.1, hp_4.2.1⟩]; exact hp_4.2.2)⟩
      exact Go.retN X4 hx (t := .char) Bd.returns (by simp) hlk (hb hby d2_82) (by decide) (by decide) (by rw [e4]; exact hq)
theorem pn_4 : plainName "java/lang/StringUTF16" = true := by first | (simp [plainName, overriddenIn]; done) | decide +kernel
theorem d14_0 : decode jdk_52_method_15_code 0 = .ok (.iload_n 1, 1) := by decide +kernel
theorem d14_1 : decode jdk_52_method_15_code 1 = .ok (.aload_n 0, 1) := by decide +kernel
theorem d14_2 : decode jdk_52_method_15_code 2 = .ok (.arraylength, 1) := by decide +kernel
theorem d14_3 : decode jdk_52_method_15_code 3 = .ok (.isub, 1) := by decide +kernel
theorem d14_4 : decode jdk_52_method_15_code 4 = .ok (.bipush 31, 2) := by decide +kernel
theorem d14_6 : decode jdk_52_method_15_code 6 = .ok (.iushr, 1) := by decide +kernel
theorem d14_7 : decode jdk_52_method_15_code 7 = .ok (.i2b, 1) := by decide +kernel
theorem d14_8 : decode jdk_52_method_15_code 8 = .ok (.ireturn, 1) := by decide +kernel
theorem ef_coderLen_18 (m : MethodId) (xa : Addr) : entryFrame m #[(.ref xa), (.int (18 : Int32))] 2 = mkF m 0 #[.val (.ref xa), .val (.int (18 : Int32))] [] := by first | (simp [entryFrame, mkF, argsToLocals, Value.category]; done) | rfl
def Q_coderLen_18 (Z : State) (xa : Addr) (ka : ClassId) (vs : List Value) (h0 : Heap) (n0 : Nat) (v : Option Value) (h : Heap) (L : List Loc) : Prop := v = some (.int 0) ∧ Fr n0 L ∧ h = h0
set_option maxRecDepth 65536 in
set_option maxHeartbeats 40000000 in
theorem coderLen_18 (l : Launch) (Z : State) (a0 : Array Value) (hw : ∀ d ∈ tables_1, d.before a0 Z = true) (ws : List Jvm.Cond) (xa : Addr) (ka : ClassId) (vs : List Value) (h0 : Heap) (n0 : Nat) (O0 : Old Z n0 h0) (P0 : Arv Z h0 xa ka .byte (18 : Int32) vs (.int 0)) :
    MetFree l (⟨"java/lang/StringUTF16", "coderFromArrayLen", "([BI)B"⟩ : MethodName) (head1 (Jvm.Cond.code (⟨"java/lang/StringUTF16", "coderFromArrayLen", "([BI)B"⟩ : MethodName) jdk_52_method_15_code 2 (some .byte) :: ws) ({ frames := 0, cells := 0, slots := 0, locals := 0 } : Room)) (fun a U => a = #[(.ref xa), (.int 18)] ∧ Z.Warmed39 U.vm ∧ U.heap = h0) (fun _ _ _ _ _ => True) (fun _ U o U' => ∃ v L, o = .returned v ∧ Q_coderLen_18 Z xa ka vs h0 n0 v U'.heap L ∧ FrameEnd U o U' L ({ frames := 0, cells := 0, slots := 0, locals := 0 } : Room).cells ({ frames := 0, cells := 0, slots := 0, locals := 0 } : Room).slots) := by
  refine MetFree.of_bodySF (plainFor_of_name pn_4) hisR ?_
  intro p e s m args below meth c s₁ Bd hml0 hP hK
  obtain ⟨rfl, hZ, hh⟩ := hP
  have hx := Bd.exec
  have hby := Bd.bytes
  have hml : c.maxLocals = 2 := hml0
  have hown : s.vm.findClass "java/lang/StringUTF16" = some m.cls := findClass_of_methodNamed Bd.named
  have hnm := (name_of_methodNamed Bd.named Bd.method).1
  have hlk := BodyLoose.notSynchronized Bd
  have X0 : Stand p l e ({ frames := 0, cells := 0, slots := 0, locals := 0 } : Room) s m #[(.ref xa), (.int 18)] below meth c s₁ [] 0 0 := Stand.of_body Bd
  have e0 : s₁.heap = h0 := by rw [← hh, Bd.state]; rfl
  have N0 := Fr.nil n0
  refine Go.start (P := fun o U' => ∃ v L, o = .returned v ∧ Q_coderLen_18 Z xa ka vs h0 n0 v U'.heap L ∧ FrameEnd s o U' L ({ frames := 0, cells := 0, slots := 0, locals := 0 } : Room).cells ({ frames := 0, cells := 0, slots := 0, locals := 0 } : Room).slots) (ef_coderLen_18 m xa) ?_
  show Go p e below _ (s₁.setTop (mkF m 0 #[.val (.ref xa), qI 18] []))
  refine Go.by (fun t k => XS.iloadN X0.here hx rfl (hb hby d14_0) rfl (XS.aloadN X0.here hx rfl (hb hby d14_1) rfl rfl k)) ?_
  show Go p e below _ (s₁.setTop (mkF m 2 #[.val (.ref xa), qI 18] [(.ref xa), (.int 18)]))
  obtain ⟨cl1, Ar1, qk1, sz1, nn1, Ha1, Gf1⟩ := id P0
  have hl1 : cl1.slots.size.toInt32 = (18 : Int32) := len_of sz1 nn1
  refine Go.by (fun t k => X0.arraylength hx (by rw [e0]; exact Ar1.1) (State.isArrayOf_alike hZ.alike Ar1.2.1) (g := (mkF m 2 #[.val (.ref xa), qI 18] [(.ref xa), (.int 18)])) rfl rfl (hb hby d14_2) t (by rw [hl1]; exact k)) ?_
  show Go p e below _ (s₁.setTop (mkF m 3 #[.val (.ref xa), qI 18] [(.int 18), (.int 18)]))
  refine Go.by (fun t k => XS.isub X0.here hx rfl (hb hby d14_3) rfl (XS.bipush X0.here hx rfl (hb hby d14_4) (XS.iushr X0.here hx rfl (hb hby d14_6) rfl (XS.i2b X0.here hx rfl (hb hby d14_7) rfl k)))) ?_
  show Go p e below _ (s₁.setTop (mkF m 8 #[.val (.ref xa), qI 18] [(.int ((((0 : Int32).toUInt32 >>> ((31 : Int32) &&& 31).toUInt32).toInt32).toInt8.toInt32))]))
  have hq : Q_coderLen_18 Z xa ka vs h0 n0 (some (.int (nar .byte ((((0 : Int32).toUInt32 >>> ((31 : Int32) &&& 31).toUInt32).toInt32).toInt8.toInt32)))) h0 _ := ⟨rfl, N0, rfl⟩
  exact Go.retN X0 hx (t := .byte) Bd.returns (by simp) hlk (hb hby d14_8) (by decide) (by decide) (by rw [e0]; exact hq)
theorem d13_0 : decode jdk_52_method_21_code 0 = .ok (.iconst 0, 1) := by decide +kernel
theorem d13_1 : decode jdk_52_method_21_code 1 = .ok (.istore 5, 2) := by decide +kernel
theorem d13_3 : decode jdk_52_method_21_code 3 = .ok (.iload 5, 2) := by decide +kernel
theorem d13_5 : decode jdk_52_method_21_code 5 = .ok (.iload 4, 2) := by decide +kernel
theorem d13_7 : decode jdk_52_method_21_code 7 = .ok (.if_icmp .ge 37, 3) := by decide +kernel
theorem d13_10 : decode jdk_52_method_21_code 10 = .ok (.aload_n 0, 1) := by decide +kernel
theorem d13_11 : decode jdk_52_method_21_code 11 = .ok (.iload_n 1, 1) := by decide +kernel
theorem d13_12 : decode jdk_52_method_21_code 12 = .ok (.caload, 1) := by decide +kernel
theorem d13_13 : decode jdk_52_method_21_code 13 = .ok (.istore 6, 2) := by decide +kernel
theorem d13_15 : decode jdk_52_method_21_code 15 = .ok (.iload 6, 2) := by decide +kernel
theorem d13_17 : decode jdk_52_method_21_code 17 = .ok (.sipush 255, 3) := by decide +kernel
theorem d13_20 : decode jdk_52_method_21_code 20 = .ok (.if_icmp .le 6, 3) := by decide +kernel
theorem d13_26 : decode jdk_52_method_21_code 26 = .ok (.aload_n 2, 1) := by decide +kernel
theorem d13_27 : decode jdk_52_method_21_code 27 = .ok (.iload_n 3, 1) := by decide +kernel
theorem d13_28 : decode jdk_52_method_21_code 28 = .ok (.iload 6, 2) := by decide +kernel
theorem d13_30 : decode jdk_52_method_21_code 30 = .ok (.i2b, 1) := by decide +kernel
theorem d13_31 : decode jdk_52_method_21_code 31 = .ok (.bastore, 1) := by decide +kernel
theorem d13_32 : decode jdk_52_method_21_code 32 = .ok (.iinc 1 1, 3) := by decide +kernel
theorem d13_35 : decode jdk_52_method_21_code 35 = .ok (.iinc 3 1, 3) := by decide +kernel
theorem d13_38 : decode jdk_52_method_21_code 38 = .ok (.iinc 5 1, 3) := by decide +kernel
theorem d13_41 : decode jdk_52_method_21_code 41 = .ok (.goto (-38), 3) := by decide +kernel
theorem d13_44 : decode jdk_52_method_21_code 44 = .ok (.iload 4, 2) := by decide +kernel
theorem d13_46 : decode jdk_52_method_21_code 46 = .ok (.ireturn, 1) := by decide +kernel
theorem ef_comp5_18 (m : MethodId) (ca : Addr) (ba : Addr) : entryFrame m #[(.ref ca), (.int (0 : Int32)), (.ref ba), (.int (0 : Int32)), (.int (18 : Int32))] 7 = mkF m 0 #[.val (.ref ca), .val (.int (0 : Int32)), .val (.ref ba), .val (.int (0 : Int32)), .val (.int (18 : Int32)), .unset, .unset] [] := by first | (simp [entryFrame, mkF, argsToLocals, Value.category]; done) | rfl
def Q_comp5_18 (Z : State) (ca : Addr) (ba : Addr) (kc : ClassId) (c0_ : Int32) (c1_ : Int32) (c2_ : Int32) (c3_ : Int32) (c4_ : Int32) (c5_ : Int32) (c6_ : Int32) (c7_ : Int32) (c8_ : Int32) (c9_ : Int32) (c10_ : Int32) (c11_ : Int32) (c12_ : Int32) (c13_ : Int32) (c14_ : Int32) (c15_ : Int32) (c16_ : Int32) (c17_ : Int32) (kb : ClassId) (h0 : Heap) (n0 : Nat) (v : Option Value) (h : Heap) (L : List Loc) : Prop := v = some (.int 18) ∧ Fr n0 L ∧ Keep h0 h [ba] ∧ Arv Z h ba kb .byte (18 : Int32) [(.int (qB c0_)), (.int (qB c1_)), (.int (qB c2_)), (.int (qB c3_)), (.int (qB c4_)), (.int (qB c5_)), (.int (qB c6_)), (.int (qB c7_)), (.int (qB c8_)), (.int (qB c9_)), (.int (qB c10_)), (.int (qB c11_)), (.int (qB c12_)), (.int (qB c13_)), (.int (qB c14_)), (.int (qB c15_)), (.int (qB c16_)), (.int (qB c17_))] (.int 0)
set_option maxRecDepth 65536 in
set_option maxHeartbeats 40000000 in
theorem comp5_18 (l : Launch) (Z : State) (a0 : Array Value) (hw : ∀ d ∈ tables_1, d.before a0 Z = true) (ws : List Jvm.Cond) (ca : Addr) (ba : Addr) (kc : ClassId) (c0_ : Int32) (c1_ : Int32) (c2_ : Int32) (c3_ : Int32) (c4_ : Int32) (c5_ : Int32) (c6_ : Int32) (c7_ : Int32) (c8_ : Int32) (c9_ : Int32) (c10_ : Int32) (c11_ : Int32) (c12_ : Int32) (c13_ : Int32) (c14_ : Int32) (c15_ : Int32) (c16_ : Int32) (c17_ : Int32) (kb : ClassId) (h0 : Heap) (n0 : Nat) (O0 : Old Z n0 h0) (P0 : Arv Z h0 ca kc .char (18 : Int32) [(.int c0_), (.int c1_), (.int c2_), (.int c3_), (.int c4_), (.int c5_), (.int c6_), (.int c7_), (.int c8_), (.int c9_), (.int c10_), (.int c11_), (.int c12_), (.int c13_), (.int c14_), (.int c15_), (.int c16_), (.int c17_)] (.int 0)) (P1 : Arv Z h0 ba kb .byte (18 : Int32) [(.int 0), (.int 0), (.int 0), (.int 0), (.int 0), (.int 0), (.int 0), (.int 0), (.int 0), (.int 0), (.int 0), (.int 0), (.int 0), (.int 0), (.int 0), (.int 0), (.int 0), (.int 0)] (.int 0)) (gba : n0 ≤ ba) (ncb : ca ≠ ba) (hq0 : 0 ≤ c0_.toInt ∧ c0_.toInt ≤ 255) (hq1 : 0 ≤ c1_.toInt ∧ c1_.toInt ≤ 255) (hq2 : 0 ≤ c2_.toInt ∧ c2_.toInt ≤ 255) (hq3 : 0 ≤ c3_.toInt ∧ c3_.toInt ≤ 255) (hq4 : 0 ≤ c4_.toInt ∧ c4_.toInt ≤ 255) (hq5 : 0 ≤ c5_.toInt ∧ c5_.toInt ≤ 255) (hq6 : 0 ≤ c6_.toInt ∧ c6_.toInt ≤ 255) (hq7 : 0 ≤ c7_.toInt ∧ c7_.toInt ≤ 255) (hq8 : 0 ≤ c8_.toInt ∧ c8_.toInt ≤ 255) (hq9 : 0 ≤ c9_.toInt ∧ c9_.toInt ≤ 255) (hq10 : 0 ≤ c10_.toInt ∧ c10_.toInt ≤ 255) (hq11 : 0 ≤ c11_.toInt ∧ c11_.toInt ≤ 255) (hq12 : 0 ≤ c12_.toInt ∧ c12_.toInt ≤ 255) (hq13 : 0 ≤ c13_.toInt ∧ c13_.toInt ≤ 255) (hq14 : 0 ≤ c14_.toInt ∧ c14_.toInt ≤ 255) (hq15 : 0 ≤ c15_.toInt ∧ c15_.toInt ≤ 255) (hq16 : 0 ≤ c16_.toInt ∧ c16_.toInt ≤ 255) (hq17 : 0 ≤ c17_.toInt ∧ c17_.toInt ≤ 255) :
    MetFree l (⟨"java/lang/StringUTF16", "compress", "([CI[BII)I"⟩ : MethodName) (head1 (Jvm.Cond.code (⟨"java/lang/StringUTF16", "compress", "([CI[BII)I"⟩ : MethodName) jdk_52_method_21_code 7 (some .int) :: ws) ({ frames := 0, cells := 0, slots := 0, locals := 0 } : Room)) (fun a U => a = #[(.ref ca), (.int 0), (.ref ba), (.int 0), (.int 18)] ∧ Z.Warmed39 U.vm ∧ U.heap = h0) (fun _ _ _ _ _ => True) (fun _ U o U' => ∃ v L, o = .returned v ∧ Q_comp5_18 Z ca ba kc c0_ c1_ c2_ c3_ c4_ c5_ c6_ c7_ c8_ c9_ c10_ c11_ c12_ c13_ c14_ c15_ c16_ c17_ kb h0 n0 v U'.heap L ∧ FrameEnd U o U' L ({ frames := 0, cells := 0, slots := 0, locals := 0 } : Room).cells ({ frames := 0, cells := 0, slots := 0, locals := 0 } : Room).slots) := by
  refine MetFree.of_bodySF (plainFor_of_name pn_4) hisR ?_
  intro p e s m args below meth c s₁ Bd hml0 hP hK
  obtain ⟨rfl, hZ, hh⟩ := hP
  have hx := Bd.exec
  have hby := Bd.bytes
  have hml : c.maxLocals = 7 := hml0
  have hown : s.vm.findClass "java/lang/StringUTF16" = some m.cls := findClass_of_methodNamed Bd.named
  have hnm := (name_of_methodNamed Bd.named Bd.method).1
  have hlk := BodyLoose.notSynchronized Bd
  have X0 : Stand p l e ({ frames := 0, cells := 0, slots := 0, locals := 0 } : Room) s m #[(.ref ca), (.int 0), (.ref ba), (.int 0), (.int 18)] below meth c s₁ [] 0 0 := Stand.of_body Bd
  have e0 : s₁.heap = h0 := by rw [← hh, Bd.state]; rfl
  have N0 := Fr.nil n0
  refine Go.start (P := fun o U' => ∃ v L, o = .returned v ∧ Q_comp5_18 Z ca ba kc c0_ c1_ c2_ c3_ c4_ c5_ c6_ c7_ c8_ c9_ c10_ c11_ c12_ c13_ c14_ c15_ c16_ c17_ kb h0 n0 v U'.heap L ∧ FrameEnd s o U' L ({ frames := 0, cells := 0, slots := 0, locals := 0 } : Room).cells ({ frames := 0, cells := 0, slots := 0, locals := 0 } : Room).slots) (ef_comp5_18 m ca ba) ?_
  show Go p e below _ (s₁.setTop (mkF m 0 #[.val (.ref ca), qI 0, .val (.ref ba), qI 0, qI 18, qU, qU] []))
  refine Go.by (fun t k => XS.iconst X0.here hx rfl (hb hby d13_0) (XS.istore X0.here hx rfl (hb hby d13_1) rfl (l' := #[.val (.ref ca), qI 0, .val (.ref ba), qI 0, qI 18, qI 0, qU]) rfl (XS.iload X0.here hx rfl (hb hby d13_3) rfl (XS.iload X0.here hx rfl (hb hby d13_5) rfl (XS.icmpNo X0.here hx rfl (hb hby d13_7) rfl (tlt (by decide : (0 : Int32) < (18 : Int32))).2.1 (XS.aloadN X0.here hx rfl (hb hby d13_10) rfl rfl (XS.iloadN X0.here hx rfl (hb hby d13_11) rfl k))))))) ?_
  show Go p e below _ (s₁.setTop (mkF m 12 #[.val (.ref ca), qI 0, .val (.ref ba), qI 0, qI 18, qI 0, qU] [(.int 0), (.ref ca)]))
  obtain ⟨cl1, Ar1, qk1, sz1, nn1, Ha1, Gf1⟩ := id P0
  have hin2 : ¬ ((0 : Int32) < 0 ∨ cl1.slots.size ≤ ((0 : Int32)).toNatClampNeg) := inb_of sz1 ⟨by decide, by decide⟩
  have hat3 : cl1.slots[((0 : Int32)).toNatClampNeg]? = some (.int c0_) := Has.at Ha1 hin2 rfl
  refine Go.by (fun t k => X0.caload hx (j := (0 : Int32)) (v := (.int c0_)) (by rw [e0]; exact Ar1.1) (State.isArrayOf_alike hZ.alike Ar1.2.1) Ar1.2.2 hin2 hat3 (g := (mkF m 12 #[.val (.ref ca), qI 0, .val (.ref ba), qI 0, qI 18, qI 0, qU] [(.int 0), (.ref ca)])) rfl rfl (hb hby d13_12) t k) ?_
  show Go p e below _ (s₁.setTop (mkF m 13 #[.val (.ref ca), qI 0, .val (.ref ba), qI 0, qI 18, qI 0, qU] [(.int c0_)]))
  refine Go.by (fun t k => XS.istore X0.here hx rfl (hb hby d13_13) rfl (l' := #[.val (.ref ca), qI 0, .val (.ref ba), qI 0, qI 18, qI 0, qI c0_]) rfl (XS.iload X0.here hx rfl (hb hby d13_15) rfl (XS.sipush X0.here hx rfl (hb hby d13_17) (XS.icmpYes X0.here hx rfl (pc0 := 20) (pc' := 26) rfl (hb hby d13_20) rfl (flt (own_nle hq0)).2.2.2 (by decide) (by decide) (XS.aloadN X0.here hx rfl (hb hby d13_26) rfl rfl (XS.iloadN X0.here hx rfl (hb hby d13_27) rfl (XS.iload X0.here hx rfl (hb hby d13_28) rfl (XS.i2b X0.here hx rfl (hb hby d13_30) rfl k)))))))) ?_
  show Go p e below _ (s₁.setTop (mkF m 31 #[.val (.ref ca), qI 0, .val (.ref ba), qI 0, qI 18, qI 0, qI c0_] [(.int (c0_.toInt8.toInt32)), (.int 0), (.ref ba)]))
  obtain ⟨cl4, Ar4, qk4, sz4, nn4, Ha4, Gf4⟩ := id P1
  have hin5 : ¬ ((0 : Int32) < 0 ∨ cl4.slots.size ≤ ((0 : Int32)).toNatClampNeg) := inb_of sz4 ⟨by decide, by decide⟩
  obtain ⟨T6, h6, X6, e6, W6, st6⟩ := stB X0 hx hZ e0 Ar4 (j := (0 : Int32)) hin5 (g := (mkF m 31 #[.val (.ref ca), qI 0, .val (.ref ba), qI 0, qI 18, qI 0, qI c0_] [(.int (c0_.toInt8.toInt32)), (.int 0), (.ref ba)])) rfl rfl (hb hby d13_31)
  have N6 := Fr.snoc X6 N0 gba
  have F7 : Arv Z h6 ba kb .byte (18 : Int32) [(.int (qB c0_)), (.int 0), (.int 0), (.int 0), (.int 0), (.int 0), (.int 0), (.int 0), (.int 0), (.int 0), (.int 0), (.int 0), (.int 0), (.int 0), (.int 0), (.int 0), (.int 0), (.int 0)] (.int 0) := Arv.set Ar4 qk4 sz4 nn4 Ha4 Gf4 (fits_nar_byte _) W6 0 rfl (Nat.le_of_ble_eq_true rfl)
  refine Go.by st6 ?_
  show Go p e below _ (T6.setTop (mkF m 32 #[.val (.ref ca), qI 0, .val (.ref ba), qI 0, qI 18, qI 0, qI c0_] []))
  refine Go.by (fun t k => XS.iinc X6.here hx rfl (hb hby d13_32) rfl (l' := #[.val (.ref ca), qI 1, .val (.ref ba), qI 0, qI 18, qI 0, qI c0_]) rfl (XS.iinc X6.here hx rfl (hb hby d13_35) rfl (l' := #[.val (.ref ca), qI 1, .val (.ref ba), qI 1, qI 18, qI 0, qI c0_]) rfl (XS.iinc X6.here hx rfl (hb hby d13_38) rfl (l' := #[.val (.ref ca), qI 1, .val (.ref ba), qI 1, qI 18, qI 1, qI c0_]) rfl (XS.goto X6.here hx rfl (pc0 := 41) (pc' := 3) rfl (hb hby d13_41) (by decide) (by decide) (XS.iload X6.here hx rfl (hb hby d13_3) rfl (XS.iload X6.here hx rfl (hb hby d13_5) rfl (XS.icmpNo X6.here hx rfl (hb hby d13_7) rfl (tlt (by decide : (1 : Int32) < (18 : Int32))).2.1 (XS.aloadN X6.here hx rfl (hb hby d13_10) rfl rfl k)))))))) ?_
  show Go p e below _ (T6.setTop (mkF m 11 #[.val (.ref ca), qI 1, .val (.ref ba), qI 1, qI 18, qI 1, qI c0_] [(.ref ca)]))
  refine Go.by (fun t k => XS.iloadN X6.here hx rfl (hb hby d13_11) rfl k) ?_
  show Go p e below _ (T6.setTop (mkF m 12 #[.val (.ref ca), qI 1, .val (.ref ba), qI 1, qI 18, qI 1, qI c0_] [(.int 1), (.ref ca)]))
  have F8 : Arv Z h6 ca kc .char (18 : Int32) [(.int c0_), (.int c1_), (.int c2_), (.int c3_), (.int c4_), (.int c5_), (.int c6_), (.int c7_), (.int c8_), (.int c9_), (.int c10_), (.int c11_), (.int c12_), (.int c13_), (.int c14_), (.int c15_), (.int c16_), (.int c17_)] (.int 0) := (P0.other W6 ncb)
  obtain ⟨cl9, Ar9, qk9, sz9, nn9, Ha9, Gf9⟩ := id F8
  have hin10 : ¬ ((1 : Int32) < 0 ∨ cl9.slots.size ≤ ((1 : Int32)).toNatClampNeg) := inb_of sz9 ⟨by decide, by decide⟩
  have hat11 : cl9.slots[((1 : Int32)).toNatClampNeg]? = some (.int c1_) := Has.at Ha9 hin10 rfl
  refine Go.by (fun t k => X6.caload hx (j := (1 : Int32)) (v := (.int c1_)) (by rw [e6]; exact Ar9.1) (State.isArrayOf_alike hZ.alike Ar9.2.1) Ar9.2.2 hin10 hat11 (g := (mkF m 12 #[.val (.ref ca), qI 1, .val (.ref ba), qI 1, qI 18, qI 1, qI c0_] [(.int 1), (.ref ca)])) rfl rfl (hb hby d13_12) t k) ?_
  show Go p e below _ (T6.setTop (mkF m 13 #[.val (.ref ca), qI 1, .val (.ref ba), qI 1, qI 18, qI 1, qI c0_] [(.int c1_)]))
  refine Go.by (fun t k => XS.istore X6.here hx rfl (hb hby d13_13) rfl (l' := #[.val (.ref ca), qI 1, .val (.ref ba), qI 1, qI 18, qI 1, qI c1_]) rfl (XS.iload X6.here hx rfl (hb hby d13_15) rfl (XS.sipush X6.here hx rfl (hb hby d13_17) (XS.icmpYes X6.here hx rfl (pc0 := 20) (pc' := 26) rfl (hb hby d13_20) rfl (flt (own_nle hq1)).2.2.2 (by decide) (by decide) (XS.aloadN X6.here hx rfl (hb hby d13_26) rfl rfl (XS.iloadN X6.here hx rfl (hb hby d13_27) rfl (XS.iload X6.here hx rfl (hb hby d13_28) rfl (XS.i2b X6.here hx rfl (hb hby d13_30) rfl k)))))))) ?_
  show Go p e below _ (T6.setTop (mkF m 31 #[.val (.ref ca), qI 1, .val (.ref ba), qI 1, qI 18, qI 1, qI c1_] [(.int (c1_.toInt8.toInt32)), (.int 1), (.ref ba)]))
  obtain ⟨cl12, Ar12, qk12, sz12, nn12, Ha12, Gf12⟩ := id F7
  have hin13 : ¬ ((1 : Int32) < 0 ∨ cl12.slots.size ≤ ((1 : Int32)).toNatClampNeg) := inb_of sz12 ⟨by decide, by decide⟩
  obtain ⟨T14, h14, X14, e14, W14, st14⟩ := stB X6 hx hZ e6 Ar12 (j := (1 : Int32)) hin13 (g := (mkF m 31 #[.val (.ref ca), qI 1, .val (.ref ba), qI 1, qI 18, qI 1, qI c1_] [(.int (c1_.toInt8.toInt32)), (.int 1), (.ref ba)])) rfl rfl (hb hby d13_31)
  have N14 := Fr.snoc X14 N6 gba
  have F15 : Arv Z h14 ba kb .byte (18 : Int32) [(.int (qB c0_)), (.int (qB c1_)), (.int 0), (.int 0), (.int 0), (.int 0), (.int 0), (.int 0), (.int 0), (.int 0), (.int 0), (.int 0), (.int 0), (.int 0), (.int 0), (.int 0), (.int 0), (.int 0)] (.int 0) := Arv.set Ar12 qk12 sz12 nn12 Ha12 Gf12 (fits_nar_byte _) W14 1 rfl (Nat.le_of_ble_eq_true rfl)
  refine Go.by st14 ?_
  show Go p e below _ (T14.setTop (mkF m 32 #[.val (.ref ca), qI 1, .val (.ref ba), qI 1, qI 18, qI 1, qI c1_] []))
  refine Go.by (fun t k => XS.iinc X14.here hx rfl (hb hby d13_32) rfl (l' := #[.val (.ref ca), qI 2, .val (.ref ba), qI 1, qI 18, qI 1, qI c1_]) rfl (XS.iinc X14.here hx rfl (hb hby d13_35) rfl (l' := #[.val (.ref ca), qI 2, .val (.ref ba), qI 2, qI 18, qI 1, qI c1_]) rfl (XS.iinc X14.here hx rfl (hb hby d13_38) rfl (l' := #[.val (.ref ca), qI 2, .val (.ref ba), qI 2, qI 18, qI 2, qI c1_]) rfl (XS.goto X14.here hx rfl (pc0 := 41) (pc' := 3) rfl (hb hby d13_41) (by decide) (by decide) (XS.iload X14.here hx rfl (hb hby d13_3) rfl (XS.iload X14.here hx rfl (hb hby d13_5) rfl (XS.icmpNo X14.here hx rfl (hb hby d13_7) rfl (tlt (by decide : (2 : Int32) < (18 : Int32))).2.1 (XS.aloadN X14.here hx rfl (hb hby d13_10) rfl rfl k)))))))) ?_
  show Go p e below _ (T14.setTop (mkF m 11 #[.val (.ref ca), qI 2, .val (.ref ba), qI 2, qI 18, qI 2, qI c1_] [(.ref ca)]))
  refine Go.by (fun t k => XS.iloadN X14.here hx rfl (hb hby d13_11) rfl k) ?_
  show Go p e below _ (T14.setTop (mkF m 12 #[.val (.ref ca), qI 2, .val (.ref ba), qI 2, qI 18, qI 2, qI c1_] [(.int 2), (.ref ca)]))
  have F16 : Arv Z h14 ca kc .char (18 : Int32) [(.int c0_), (.int c1_), (.int c2_), (.int c3_), (.int c4_), (.int c5_), (.int c6_), (.int c7_), (.int c8_), (.int c9_), (.int c10_), (.int c11_), (.int c12_), (.int c13_), (.int c14_), (.int c15_), (.int c16_), (.int c17_)] (.int 0) := (F8.other W14 ncb)
  obtain ⟨cl17, Ar17, qk17, sz17, nn17, Ha17, Gf17⟩ := id F16
  have hin18 : ¬ ((2 : Int32) < 0 ∨ cl17.slots.size ≤ ((2 : Int32)).toNatClampNeg) := inb_of sz17 ⟨by decide, by decide⟩
  have hat19 : cl17.slots[((2 : Int32)).toNatClampNeg]? = some (.int c2_) := Has.at Ha17 hin18 rfl
  refine Go.by (fun t k => X14.caload hx (j := (2 : Int32)) (v := (.int c2_)) (by rw [e14]; exact Ar17.1) (State.isArrayOf_alike hZ.alike Ar17.2.1) Ar17.2.2 hin18 hat19 (g := (mkF m 12 #[.val (.ref ca), qI 2, .val (.ref ba), qI 2, qI 18, qI 2, qI c1_] [(.int 2), (.ref ca)])) rfl rfl (hb hby d13_12) t k) ?_
  show Go p e below _ (T14.setTop (mkF m 13 #[.val (.ref ca), qI 2, .val (.ref ba), qI 2, qI 18, qI 2, qI c1_] [(.int c2_)]))
  refine Go.by (fun t k => XS.istore X14.here hx rfl (hb hby d13_13) rfl (l' := #[.val (.ref ca), qI 2, .val (.ref ba), qI 2, qI 18, qI 2, qI c2_]) rfl (XS.iload X14.here hx rfl (hb hby d13_15) rfl (XS.sipush X14.here hx rfl (hb hby d13_17) (XS.icmpYes X14.here hx rfl (pc0 := 20) (pc' := 26) rfl (hb hby d13_20) rfl (flt (own_nle hq2)).2.2.2 (by decide) (by decide) (XS.aloadN X14.here hx rfl (hb hby d13_26) rfl rfl (XS.iloadN X14.here hx rfl (hb hby d13_27) rfl (XS.iload X14.here hx rfl (hb hby d13_28) rfl (XS.i2b X14.here hx rfl (hb hby d13_30) rfl k)))))))) ?_
  show Go p e below _ (T14.setTop (mkF m 31 #[.val (.ref ca), qI 2, .val (.ref ba), qI 2, qI 18, qI 2, qI c2_] [(.int (c2_.toInt8.toInt32)), (.int 2), (.ref ba)]))
  obtain ⟨cl20, Ar20, qk20, sz20, nn20, Ha20, Gf20⟩ := id F15
  have hin21 : ¬ ((2 : Int32) < 0 ∨ cl20.slots.size ≤ ((2 : Int32)).toNatClampNeg) := inb_of sz20 ⟨by decide, by decide⟩
  obtain ⟨T22, h22, X22, e22, W22, st22⟩ := stB X14 hx hZ e14 Ar20 (j := (2 : Int32)) hin21 (g := (mkF m 31 #[.val (.ref ca), qI 2, .val (.ref ba), qI 2, qI 18, qI 2, qI c2_] [(.int (c2_.toInt8.toInt32)), (.int 2), (.ref ba)])) rfl rfl (hb hby d13_31)
  have N22 := Fr.snoc X22 N14 gba
  have F23 : Arv Z h22 ba kb .byte (18 : Int32) [(.int (qB c0_)), (.int (qB c1_)), (.int (qB c2_)), (.int 0), (.int 0), (.int 0), (.int 0), (.int 0), (.int 0), (.int 0), (.int 0), (.int 0), (.int 0), (.int 0), (.int 0), (.int 0), (.int 0), (.int 0)] (.int 0) := Arv.set Ar20 qk20 sz20 nn20 Ha20 Gf20 (fits_nar_byte _) W22 2 rfl (Nat.le_of_ble_eq_true rfl)
  refine Go.by st22 ?_
  show Go p e below _ (T22.setTop (mkF m 32 #[.val (.ref ca), qI 2, .val (.ref ba), qI 2, qI 18, qI 2, qI c2_] []))
  refine Go.by (fun t k => XS.iinc X22.here hx rfl (hb hby d13_32) rfl (l' := #[.val (.ref ca), qI 3, .val (.ref ba), qI 2, qI 18, qI 2, qI c2_]) rfl (XS.iinc X22.here hx rfl (hb hby d13_35) rfl (l' := #[.val (.ref ca), qI 3, .val (.ref ba), qI 3, qI 18, qI 2, qI c2_]) rfl (XS.iinc X22.here hx rfl (hb hby d13_38) rfl (l' := #[.val (.ref ca), qI 3, .val (.ref ba), qI 3, qI 18, qI 3, qI c2_]) rfl (XS.goto X22.here hx rfl (pc0 := 41) (pc' := 3) rfl (hb hby d13_41) (by decide) (by decide) (XS.iload X22.here hx rfl (hb hby d13_3) rfl (XS.iload X22.here hx rfl (hb hby d13_5) rfl (XS.icmpNo X22.here hx rfl (hb hby d13_7) rfl (tlt (by decide : (3 : Int32) < (18 : Int32))).2.1 (XS.aloadN X22.here hx rfl (hb hby d13_10) rfl rfl k)))))))) ?_
  show Go p e below _ (T22.setTop (mkF m 11 #[.val (.ref ca), qI 3, .val (.ref ba), qI 3, qI 18, qI 3, qI c2_] [(.ref ca)]))
  refine Go.by (fun t k => XS.iloadN X22.here hx rfl (hb hby d13_11) rfl k) ?_
  show Go p e below _ (T22.setTop (mkF m 12 #[.val (.ref ca), qI 3, .val (.ref ba), qI 3, qI 18, qI 3, qI c2_] [(.int 3), (.ref ca)]))
  have F24 : Arv Z h22 ca kc .char (18 : Int32) [(.int c0_), (.int c1_), (.int c2_), (.int c3_), (.int c4_), (.int c5_), (.int c6_), (.int c7_), (.int c8_), (.int c9_), (.int c10_), (.int c11_), (.int c12_), (.int c13_), (.int c14_), (.int c15_), (.int c16_), (.int c17_)] (.int 0) := (F16.other W22 ncb)
  obtain ⟨cl25, Ar25, qk25, sz25, nn25, Ha25, Gf25⟩ := id F24
  have hin26 : ¬ ((3 : Int32) < 0 ∨ cl25.slots.size ≤ ((3 : Int32)).toNatClampNeg) := inb_of sz25 ⟨by decide, by decide⟩
  have hat27 : cl25.slots[((3 : Int32)).toNatClampNeg]? = some (.int c3_) := Has.at Ha25 hin26 rfl
  refine Go.by (fun t k => X22.caload hx (j := (3 : Int32)) (v := (.int c3_)) (by rw [e22]; exact Ar25.1) (State.isArrayOf_alike hZ.alike Ar25.2.1) Ar25.2.2 hin26 hat27 (g := (mkF m 12 #[.val (.ref ca), qI 3, .val (.ref ba), qI 3, qI 18, qI 3, qI c2_] [(.int 3), (.ref ca)])) rfl rfl (hb hby d13_12) t k) ?_
  show Go p e below _ (T22.setTop (mkF m 13 #[.val (.ref ca), qI 3, .val (.ref ba), qI 3, qI 18, qI 3, qI c2_] [(.int c3_)]))
  refine Go.by (fun t k => XS.istore X22.here hx rfl (hb hby d13_13) rfl (l' := #[.val (.ref ca), qI 3, .val (.ref ba), qI 3, qI 18, qI 3, qI c3_]) rfl (XS.iload X22.here hx rfl (hb hby d13_15) rfl (XS.sipush X22.here hx rfl (hb hby d13_17) (XS.icmpYes X22.here hx rfl (pc0 := 20) (pc' := 26) rfl (hb hby d13_20) rfl (flt (own_nle hq3)).2.2.2 (by decide) (by decide) (XS.aloadN X22.here hx rfl (hb hby d13_26) rfl rfl (XS.iloadN X22.here hx rfl (hb hby d13_27) rfl (XS.iload X22.here hx rfl (hb hby d13_28) rfl (XS.i2b X22.here hx rfl (hb hby d13_30) rfl k)))))))) ?_
  show Go p e below _ (T22.setTop (mkF m 31 #[.val (.ref ca), qI 3, .val (.ref ba), qI 3, qI 18, qI 3, qI c3_] [(.int (c3_.toInt8.toInt32)), (.int 3), (.ref ba)]))
  obtain ⟨cl28, Ar28, qk28, sz28, nn28, Ha28, Gf28⟩ := id F23
  have hin29 : ¬ ((3 : Int32) < 0 ∨ cl28.slots.size ≤ ((3 : Int32)).toNatClampNeg) := inb_of sz28 ⟨by decide, by decide⟩
  obtain ⟨T30, h30, X30, e30, W30, st30⟩ := stB X22 hx hZ e22 Ar28 (j := (3 : Int32)) hin29 (g := (mkF m 31 #[.val (.ref ca), qI 3, .val (.ref ba), qI 3, qI 18, qI 3, qI c3_] [(.int (c3_.toInt8.toInt32)), (.int 3), (.ref ba)])) rfl rfl (hb hby d13_31)
  have N30 := Fr.snoc X30 N22 gba
  have F31 : Arv Z h30 ba kb .byte (18 : Int32) [(.int (qB c0_)), (.int (qB c1_)), (.int (qB c2_)), (.int (qB c3_)), (.int 0), (.int 0), (.int 0), (.int 0), (.int 0), (.int 0), (.int 0), (.int 0), (.int 0), (.int 0), (.int 0), (.int 0), (.int 0), (.int 0)] (.int 0) := Arv.set Ar28 qk28 sz28 nn28 Ha28 Gf28 (fits_nar_byte _) W30 3 rfl (Nat.le_of_ble_eq_true rfl)
  refine Go.by st30 ?_
  show Go p e below _ (T30.setTop (mkF m 32 #[.val (.ref ca), qI 3, .val (.ref ba), qI 3, qI 18, qI 3, qI c3_] []))
  refine Go.by (fun t k => XS.iinc X30.here hx rfl (hb hby d13_32) rfl (l' := #[.val (.ref ca), qI 4, .val (.ref ba), qI 3, qI 18, qI 3, qI c3_]) rfl (XS.iinc X30.here hx rfl (hb hby d13_35) rfl (l' := #[.val (.ref ca), qI 4, .val (.ref ba), qI 4, qI 18, qI 3, qI c3_]) rfl (XS.iinc X30.here hx rfl (hb hby d13_38) rfl (l' := #[.val (.ref ca), qI 4, .val (.ref ba), qI 4, qI 18, qI 4, qI c3_]) rfl (XS.goto X30.here hx rfl (pc0 := 41) (pc' := 3) rfl (hb hby d13_41) (by decide) (by decide) (XS.iload X30.here hx rfl (hb hby d13_3) rfl (XS.iload X30.here hx rfl (hb hby d13_5) rfl (XS.icmpNo X30.here hx rfl (hb hby d13_7) rfl (tlt (by decide : (4 : Int32) < (18 : Int32))).2.1 (XS.aloadN X30.here hx rfl (hb hby d13_10) rfl rfl k)))))))) ?_
  show Go p e below _ (T30.setTop (mkF m 11 #[.val (.ref ca), qI 4, .val (.ref ba), qI 4, qI 18, qI 4, qI c3_] [(.ref ca)]))
  refine Go.by (fun t k => XS.iloadN X30.here hx rfl (hb hby d13_11) rfl k) ?_
  show Go p e below _ (T30.setTop (mkF m 12 #[.val (.ref ca), qI 4, .val (.ref ba), qI 4, qI 18, qI 4, qI c3_] [(.int 4), (.ref ca)]))
  have F32 : Arv Z h30 ca kc .char (18 : Int32) [(.int c0_), (.int c1_), (.int c2_), (.int c3_), (.int c4_), (.int c5_), (.int c6_), (.int c7_), (.int c8_), (.int c9_), (.int c10_), (.int c11_), (.int c12_), (.int c13_), (.int c14_), (.int c15_), (.int c16_), (.int c17_)] (.int 0) := (F24.other W30 ncb)
  obtain ⟨cl33, Ar33, qk33, sz33, nn33, Ha33, Gf33⟩ := id F32
  have hin34 : ¬ ((4 : Int32) < 0 ∨ cl33.slots.size ≤ ((4 : Int32)).toNatClampNeg) := inb_of sz33 ⟨by decide, by decide⟩
  have hat35 : cl33.slots[((4 : Int32)).toNatClampNeg]? = some (.int c4_) := Has.at Ha33 hin34 rfl
  refine Go.by (fun t k => X30.caload hx (j := (4 : Int32)) (v := (.int c4_)) (by rw [e30]; exact Ar33.1) (State.isArrayOf_alike hZ.alike Ar33.2.1) Ar33.2.2 hin34 hat35 (g := (mkF m 12 #[.val (.ref ca), qI 4, .val (.ref ba), qI 4, qI 18, qI 4, qI c3_] [(.int 4), (.ref ca)])) rfl rfl (hb hby d13_12) t k) ?_
  show Go p e below _ (T30.setTop (mkF m 13 #[.val (.ref ca), qI 4, .val (.ref ba), qI 4, qI 18, qI 4, qI c3_] [(.int c4_)]))
  refine Go.by (fun t k => XS.istore X30.here hx rfl (hb hby d13_13) rfl (l' := #[.val (.ref ca), qI 4, .val (.ref ba), qI 4, qI 18, qI 4, qI c4_]) rfl (XS.iload X30.here hx rfl (hb hby d13_15) rfl (XS.sipush X30.here hx rfl (hb hby d13_17) (XS.icmpYes X30.here hx rfl (pc0 := 20) (pc' := 26) rfl (hb hby d13_20) rfl (flt (own_nle hq4)).2.2.2 (by decide) (by decide) (XS.aloadN X30.here hx rfl (hb hby d13_26) rfl rfl (XS.iloadN X30.here hx rfl (hb hby d13_27) rfl (XS.iload X30.here hx rfl (hb hby d13_28) rfl (XS.i2b X30.here hx rfl (hb hby d13_30) rfl k)))))))) ?_
  show Go p e below _ (T30.setTop (mkF m 31 #[.val (.ref ca), qI 4, .val (.ref ba), qI 4, qI 18, qI 4, qI c4_] [(.int (c4_.toInt8.toInt32)), (.int 4), (.ref ba)]))
  obtain ⟨cl36, Ar36, qk36, sz36, nn36, Ha36, Gf36⟩ := id F31
  have hin37 : ¬ ((4 : Int32) < 0 ∨ cl36.slots.size ≤ ((4 : Int32)).toNatClampNeg) := inb_of sz36 ⟨by decide, by decide⟩
  obtain ⟨T38, h38, X38, e38, W38, st38⟩ := stB X30 hx hZ e30 Ar36 (j := (4 : Int32)) hin37 (g := (mkF m 31 #[.val (.ref ca), qI 4, .val (.ref ba), qI 4, qI 18, qI 4, qI c4_] [(.int (c4_.toInt8.toInt32)), (.int 4), (.ref ba)])) rfl rfl (hb hby d13_31)
  have N38 := Fr.snoc X38 N30 gba
  have F39 : Arv Z h38 ba kb .byte (18 : Int32) [(.int (qB c0_)), (.int (qB c1_)), (.int (qB c2_)), (.int (qB c3_)), (.int (qB c4_)), (.int 0), (.int 0), (.int 0), (.int 0), (.int 0), (.int 0), (.int 0), (.int 0), (.int 0), (.int 0), (.int 0), (.int 0), (.int 0)] (.int 0) := Arv.set Ar36 qk36 sz36 nn36 Ha36 Gf36 (fits_nar_byte _) W38 4 rfl (Nat.le_of_ble_eq_true rfl)
  refine Go.by st38 ?_
  show Go p e below _ (T38.setTop (mkF m 32 #[.val (.ref ca), qI 4, .val (.ref ba), qI 4, qI 18, qI 4, qI c4_] []))
  refine Go.by (fun t k => XS.iinc X38.here hx rfl (hb hby d13_32) rfl (l' := #[.val (.ref ca), qI 5, .val (.ref ba), qI 4, qI 18, qI 4, qI c4_]) rfl (XS.iinc X38.here hx rfl (hb hby d13_35) rfl (l' := #[.val (.ref ca), qI 5, .val (.ref ba), qI 5, qI 18, qI 4, qI c4_]) rfl (XS.iinc X38.here hx rfl (hb hby d13_38) rfl (l' := #[.val (.ref ca), qI 5, .val (.ref ba), qI 5, qI 18, qI 5, qI c4_]) rfl (XS.goto X38.here hx rfl (pc0 := 41) (pc' := 3) rfl (hb hby d13_41) (by decide) (by decide) (XS.iload X38.here hx rfl (hb hby d13_3) rfl (XS.iload X38.here hx rfl (hb hby d13_5) rfl (XS.icmpNo X38.here hx rfl (hb hby d13_7) rfl (tlt (by decide : (5 : Int32) < (18 : Int32))).2.1 (XS.aloadN X38.here hx rfl (hb hby d13_10) rfl rfl k)))))))) ?_
  show Go p e below _ (T38.setTop (mkF m 11 #[.val (.ref ca), qI 5, .val (.ref ba), qI 5, qI 18, qI 5, qI c4_] [(.ref ca)]))
  refine Go.by (fun t k => XS.iloadN X38.here hx rfl (hb hby d13_11) rfl k) ?_
  show Go p e below _ (T38.setTop (mkF m 12 #[.val (.ref ca), qI 5, .val (.ref ba), qI 5, qI 18, qI 5, qI c4_] [(.int 5), (.ref ca)]))
  have F40 : Arv Z h38 ca kc .char (18 : Int32) [(.int c0_), (.int c1_), (.int c2_), (.int c3_), (.int c4_), (.int c5_), (.int c6_), (.int c7_), (.int c8_), (.int c9_), (.int c10_), (.int c11_), (.int c12_), (.int c13_), (.int c14_), (.int c15_), (.int c16_), (.int c17_)] (.int 0) := (F32.other W38 ncb)
  obtain ⟨cl41, Ar41, qk41, sz41, nn41, Ha41, Gf41⟩ := id F40
  have hin42 : ¬ ((5 : Int32) < 0 ∨ cl41.slots.size ≤ ((5 : Int32)).toNatClampNeg) := inb_of sz41 ⟨by decide, by decide⟩
  have hat43 : cl41.slots[((5 : Int32)).toNatClampNeg]? = some (.int c5_) := Has.at Ha41 hin42 rfl
  refine Go.by (fun t k => X38.caload hx (j := (5 : Int32)) (v := (.int c5_)) (by rw [e38]; exact Ar41.1) (State.isArrayOf_alike hZ.alike Ar41.2.1) Ar41.2.2 hin42 hat43 (g := (mkF m 12 #[.val (.ref ca), qI 5, .val (.ref ba), qI 5, qI 18, qI 5, qI c4_] [(.int 5), (.ref ca)])) rfl rfl (hb hby d13_12) t k) ?_
  show Go p e below _ (T38.setTop (mkF m 13 #[.val (.ref ca), qI 5, .val (.ref ba), qI 5, qI 18, qI 5, qI c4_] [(.int c5_)]))
  refine Go.by (fun t k => XS.istore X38.here hx rfl (hb hby d13_13) rfl (l' := #[.val (.ref ca), qI 5, .val (.ref ba), qI 5, qI 18, qI 5, qI c5_]) rfl (XS.iload X38.here hx rfl (hb hby d13_15) rfl (XS.sipush X38.here hx rfl (hb hby d13_17) (XS.icmpYes X38.here hx rfl (pc0 := 20) (pc' := 26) rfl (hb hby d13_20) rfl (flt (own_nle hq5)).2.2.2 (by decide) (by decide) (XS.aloadN X38.here hx rfl (hb hby d13_26) rfl rfl (XS.iloadN X38.here hx rfl (hb hby d13_27) rfl (XS.iload X38.here hx rfl (hb hby d13_28) rfl (XS.i2b X38.here hx rfl (hb hby d13_30) rfl k)))))))) ?_
  show Go p e below _ (T38.setTop (mkF m 31 #[.val (.ref ca), qI 5, .val (.ref ba), qI 5, qI 18, qI 5, qI c5_] [(.int (c5_.toInt8.toInt32)), (.int 5), (.ref ba)]))
  obtain ⟨cl44, Ar44, qk44, sz44, nn44, Ha44, Gf44⟩ := id F39
  have hin45 : ¬ ((5 : Int32) < 0 ∨ cl44.slots.size ≤ ((5 : Int32)).toNatClampNeg) := inb_of sz44 ⟨by decide, by decide⟩
  obtain ⟨T46, h46, X46, e46, W46, st46⟩ := stB X38 hx hZ e38 Ar44 (j := (5 : Int32)) hin45 (g := (mkF m 31 #[.val (.ref ca), qI 5, .val (.ref ba), qI 5, qI 18, qI 5, qI c5_] [(.int (c5_.toInt8.toInt32)), (.int 5), (.ref ba)])) rfl rfl (hb hby d13_31)
  have N46 := Fr.snoc X46 N38 gba
  have F47 : Arv Z h46 ba kb .byte (18 : Int32) [(.int (qB c0_)), (.int (qB c1_)), (.int (qB c2_)), (.int (qB c3_)), (.int (qB c4_)), (.int (qB c5_)), (.int 0), (.int 0), (.int 0), (.int 0), (.int 0), (.int 0), (.int 0), (.int 0), (.int 0), (.int 0), (.int 0), (.int 0)] (.int 0) := Arv.set Ar44 qk44 sz44 nn44 Ha44 Gf44 (fits_nar_byte _) W46 5 rfl (Nat.le_of_ble_eq_true rfl)
  refine Go.by st46 ?_
  show Go p e below _ (T46.setTop (mkF m 32 #[.val (.ref ca), qI 5, .val (.ref ba), qI 5, qI 18, qI 5, qI c5_] []))
  refine Go.by (fun t k => XS.iinc X46.here hx rfl (hb hby d13_32) rfl (l' := #[.val (.ref ca), qI 6, .val (.ref ba), qI 5, qI 18, qI 5, qI c5_]) rfl (XS.iinc X46.here hx rfl (hb hby d13_35) rfl (l' := #[.val (.ref ca), qI 6, .val (.ref ba), qI 6, qI 18, qI 5, qI c5_]) rfl (XS.iinc X46.here hx rfl (hb hby d13_38) rfl (l' := #[.val (.ref ca), qI 6, .val (.ref ba), qI 6, qI 18, qI 6, qI c5_]) rfl (XS.goto X46.here hx rfl (pc0 := 41) (pc' := 3) rfl (hb hby d13_41) (by decide) (by decide) (XS.iload X46.here hx rfl (hb hby d13_3) rfl (XS.iload X46.here hx rfl (hb hby d13_5) rfl (XS.icmpNo X46.here hx rfl (hb hby d13_7) rfl (tlt (by decide : (6 : Int32) < (18 : Int32))).2.1 (XS.aloadN X46.here hx rfl (hb hby d13_10) rfl rfl k)))))))) ?_
  show Go p e below _ (T46.setTop (mkF m 11 #[.val (.ref ca), qI 6, .val (.ref ba), qI 6, qI 18, qI 6, qI c5_] [(.ref ca)]))
  refine Go.by (fun t k => XS.iloadN X46.here hx rfl (hb hby d13_11) rfl k) ?_
  show Go p e below _ (T46.setTop (mkF m 12 #[.val (.ref ca), qI 6, .val (.ref ba), qI 6, qI 18, qI 6, qI c5_] [(.int 6), (.ref ca)]))
  have F48 : Arv Z h46 ca kc .char (18 : Int32) [(.int c0_), (.int c1_), (.int c2_), (.int c3_), (.int c4_), (.int c5_), (.int c6_), (.int c7_), (.int c8_), (.int c9_), (.int c10_), (.int c11_), (.int c12_), (.int c13_), (.int c14_), (.int c15_), (.int c16_), (.int c17_)] (.int 0) := (F40.other W46 ncb)
  obtain ⟨cl49, Ar49, qk49, sz49, nn49, Ha49, Gf49⟩ := id F48
  have hin50 : ¬ ((6 : Int32) < 0 ∨ cl49.slots.size ≤ ((6 : Int32)).toNatClampNeg) := inb_of sz49 ⟨by decide, by decide⟩
  have hat51 : cl49.slots[((6 : Int32)).toNatClampNeg]? = some (.int c6_) := Has.at Ha49 hin50 rfl
  refine Go.by (fun t k => X46.caload hx (j := (6 : Int32)) (v := (.int c6_)) (by rw [e46]; exact Ar49.1) (State.isArrayOf_alike hZ.alike Ar49.2.1) Ar49.2.2 hin50 hat51 (g := (mkF m 12 #[.val (.ref ca), qI 6, .val (.ref ba), qI 6, qI 18, qI 6, qI c5_] [(.int 6), (.ref ca)])) rfl rfl (hb hby d13_12) t k) ?_
  show Go p e below _ (T46.setTop (mkF m 13 #[.val (.ref ca), qI 6, .val (.ref ba), qI 6, qI 18, qI 6, qI c5_] [(.int c6_)]))
  refine Go.by (fun t k => XS.istore X46.here hx rfl (hb hby d13_13) rfl (l' := #[.val (.ref ca), qI 6, .val (.ref ba), qI 6, qI 18, qI 6, qI c6_]) rfl (XS.iload X46.here hx rfl (hb hby d13_15) rfl (XS.sipush X46.here hx rfl (hb hby d13_17) (XS.icmpYes X46.here hx rfl (pc0 := 20) (pc' := 26) rfl (hb hby d13_20) rfl (flt (own_nle hq6)).2.2.2 (by decide) (by decide) (XS.aloadN X46.here hx rfl (hb hby d13_26) rfl rfl (XS.iloadN X46.here hx rfl (hb hby d13_27) rfl (XS.iload X46.here hx rfl (hb hby d13_28) rfl (XS.i2b X46.here hx rfl (hb hby d13_30) rfl k)))))))) ?_
  show Go p e below _ (T46.setTop (mkF m 31 #[.val (.ref ca), qI 6, .val (.ref ba), qI 6, qI 18, qI 6, qI c6_] [(.int (c6_.toInt8.toInt32)), (.int 6), (.ref ba)]))
  obtain ⟨cl52, Ar52, qk52, sz52, nn52, Ha52, Gf52⟩ := id F47
  have hin53 : ¬ ((6 : Int32) < 0 ∨ cl52.slots.size ≤ ((6 : Int32)).toNatClampNeg) := inb_of sz52 ⟨by decide, by decide⟩
  obtain ⟨T54, h54, X54, e54, W54, st54⟩ := stB X46 hx hZ e46 Ar52 (j := (6 : Int32)) hin53 (g := (mkF m 31 #[.val (.ref ca), qI 6, .val (.ref ba), qI 6, qI 18, qI 6, qI c6_] [(.int (c6_.toInt8.toInt32)), (.int 6), (.ref ba)])) rfl rfl (hb hby d13_31)
  have N54 := Fr.snoc X54 N46 gba
  have F55 : Arv Z h54 ba kb .byte (18 : Int32) [(.int (qB c0_)), (.int (qB c1_)), (.int (qB c2_)), (.int (qB c3_)), (.int (qB c4_)), (.int (qB c5_)), (.int (qB c6_)), (.int 0), (.int 0), (.int 0), (.int 0), (.int 0), (.int 0), (.int 0), (.int 0), (.int 0), (.int 0), (.int 0)] (.int 0) := Arv.set Ar52 qk52 sz52 nn52 Ha52 Gf52 (fits_nar_byte _) W54 6 rfl (Nat.le_of_ble_eq_true rfl)
  refine Go.by st54 ?_
  show Go p e below _ (T54.setTop (mkF m 32 #[.val (.ref ca), qI 6, .val (.ref ba), qI 6, qI 18, qI 6, qI c6_] []))
  refine Go.by (fun t k => XS.iinc X54.here hx rfl (hb hby d13_32) rfl (l' := #[.val (.ref ca), qI 7, .val (.ref ba), qI 6, qI 18, qI 6, qI c6_]) rfl (XS.iinc X54.here hx rfl (hb hby d13_35) rfl (l' := #[.val (.ref ca), qI 7, .val (.ref ba), qI 7, qI 18, qI 6, qI c6_]) rfl (XS.iinc X54.here hx rfl (hb hby d13_38) rfl (l' := #[.val (.ref ca), qI 7, .val (.ref ba), qI 7, qI 18, qI 7, qI c6_]) rfl (XS.goto X54.here hx rfl (pc0 := 41) (pc' := 3) rfl (hb hby d13_41) (by decide) (by decide) (XS.iload X54.here hx rfl (hb hby d13_3) rfl (XS.iload X54.here hx rfl (hb hby d13_5) rfl (XS.icmpNo X54.here hx rfl (hb hby d13_7) rfl (tlt (by decide : (7 : Int32) < (18 : Int32))).2.1 (XS.aloadN X54.here hx rfl (hb hby d13_10) rfl rfl k)))))))) ?_
  show Go p e below _ (T54.setTop (mkF m 11 #[.val (.ref ca), qI 7, .val (.ref ba), qI 7, qI 18, qI 7, qI c6_] [(.ref ca)]))
  refine Go.by (fun t k => XS.iloadN X54.here hx rfl (hb hby d13_11) rfl k) ?_
  show Go p e below _ (T54.setTop (mkF m 12 #[.val (.ref ca), qI 7, .val (.ref ba), qI 7, qI 18, qI 7, qI c6_] [(.int 7), (.ref ca)]))
  have F56 : Arv Z h54 ca kc .char (18 : Int32) [(.int c0_), (.int c1_), (.int c2_), (.int c3_), (.int c4_), (.int c5_), (.int c6_), (.int c7_), (.int c8_), (.int c9_), (.int c10_), (.int c11_), (.int c12_), (.int c13_), (.int c14_), (.int c15_), (.int c16_), (.int c17_)] (.int 0) := (F48.other W54 ncb)
  obtain ⟨cl57, Ar57, qk57, sz57, nn57, Ha57, Gf57⟩ := id F56
  have hin58 : ¬ ((7 : Int32) < 0 ∨ cl57.slots.size ≤ ((7 : Int32)).toNatClampNeg) := inb_of sz57 ⟨by decide, by decide⟩
  have hat59 : cl57.slots[((7 : Int32)).toNatClampNeg]? = some (.int c7_) := Has.at Ha57 hin58 rfl
  refine Go.by (fun t k => X54.caload hx (j := (7 : Int32)) (v := (.int c7_)) (by rw [e54]; exact Ar57.1) (State.isArrayOf_alike hZ.alike Ar57.2.1) Ar57.2.2 hin58 hat59 (g := (mkF m 12 #[.val (.ref ca), qI 7, .val (.ref ba), qI 7, qI 18, qI 7, qI c6_] [(.int 7), (.ref ca)])) rfl rfl (hb hby d13_12) t k) ?_
  show Go p e below _ (T54.setTop (mkF m 13 #[.val (.ref ca), qI 7, .val (.ref ba), qI 7, qI 18, qI 7, qI c6_] [(.int c7_)]))
  refine Go.by (fun t k => XS.istore X54.here hx rfl (hb hby d13_13) rfl (l' := #[.val (.ref ca), qI 7, .val (.ref ba), qI 7, qI 18, qI 7, qI c7_]) rfl (XS.iload X54.here hx rfl (hb hby d13_15) rfl (XS.sipush X54.here hx rfl (hb hby d13_17) (XS.icmpYes X54.here hx rfl (pc0 := 20) (pc' := 26) rfl (hb hby d13_20) rfl (flt (own_nle hq7)).2.2.2 (by decide) (by decide) (XS.aloadN X54.here hx rfl (hb hby d13_26) rfl rfl (XS.iloadN X54.here hx rfl (hb hby d13_27) rfl (XS.iload X54.here hx rfl (hb hby d13_28) rfl (XS.i2b X54.here hx rfl (hb hby d13_30) rfl k)))))))) ?_
  show Go p e below _ (T54.setTop (mkF m 31 #[.val (.ref ca), qI 7, .val (.ref ba), qI 7, qI 18, qI 7, qI c7_] [(.int (c7_.toInt8.toInt32)), (.int 7), (.ref ba)]))
  obtain ⟨cl60, Ar60, qk60, sz60, nn60, Ha60, Gf60⟩ := id F55
  have hin61 : ¬ ((7 : Int32) < 0 ∨ cl60.slots.size ≤ ((7 : Int32)).toNatClampNeg) := inb_of sz60 ⟨by decide, by decide⟩
  obtain ⟨T62, h62, X62, e62, W62, st62⟩ := stB X54 hx hZ e54 Ar60 (j := (7 : Int32)) hin61 (g := (mkF m 31 #[.val (.ref ca), qI 7, .val (.ref ba), qI 7, qI 18, qI 7, qI c7_] [(.int (c7_.toInt8.toInt32)), (.int 7), (.ref ba)])) rfl rfl (hb hby d13_31)
  have N62 := Fr.snoc X62 N54 gba
  have F63 : Arv Z h62 ba kb .byte (18 : Int32) [(.int (qB c0_)), (.int (qB c1_)), (.int (qB c2_)), (.int (qB c3_)), (.int (qB c4_)), (.int (qB c5_)), (.int (qB c6_)), (.int (qB c7_)), (.int 0), (.int 0), (.int 0), (.int 0), (.int 0), (.int 0), (.int 0), (.int 0), (.int 0), (.int 0)] (.int 0) := Arv.set Ar60 qk60 sz60 nn60 Ha60 Gf60 (fits_nar_byte _) W62 7 rfl (Nat.le_of_ble_eq_true rfl)
  refine Go.by st62 ?_
  show Go p e below _ (T62.setTop (mkF m 32 #[.val (.ref ca), qI 7, .val (.ref ba), qI 7, qI 18, qI 7, qI c7_] []))
  refine Go.by (fun t k => XS.iinc X62.here hx rfl (hb hby d13_32) rfl (l' := #[.val (.ref ca), qI 8, .val (.ref ba), qI 7, qI 18, qI 7, qI c7_]) rfl (XS.iinc X62.here hx rfl (hb hby d13_35) rfl (l' := #[.val (.ref ca), qI 8, .val (.ref ba), qI 8, qI 18, qI 7, qI c7_]) rfl (XS.iinc X62.here hx rfl (hb hby d13_38) rfl (l' := #[.val (.ref ca), qI 8, .val (.ref ba), qI 8, qI 18, qI 8, qI c7_]) rfl (XS.goto X62.here hx rfl (pc0 := 41) (pc' := 3) rfl (hb hby d13_41) (by decide) (by decide) (XS.iload X62.here hx rfl (hb hby d13_3) rfl (XS.iload X62.here hx rfl (hb hby d13_5) rfl (XS.icmpNo X62.here hx rfl (hb hby d13_7) rfl (tlt (by decide : (8 : Int32) < (18 : Int32))).2.1 (XS.aloadN X62.here hx rfl (hb hby d13_10) rfl rfl k)))))))) ?_
  show Go p e below _ (T62.setTop (mkF m 11 #[.val (.ref ca), qI 8, .val (.ref ba), qI 8, qI 18, qI 8, qI c7_] [(.ref ca)]))
  refine Go.by (fun t k => XS.iloadN X62.here hx rfl (hb hby d13_11) rfl k) ?_
  show Go p e below _ (T62.setTop (mkF m 12 #[.val (.ref ca), qI 8, .val (.ref ba), qI 8, qI 18, qI 8, qI c7_] [(.int 8), (.ref ca)]))
  have F64 : Arv Z h62 ca kc .char (18 : Int32) [(.int c0_), (.int c1_), (.int c2_), (.int c3_), (.int c4_), (.int c5_), (.int c6_), (.int c7_), (.int c8_), (.int c9_), (.int c10_), (.int c11_), (.int c12_), (.int c13_), (.int c14_), (.int c15_), (.int c16_), (.int c17_)] (.int 0) := (F56.other W62 ncb)
  obtain ⟨cl65, Ar65, qk65, sz65, nn65, Ha65, Gf65⟩ := id F64
  have hin66 : ¬ ((8 : Int32) < 0 ∨ cl65.slots.size ≤ ((8 : Int32)).toNatClampNeg) := inb_of sz65 ⟨by decide, by decide⟩
  have hat67 : cl65.slots[((8 : Int32)).toNatClampNeg]? = some (.int c8_) := Has.at Ha65 hin66 rfl
  refine Go.by (fun t k => X62.caload hx (j := (8 : Int32)) (v := (.int c8_)) (by rw [e62]; exact Ar65.1) (State.isArrayOf_alike hZ.alike Ar65.2.1) Ar65.2.2 hin66 hat67 (g := (mkF m 12 #[.val (.ref ca), qI 8, .val (.ref ba), qI 8, qI 18, qI 8, qI c7_] [(.int 8), (.ref ca)])) rfl rfl (hb hby d13_12) t k) ?_
  show Go p e below _ (T62.setTop (mkF m 13 #[.val (.ref ca), qI 8, .val (.ref ba), qI 8, qI 18, qI 8, qI c7_] [(.int c8_)]))
  refine Go.by (fun t k => XS.istore X62.here hx rfl (hb hby d13_13) rfl (l' := #[.val (.ref ca), qI 8, .val (.ref ba), qI 8, qI 18, qI 8, qI c8_]) rfl (XS.iload X62.here hx rfl (hb hby d13_15) rfl (XS.sipush X62.here hx rfl (hb hby d13_17) (XS.icmpYes X62.here hx rfl (pc0 := 20) (pc' := 26) rfl (hb hby d13_20) rfl (flt (own_nle hq8)).2.2.2 (by decide) (by decide) (XS.aloadN X62.here hx rfl (hb hby d13_26) rfl rfl (XS.iloadN X62.here hx rfl (hb hby d13_27) rfl (XS.iload X62.here hx rfl (hb hby d13_28) rfl (XS.i2b X62.here hx rfl (hb hby d13_30) rfl k)))))))) ?_
  show Go p e below _ (T62.setTop (mkF m 31 #[.val (.ref ca), qI 8, .val (.ref ba), qI 8, qI 18, qI 8, qI c8_] [(.int (c8_.toInt8.toInt32)), (.int 8), (.ref ba)]))
  obtain ⟨cl68, Ar68, qk68, sz68, nn68, Ha68, Gf68⟩ := id F63
  have hin69 : ¬ ((8 : Int32) < 0 ∨ cl68.slots.size ≤ ((8 : Int32)).toNatClampNeg) := inb_of sz68 ⟨by decide, by decide⟩
  obtain ⟨T70, h70, X70, e70, W70, st70⟩ := stB X62 hx hZ e62 Ar68 (j := (8 : Int32)) hin69 (g := (mkF m 31 #[.val (.ref ca), qI 8, .val (.ref ba), qI 8, qI 18, qI 8, qI c8_] [(.int (c8_.toInt8.toInt32)), (.int 8), (.ref ba)])) rfl rfl (hb hby d13_31)
  have N70 := Fr.snoc X70 N62 gba
  have F71 : Arv Z h70 ba kb .byte (18 : Int32) [(.int (qB c0_)), (.int (qB c1_)), (.int (qB c2_)), (.int (qB c3_)), (.int (qB c4_)), (.int (qB c5_)), (.int (qB c6_)), (.int (qB c7_)), (.int (qB c8_)), (.int 0), (.int 0), (.int 0), (.int 0), (.int 0), (.int 0), (.int 0), (.int 0), (.int 0)] (.int 0) := Arv.set Ar68 qk68 sz68 nn68 Ha68 Gf68 (fits_nar_byte _) W70 8 rfl (Nat.le_of_ble_eq_true rfl)
  refine Go.by st70 ?_
  show Go p e below _ (T70.setTop (mkF m 32 #[.val (.ref ca), qI 8, .val (.ref ba), qI 8, qI 18, qI 8, qI c8_] []))
  refine Go.by (fun t k => XS.iinc X70.here hx rfl (hb hby d13_32) rfl (l' := #[.val (.ref ca), qI 9, .val (.ref ba), qI 8, qI 18, qI 8, qI c8_]) rfl (XS.iinc X70.here hx rfl (hb hby d13_35) rfl (l' := #[.val (.ref ca), qI 9, .val (.ref ba), qI 9, qI 18, qI 8, qI c8_]) rfl (XS.iinc X70.here hx rfl (hb hby d13_38) rfl (l' := #[.val (.ref ca), qI 9, .val (.ref ba), qI 9, qI 18, qI 9, qI c8_]) rfl (XS.goto X70.here hx rfl (pc0 := 41) (pc' := 3) rfl (hb hby d13_41) (by decide) (by decide) (XS.iload X70.here hx rfl (hb hby d13_3) rfl (XS.iload X70.here hx rfl (hb hby d13_5) rfl (XS.icmpNo X70.here hx rfl (hb hby d13_7) rfl (tlt (by decide : (9 : Int32) < (18 : Int32))).2.1 (XS.aloadN X70.here hx rfl (hb hby d13_10) rfl rfl k)))))))) ?_
  show Go p e below _ (T70.setTop (mkF m 11 #[.val (.ref ca), qI 9, .val (.ref ba), qI 9, qI 18, qI 9, qI c8_] [(.ref ca)]))
  refine Go.by (fun t k => XS.iloadN X70.here hx rfl (hb hby d13_11) rfl k) ?_
  show Go p e below _ (T70.setTop (mkF m 12 #[.val (.ref ca), qI 9, .val (.ref ba), qI 9, qI 18, qI 9, qI c8_] [(.int 9), (.ref ca)]))
  have F72 : Arv Z h70 ca kc .char (18 : Int32) [(.int c0_), (.int c1_), (.int c2_), (.int c3_), (.int c4_), (.int c5_), (.int c6_), (.int c7_), (.int c8_), (.int c9_), (.int c10_), (.int c11_), (.int c12_), (.int c13_), (.int c14_), (.int c15_), (.int c16_), (.int c17_)] (.int 0) := (F64.other W70 ncb)
  obtain ⟨cl73, Ar73, qk73, sz73, nn73, Ha73, Gf73⟩ := id F72
  have hin74 : ¬ ((9 : Int32) < 0 ∨ cl73.slots.size ≤ ((9 : Int32)).toNatClampNeg) := inb_of sz73 ⟨by decide, by decide⟩
  have hat75 : cl73.slots[((9 : Int32)).toNatClampNeg]? = some (.int c9_) := Has.at Ha73 hin74 rfl
  refine Go.by (fun t k => X70.caload hx (j := (9 : Int32)) (v := (.int c9_)) (by rw [e70]; exact Ar73.1) (State.isArrayOf_alike hZ.alike Ar73.2.1) Ar73.2.2 hin74 hat75 (g := (mkF m 12 #[.val (.ref ca), qI 9, .val (.ref ba), qI 9, qI 18, qI 9, qI c8_] [(.int 9), (.ref ca)])) rfl rfl (hb hby d13_12) t k) ?_
  show Go p e below _ (T70.setTop (mkF m 13 #[.val (.ref ca), qI 9, .val (.ref ba), qI 9, qI 18, qI 9, qI c8_] [(.int c9_)]))
  refine Go.by (fun t k => XS.istore X70.here hx rfl (hb hby d13_13) rfl (l' := #[.val (.ref ca), qI 9, .val (.ref ba), qI 9, qI 18, qI 9, qI c9_]) rfl (XS.iload X70.here hx rfl (hb hby d13_15) rfl (XS.sipush X70.here hx rfl (hb hby d13_17) (XS.icmpYes X70.here hx rfl (pc0 := 20) (pc' := 26) rfl (hb hby d13_20) rfl (flt (own_nle hq9)).2.2.2 (by decide) (by decide) (XS.aloadN X70.here hx rfl (hb hby d13_26) rfl rfl (XS.iloadN X70.here hx rfl (hb hby d13_27) rfl (XS.iload X70.here hx rfl (hb hby d13_28) rfl (XS.i2b X70.here hx rfl (hb hby d13_30) rfl k)))))))) ?_
  show Go p e below _ (T70.setTop (mkF m 31 #[.val (.ref ca), qI 9, .val (.ref ba), qI 9, qI 18, qI 9, qI c9_] [(.int (c9_.toInt8.toInt32)), (.int 9), (.ref ba)]))
  obtain ⟨cl76, Ar76, qk76, sz76, nn76, Ha76, Gf76⟩ := id F71
  have hin77 : ¬ ((9 : Int32) < 0 ∨ cl76.slots.size ≤ ((9 : Int32)).toNatClampNeg) := inb_of sz76 ⟨by decide, by decide⟩
  obtain ⟨T78, h78, X78, e78, W78, st78⟩ := stB X70 hx hZ e70 Ar76 (j := (9 : Int32)) hin77 (g := (mkF m 31 #[.val (.ref ca), qI 9, .val (.ref ba), qI 9, qI 18, qI 9, qI c9_] [(.int (c9_.toInt8.toInt32)), (.int 9), (.ref ba)])) rfl rfl (hb hby d13_31)
  have N78 := Fr.snoc X78 N70 gba
  have F79 : Arv Z h78 ba kb .byte (18 : Int32) [(.int (qB c0_)), (.int (qB c1_)), (.int (qB c2_)), (.int (qB c3_)), (.int (qB c4_)), (.int (qB c5_)), (.int (qB c6_)), (.int (qB c7_)), (.int (qB c8_)), (.int (qB c9_)), (.int 0), (.int 0), (.int 0), (.int 0), (.int 0), (.int 0), (.int 0), (.int 0)] (.int 0) := Arv.set Ar76 qk76 sz76 nn76 Ha76 Gf76 (fits_nar_byte _) W78 9 rfl (Nat.le_of_ble_eq_true rfl)
  refine Go.by st78 ?_
  show Go p e below _ (T78.setTop (mkF m 32 #[.val (.ref ca), qI 9, .val (.ref ba), qI 9, qI 18, qI 9, qI c9_] []))
  refine Go.by (fun t k => XS.iinc X78.here hx rfl (hb hby d13_32) rfl (l' := #[.val (.ref ca), qI 10, .val (.ref ba), qI 9, qI 18, qI 9, qI c9_]) rfl (XS.iinc X78.here hx rfl (hb hby d13_35) rfl (l' := #[.val (.ref ca), qI 10, .val (.ref ba), qI 10, qI 18, qI 9, qI c9_]) rfl (XS.iinc X78.here hx rfl (hb hby d13_38) rfl (l' := #[.val (.ref ca), qI 10, .val (.ref ba), qI 10, qI 18, qI 10, qI c9_]) rfl (XS.goto X78.here hx rfl (pc0 := 41) (pc' := 3) rfl (hb hby d13_41) (by decide) (by decide) (XS.iload X78.here hx rfl (hb hby d13_3) rfl (XS.iload X78.here hx rfl (hb hby d13_5) rfl (XS.icmpNo X78.here hx rfl (hb hby d13_7) rfl (tlt (by decide : (10 : Int32) < (18 : Int32))).2.1 (XS.aloadN X78.here hx rfl (hb hby d13_10) rfl rfl k)))))))) ?_
  show Go p e below _ (T78.setTop (mkF m 11 #[.val (.ref ca), qI 10, .val (.ref ba), qI 10, qI 18, qI 10, qI c9_] [(.ref ca)]))
  refine Go.by (fun t k => XS.iloadN X78.here hx rfl (hb hby d13_11) rfl k) ?_
  show Go p e below _ (T78.setTop (mkF m 12 #[.val (.ref ca), qI 10, .val (.ref ba), qI 10, qI 18, qI 10, qI c9_] [(.int 10), (.ref ca)]))
  have F80 : Arv Z h78 ca kc .char (18 : Int32) [(.int c0_), (.int c1_), (.int c2_), (.int c3_), (.int c4_), (.int c5_), (.int c6_), (.int c7_), (.int c8_), (.int c9_), (.int c10_), (.int c11_), (.int c12_), (.int c13_), (.int c14_), (.int c15_), (.int c16_), (.int c17_)] (.int 0) := (F72.other W78 ncb)
  obtain ⟨cl81, Ar81, qk81, sz81, nn81, Ha81, Gf81⟩ := id F80
  have hin82 : ¬ ((10 : Int32) < 0 ∨ cl81.slots.size ≤ ((10 : Int32)).toNatClampNeg) := inb_of sz81 ⟨by decide, by decide⟩
  have hat83 : cl81.slots[((10 : Int32)).toNatClampNeg]? = some (.int c10_) := Has.at Ha81 hin82 rfl
  refine Go.by (fun t k => X78.caload hx (j := (10 : Int32)) (v := (.int c10_)) (by rw [e78]; exact Ar81.1) (State.isArrayOf_alike hZ.alike Ar81.2.1) Ar81.2.2 hin82 hat83 (g := (mkF m 12 #[.val (.ref ca), qI 10, .val (.ref ba), qI 10, qI 18, qI 10, qI c9_] [(.int 10), (.ref ca)])) rfl rfl (hb hby d13_12) t k) ?_
  show Go p e below _ (T78.setTop (mkF m 13 #[.val (.ref ca), qI 10, .val (.ref ba), qI 10, qI 18, qI 10, qI c9_] [(.int c10_)]))
  refine Go.by (fun t k => XS.istore X78.here hx rfl (hb hby d13_13) rfl (l' := #[.val (.ref ca), qI 10, .val (.ref ba), qI 10, qI 18, qI 10, qI c10_]) rfl (XS.iload X78.here hx rfl (hb hby d13_15) rfl (XS.sipush X78.here hx rfl (hb hby d13_17) (XS.icmpYes X78.here hx rfl (pc0 := 20) (pc' := 26) rfl (hb hby d13_20) rfl (flt (own_nle hq10)).2.2.2 (by decide) (by decide) (XS.aloadN X78.here hx rfl (hb hby d13_26) rfl rfl (XS.iloadN X78.here hx rfl (hb hby d13_27) rfl (XS.iload X78.here hx rfl (hb hby d13_28) rfl (XS.i2b X78.here hx rfl (hb hby d13_30) rfl k)))))))) ?_
  show Go p e below _ (T78.setTop (mkF m 31 #[.val (.ref ca), qI 10, .val (.ref ba), qI 10, qI 18, qI 10, qI c10_] [(.int (c10_.toInt8.toInt32)), (.int 10), (.ref ba)]))
  obtain ⟨cl84, Ar84, qk84, sz84, nn84, Ha84, Gf84⟩ := id F79
  have hin85 : ¬ ((10 : Int32) < 0 ∨ cl84.slots.size ≤ ((10 : Int32)).toNatClampNeg) := inb_of sz84 ⟨by decide, by decide⟩
  obtain ⟨T86, h86, X86, e86, W86, st86⟩ := stB X78 hx hZ e78 Ar84 (j := (10 : Int32)) hin85 (g := (mkF m 31 #[.val (.ref ca), qI 10, .val (.ref ba), qI 10, qI 18, qI 10, qI c10_] [(.int (c10_.toInt8.toInt32)), (.int 10), (.ref ba)])) rfl rfl (hb hby d13_31)
  have N86 := Fr.snoc X86 N78 gba
  have F87 : Arv Z h86 ba kb .byte (18 : Int32) [(.int (qB c0_)), (.int (qB c1_)), (.int (qB c2_)), (.int (qB c3_)), (.int (qB c4_)), (.int (qB c5_)), (.int (qB c6_)), (.int (qB c7_)), (.int (qB c8_)), (.int (qB c9_)), (.int (qB c10_)), (.int 0), (.int 0), (.int 0), (.int 0), (.int 0), (.int 0), (.int 0)] (.int 0) := Arv.set Ar84 qk84 sz84 nn84 Ha84 Gf84 (fits_nar_byte _) W86 10 rfl (Nat.le_of_ble_eq_true rfl)
  refine Go.by st86 ?_
  show Go p e below _ (T86.setTop (mkF m 32 #[.val (.ref ca), qI 10, .val (.ref ba), qI 10, qI 18, qI 10, qI c10_] []))
  refine Go.by (fun t k => XS.iinc X86.here hx rfl (hb hby d13_32) rfl (l' := #[.val (.ref ca), qI 11, .val (.ref ba), qI 10, qI 18, qI 10, qI c10_]) rfl (XS.iinc X86.here hx rfl (hb hby d13_35) rfl (l' := #[.val (.ref ca), qI 11, .val (.ref ba), qI 11, qI 18, qI 10, qI c10_]) rfl (XS.iinc X86.here hx rfl (hb hby d13_38) rfl (l' := #[.val (.ref ca), qI 11, .val (.ref ba), qI 11, qI 18, qI 11, qI c10_]) rfl (XS.goto X86.here hx rfl (pc0 := 41) (pc' := 3) rfl (hb hby d13_41) (by decide) (by decide) (XS.iload X86.here hx rfl (hb hby d13_3) rfl (XS.iload X86.here hx rfl (hb hby d13_5) rfl (XS.icmpNo X86.here hx rfl (hb hby d13_7) rfl (tlt (by decide : (11 : Int32) < (18 : Int32))).2.1 (XS.aloadN X86.here hx rfl (hb hby d13_10) rfl rfl k)))))))) ?_
  show Go p e below _ (T86.setTop (mkF m 11 #[.val (.ref ca), qI 11, .val (.ref ba), qI 11, qI 18, qI 11, qI c10_] [(.ref ca)]))
  refine Go.by (fun t k => XS.iloadN X86.here hx rfl (hb hby d13_11) rfl k) ?_
  show Go p e below _ (T86.setTop (mkF m 12 #[.val (.ref ca), qI 11, .val (.ref ba), qI 11, qI 18, qI 11, qI c10_] [(.int 11), (.ref ca)]))
  have F88 : Arv Z h86 ca kc .char (18 : Int32) [(.int c0_), (.int c1_), (.int c2_), (.int c3_), (.int c4_), (.int c5_), (.int c6_), (.int c7_), (.int c8_), (.int c9_), (.int c10_), (.int c11_), (.int c12_), (.int c13_), (.int c14_), (.int c15_), (.int c16_), (.int c17_)] (.int 0) := (F80.other W86 ncb)
  obtain ⟨cl89, Ar89, qk89, sz89, nn89, Ha89, Gf89⟩ := id F88
  have hin90 : ¬ ((11 : Int32) < 0 ∨ cl89.slots.size ≤ ((11 : Int32)).toNatClampNeg) := inb_of sz89 ⟨by decide, by decide⟩
  have hat91 : cl89.slots[((11 : Int32)).toNatClampNeg]? = some (.int c11_) := Has.at Ha89 hin90 rfl
  refine Go.by (fun t k => X86.caload hx (j := (11 : Int32)) (v := (.int c11_)) (by rw [e86]; exact Ar89.1) (State.isArrayOf_alike hZ.alike Ar89.2.1) Ar89.2.2 hin90 hat91 (g := (mkF m 12 #[.val (.ref ca), qI 11, .val (.ref ba), qI 11, qI 18, qI 11, qI c10_] [(.int 11), (.ref ca)])) rfl rfl (hb hby d13_12) t k) ?_
  show Go p e below _ (T86.setTop (mkF m 13 #[.val (.ref ca), qI 11, .val (.ref ba), qI 11, qI 18, qI 11, qI c10_] [(.int c11_)]))
  refine Go.by (fun t k => XS.istore X86.here hx rfl (hb hby d13_13) rfl (l' := #[.val (.ref ca), qI 11, .val (.ref ba), qI 11, qI 18, qI 11, qI c11_]) rfl (XS.iload X86.here hx rfl (hb hby d13_15) rfl (XS.sipush X86.here hx rfl (hb hby d13_17) (XS.icmpYes X86.here hx rfl (pc0 := 20) (pc' := 26) rfl (hb hby d13_20) rfl (flt (own_nle hq11)).2.2.2 (by decide) (by decide) (XS.aloadN X86.here hx rfl (hb hby d13_26) rfl rfl (XS.iloadN X86.here hx rfl (hb hby d13_27) rfl (XS.iload X86.here hx rfl (hb hby d13_28) rfl (XS.i2b X86.here hx rfl (hb hby d13_30) rfl k)))))))) ?_
  show Go p e below _ (T86.setTop (mkF m 31 #[.val (.ref ca), qI 11, .val (.ref ba), qI 11, qI 18, qI 11, qI c11_] [(.int (c11_.toInt8.toInt32)), (.int 11), (.ref ba)]))
  obtain ⟨cl92, Ar92, qk92, sz92, nn92, Ha92, Gf92⟩ := id F87
  have hin93 : ¬ ((11 : Int32) < 0 ∨ cl92.slots.size ≤ ((11 : Int32)).toNatClampNeg) := inb_of sz92 ⟨by decide, by decide⟩
  obtain ⟨T94, h94, X94, e94, W94, st94⟩ := stB X86 hx hZ e86 Ar92 (j := (11 : Int32)) hin93 (g := (mkF m 31 #[.val (.ref ca), qI 11, .val (.ref ba), qI 11, qI 18, qI 11, qI c11_] [(.int (c11_.toInt8.toInt32)), (.int 11), (.ref ba)])) rfl rfl (hb hby d13_31)
  have N94 := Fr.snoc X94 N86 gba
  have F95 : Arv Z h94 ba kb .byte (18 : Int32) [(.int (qB c0_)), (.int (qB c1_)), (.int (qB c2_)), (.int (qB c3_)), (.int (qB c4_)), (.int (qB c5_)), (.int (qB c6_)), (.int (qB c7_)), (.int (qB c8_)), (.int (qB c9_)), (.int (qB c10_)), (.int (qB c11_)), (.int 0), (.int 0), (.int 0), (.int 0), (.int 0), (.int 0)] (.int 0) := Arv.set Ar92 qk92 sz92 nn92 Ha92 Gf92 (fits_nar_byte _) W94 11 rfl (Nat.le_of_ble_eq_true rfl)
  refine Go.by st94 ?_
  show Go p e below _ (T94.setTop (mkF m 32 #[.val (.ref ca), qI 11, .val (.ref ba), qI 11, qI 18, qI 11, qI c11_] []))
  refine Go.by (fun t k => XS.iinc X94.here hx rfl (hb hby d13_32) rfl (l' := #[.val (.ref ca), qI 12, .val (.ref ba), qI 11, qI 18, qI 11, qI c11_]) rfl (XS.iinc X94.here hx rfl (hb hby d13_35) rfl (l' := #[.val (.ref ca), qI 12, .val (.ref ba), qI 12, qI 18, qI 11, qI c11_]) rfl (XS.iinc X94.here hx rfl (hb hby d13_38) rfl (l' := #[.val (.ref ca), qI 12, .val (.ref ba), qI 12, qI 18, qI 12, qI c11_]) rfl (XS.goto X94.here hx rfl (pc0 := 41) (pc' := 3) rfl (hb hby d13_41) (by decide) (by decide) (XS.iload X94.here hx rfl (hb hby d13_3) rfl (XS.iload X94.here hx rfl (hb hby d13_5) rfl (XS.icmpNo X94.here hx rfl (hb hby d13_7) rfl (tlt (by decide : (12 : Int32) < (18 : Int32))).2.1 (XS.aloadN X94.here hx rfl (hb hby d13_10) rfl rfl k)))))))) ?_
  show Go p e below _ (T94.setTop (mkF m 11 #[.val (.ref ca), qI 12, .val (.ref ba), qI 12, qI 18, qI 12, qI c11_] [(.ref ca)]))
  refine Go.by (fun t k => XS.iloadN X94.here hx rfl (hb hby d13_11) rfl k) ?_
  show Go p e below _ (T94.setTop (mkF m 12 #[.val (.ref ca), qI 12, .val (.ref ba), qI 12, qI 18, qI 12, qI c11_] [(.int 12), (.ref ca)]))
  have F96 : Arv Z h94 ca kc .char (18 : Int32) [(.int c0_), (.int c1_), (.int c2_), (.int c3_), (.int c4_), (.int c5_), (.int c6_), (.int c7_), (.int c8_), (.int c9_), (.int c10_), (.int c11_), (.int c12_), (.int c13_), (.int c14_), (.int c15_), (.int c16_), (.int c17_)] (.int 0) := (F88.other W94 ncb)
  obtain ⟨cl97, Ar97, qk97, sz97, nn97, Ha97, Gf97⟩ := id F96
  have hin98 : ¬ ((12 : Int32) < 0 ∨ cl97.slots.size ≤ ((12 : Int32)).toNatClampNeg) := inb_of sz97 ⟨by decide, by decide⟩
  have hat99 : cl97.slots[((12 : Int32)).toNatClampNeg]? = some (.int c12_) := Has.at Ha97 hin98 rfl
  refine Go.by (fun t k => X94.caload hx (j := (12 : Int32)) (v := (.int c12_)) (by rw [e94]; exact Ar97.1) (State.isArrayOf_alike hZ.alike Ar97.2.1) Ar97.2.2 hin98 hat99 (g := (mkF m 12 #[.val (.ref ca), qI 12, .val (.ref ba), qI 12, qI 18, qI 12, qI c11_] [(.int 12), (.ref ca)])) rfl rfl (hb hby d13_12) t k) ?_
  show Go p e below _ (T94.setTop (mkF m 13 #[.val (.ref ca), qI 12, .val (.ref ba), qI 12, qI 18, qI 12, qI c11_] [(.int c12_)]))
  refine Go.by (fun t k => XS.istore X94.here hx rfl (hb hby d13_13) rfl (l' := #[.val (.ref ca), qI 12, .val (.ref ba), qI 12, qI 18, qI 12, qI c12_]) rfl (XS.iload X94.here hx rfl (hb hby d13_15) rfl (XS.sipush X94.here hx rfl (hb hby d13_17) (XS.icmpYes X94.here hx rfl (pc0 := 20) (pc' := 26) rfl (hb hby d13_20) rfl (flt (own_nle hq12)).2.2.2 (by decide) (by decide) (XS.aloadN X94.here hx rfl (hb hby d13_26) rfl rfl (XS.iloadN X94.here hx rfl (hb hby d13_27) rfl (XS.iload X94.here hx rfl (hb hby d13_28) rfl (XS.i2b X94.here hx rfl (hb hby d13_30) rfl k)))))))) ?_
  show Go p e below _ (T94.setTop (mkF m 31 #[.val (.ref ca), qI 12, .val (.ref ba), qI 12, qI 18, qI 12, qI c12_] [(.int (c12_.toInt8.toInt32)), (.int 12), (.ref ba)]))
  obtain ⟨cl100, Ar100, qk100, sz100, nn100, Ha100, Gf100⟩ := id F95
  have hin101 : ¬ ((12 : Int32) < 0 ∨ cl100.slots.size ≤ ((12 : Int32)).toNatClampNeg) := inb_of sz100 ⟨by decide, by decide⟩
  obtain ⟨T102, h102, X102, e102, W102, st102⟩ := stB X94 hx hZ e94 Ar100 (j := (12 : Int32)) hin101 (g := (mkF m 31 #[.val (.ref ca), qI 12, .val (.ref ba), qI 12, qI 18, qI 12, qI c12_] [(.int (c12_.toInt8.toInt32)), (.int 12), (.ref ba)])) rfl rfl (hb hby d13_31)
  have N102 := Fr.snoc X102 N94 gba
  have F103 : Arv Z h102 ba kb .byte (18 : Int32) [(.int (qB c0_)), (.int (qB c1_)), (.int (qB c2_)), (.int (qB c3_)), (.int (qB c4_)), (.int (qB c5_)), (.int (qB c6_)), (.int (qB c7_)), (.int (qB c8_)), (.int (qB c9_)), (.int (qB c10_)), (.int (qB c11_)), (.int (qB c12_)), (.int 0), (.int 0), (.int 0), (.int 0), (.int 0)] (.int 0) := Arv.set Ar100 qk100 sz100 nn100 Ha100 Gf100 (fits_nar_byte _) W102 12 rfl (Nat.le_of_ble_eq_true rfl)
  refine Go.by st102 ?_
  show Go p e below _ (T102.setTop (mkF m 32 #[.val (.ref ca), qI 12, .val (.ref ba), qI 12, qI 18, qI 12, qI c12_] []))
  refine Go.by (fun t k => XS.iinc X102.here hx rfl (hb hby d13_32) rfl (l' := #[.val (.ref ca), qI 13, .val (.ref ba), qI 12, qI 18, qI 12, qI c12_]) rfl (XS.iinc X102.here hx rfl (hb hby d13_35) rfl (l' := #[.val (.ref ca), qI 13, .val (.ref ba), qI 13, qI 18, qI 12, qI c12_]) rfl (XS.iinc X102.here hx rfl (hb hby d13_38) rfl (l' := #[.val (.ref ca), qI 13, .val (.ref ba), qI 13, qI 18, qI 13, qI c12_]) rfl (XS.goto X102.here hx rfl (pc0 := 41) (pc' := 3) rfl (hb hby d13_41) (by decide) (by decide) (XS.iload X102.here hx rfl (hb hby d13_3) rfl (XS.iload X102.here hx rfl (hb hby d13_5) rfl (XS.icmpNo X102.here hx rfl (hb hby d13_7) rfl (tlt (by decide : (13 : Int32) < (18 : Int32))).2.1 (XS.aloadN X102.here hx rfl (hb hby d13_10) rfl rfl k)))))))) ?_
  show Go p e below _ (T102.setTop (mkF m 11 #[.val (.ref ca), qI 13, .val (.ref ba), qI 13, qI 18, qI 13, qI c12_] [(.ref ca)]))
  refine Go.by (fun t k => XS.iloadN X102.here hx rfl (hb hby d13_11) rfl k) ?_
  show Go p e below _ (T102.setTop (mkF m 12 #[.val (.ref ca), qI 13, .val (.ref ba), qI 13, qI 18, qI 13, qI c12_] [(.int 13), (.ref ca)]))
  have F104 : Arv Z h102 ca kc .char (18 : Int32) [(.int c0_), (.int c1_), (.int c2_), (.int c3_), (.int c4_), (.int c5_), (.int c6_), (.int c7_), (.int c8_), (.int c9_), (.int c10_), (.int c11_), (.int c12_), (.int c13_), (.int c14_), (.int c15_), (.int c16_), (.int c17_)] (.int 0) := (F96.other W102 ncb)
  obtain ⟨cl105, Ar105, qk105, sz105, nn105, Ha105, Gf105⟩ := id F104
  have hin106 : ¬ ((13 : Int32) < 0 ∨ cl105.slots.size ≤ ((13 : Int32)).toNatClampNeg) := inb_of sz105 ⟨by decide, by decide⟩
  have hat107 : cl105.slots[((13 : Int32)).toNatClampNeg]? = some (.int c13_) := Has.at Ha105 hin106 rfl
  refine Go.by (fun t k => X102.caload hx (j := (13 : Int32)) (v := (.int c13_)) (by rw [e102]; exact Ar105.1) (State.isArrayOf_alike hZ.alike Ar105.2.1) Ar105.2.2 hin106 hat107 (g := (mkF m 12 #[.val (.ref ca), qI 13, .val (.ref ba), qI 13, qI 18, qI 13, qI c12_] [(.int 13), (.ref ca)])) rfl rfl (hb hby d13_12) t k) ?_
  show Go p e below _ (T102.setTop (mkF m 13 #[.val (.ref ca), qI 13, .val (.ref ba), qI 13, qI 18, qI 13, qI c12_] [(.int c13_)]))
  refine Go.by (fun t k => XS.istore X102.here hx rfl (hb hby d13_13) rfl (l' := #[.val (.ref ca), qI 13, .val (.ref ba), qI 13, qI 18, qI 13, qI c13_]) rfl (XS.iload X102.here hx rfl (hb hby d13_15) rfl (XS.sipush X102.here hx rfl (hb hby d13_17) (XS.icmpYes X102.here hx rfl (pc0 := 20) (pc' := 26) rfl (hb hby d13_20) rfl (flt (own_nle hq13)).2.2.2 (by decide) (by decide) (XS.aloadN X102.here hx rfl (hb hby d13_26) rfl rfl (XS.iloadN X102.here hx rfl (hb hby d13_27) rfl (XS.iload X102.here hx rfl (hb hby d13_28) rfl (XS.i2b X102.here hx rfl (hb hby d13_30) rfl k)))))))) ?_
  show Go p e below _ (T102.setTop (mkF m 31 #[.val (.ref ca), qI 13, .val (.ref ba), qI 13, qI 18, qI 13, qI c13_] [(.int (c13_.toInt8.toInt32)), (.int 13), (.ref ba)]))
  obtain ⟨cl108, Ar108, qk108, sz108, nn108, Ha108, Gf108⟩ := id F103
  have hin109 : ¬ ((13 : Int32) < 0 ∨ cl108.slots.size ≤ ((13 : Int32)).toNatClampNeg) := inb_of sz108 ⟨by decide, by decide⟩
  obtain ⟨T110, h110, X110, e110, W110, st110⟩ := stB X102 hx hZ e102 Ar108 (j := (13 : Int32)) hin109 (g := (mkF m 31 #[.val (.ref ca), qI 13, .val (.ref ba), qI 13, qI 18, qI 13, qI c13_] [(.int (c13_.toInt8.toInt32)), (.int 13), (.ref ba)])) rfl rfl (hb hby d13_31)
  have N110 := Fr.snoc X110 N102 gba
  have F111 : Arv Z h110 ba kb .byte (18 : Int32) [(.int (qB c0_)), (.int (qB c1_)), (.int (qB c2_)), (.int (qB c3_)), (.int (qB c4_)), (.int (qB c5_)), (.int (qB c6_)), (.int (qB c7_)), (.int (qB c8_)), (.int (qB c9_)), (.int (qB c10_)), (.int (qB c11_)), (.int (qB c12_)), (.int (qB c13_)), (.int 0), (.int 0), (.int 0), (.int 0)] (.int 0) := Arv.set Ar108 qk108 sz108 nn108 Ha108 Gf108 (fits_nar_byte _) W110 13 rfl (Nat.le_of_ble_eq_true rfl)
  refine Go.by st110 ?_
  show Go p e below _ (T110.setTop (mkF m 32 #[.val (.ref ca), qI 13, .val (.ref ba), qI 13, qI 18, qI 13, qI c13_] []))
  refine Go.by (fun t k => XS.iinc X110.here hx rfl (hb hby d13_32) rfl (l' := #[.val (.ref ca), qI 14, .val (.ref ba), qI 13, qI 18, qI 13, qI c13_]) rfl (XS.iinc X110.here hx rfl (hb hby d13_35) rfl (l' := #[.val (.ref ca), qI 14, .val (.ref ba), qI 14, qI 18, qI 13, qI c13_]) rfl (XS.iinc X110.here hx rfl (hb hby d13_38) rfl (l' := #[.val (.ref ca), qI 14, .val (.ref ba), qI 14, qI 18, qI 14, qI c13_]) rfl (XS.goto X110.here hx rfl (pc0 := 41) (pc' := 3) rfl (hb hby d13_41) (by decide) (by decide) (XS.iload X110.here hx rfl (hb hby d13_3) rfl (XS.iload X110.here hx rfl (hb hby d13_5) rfl (XS.icmpNo X110.here hx rfl (hb hby d13_7) rfl (tlt (by decide : (14 : Int32) < (18 : Int32))).2.1 (XS.aloadN X110.here hx rfl (hb hby d13_10) rfl rfl k)))))))) ?_
  show Go p e below _ (T110.setTop (mkF m 11 #[.val (.ref ca), qI 14, .val (.ref ba), qI 14, qI 18, qI 14, qI c13_] [(.ref ca)]))
  refine Go.by (fun t k => XS.iloadN X110.here hx rfl (hb hby d13_11) rfl k) ?_
  show Go p e below _ (T110.setTop (mkF m 12 #[.val (.ref ca), qI 14, .val (.ref ba), qI 14, qI 18, qI 14, qI c13_] [(.int 14), (.ref ca)]))
  have F112 : Arv Z h110 ca kc .char (18 : Int32) [(.int c0_), (.int c1_), (.int c2_), (.int c3_), (.int c4_), (.int c5_), (.int c6_), (.int c7_), (.int c8_), (.int c9_), (.int c10_), (.int c11_), (.int c12_), (.int c13_), (.int c14_), (.int c15_), (.int c16_), (.int c17_)] (.int 0) := (F104.other W110 ncb)
  obtain ⟨cl113, Ar113, qk113, sz113, nn113, Ha113, Gf113⟩ := id F112
  have hin114 : ¬ ((14 : Int32) < 0 ∨ cl113.slots.size ≤ ((14 : Int32)).toNatClampNeg) := inb_of sz113 ⟨by decide, by decide⟩
  have hat115 : cl113.slots[((14 : Int32)).toNatClampNeg]? = some (.int c14_) := Has.at Ha113 hin114 rfl
  refine Go.by (fun t k => X110.caload hx (j := (14 : Int32)) (v := (.int c14_)) (by rw [e110]; exact Ar113.1) (State.isArrayOf_alike hZ.alike Ar113.2.1) Ar113.2.2 hin114 hat115 (g := (mkF m 12 #[.val (.ref ca), qI 14, .val (.ref ba), qI 14, qI 18, qI 14, qI c13_] [(.int 14), (.ref ca)])) rfl rfl (hb hby d13_12) t k) ?_
  show Go p e below _ (T110.setTop (mkF m 13 #[.val (.ref ca), qI 14, .val (.ref ba), qI 14, qI 18, qI 14, qI c13_] [(.int c14_)]))
  refine Go.by (fun t k => XS.istore X110.here hx rfl (hb hby d13_13) rfl (l' := #[.val (.ref ca), qI 14, .val (.ref ba), qI 14, qI 18, qI 14, qI c14_]) rfl (XS.iload X110.here hx rfl (hb hby d13_15) rfl (XS.sipush X110.here hx rfl (hb hby d13_17) (XS.icmpYes X110.here hx rfl (pc0 := 20) (pc' := 26) rfl (hb hby d13_20) rfl (flt (own_nle hq14)).2.2.2 (by decide) (by decide) (XS.aloadN X110.here hx rfl (hb hby d13_26) rfl rfl (XS.iloadN X110.here hx rfl (hb hby d13_27) rfl (XS.iload X110.here hx rfl (hb hby d13_28) rfl (XS.i2b X110.here hx rfl (hb hby d13_30) rfl k)))))))) ?_
  show Go p e below _ (T110.setTop (mkF m 31 #[.val (.ref ca), qI 14, .val (.ref ba), qI 14, qI 18, qI 14, qI c14_] [(.int (c14_.toInt8.toInt32)), (.int 14), (.ref ba)]))
  obtain ⟨cl116, Ar116, qk116, sz116, nn116, Ha116, Gf116⟩ := id F111
  have hin117 : ¬ ((14 : Int32) < 0 ∨ cl116.slots.size ≤ ((14 : Int32)).toNatClampNeg) := inb_of sz116 ⟨by decide, by decide⟩
  obtain ⟨T118, h118, X118, e118, W118, st118⟩ := stB X110 hx hZ e110 Ar116 (j := (14 : Int32)) hin117 (g := (mkF m 31 #[.val (.ref ca), qI 14, .val (.ref ba), qI 14, qI 18, qI 14, qI c14_] [(.int (c14_.toInt8.toInt32)), (.int 14), (.ref ba)])) rfl rfl (hb hby d13_31)
  have N118 := Fr.snoc X118 N110 gba
  have F119 : Arv Z h118 ba kb .byte (18 : Int32) [(.int (qB c0_)), (.int (qB c1_)), (.int (qB c2_)), (.int (qB c3_)), (.int (qB c4_)), (.int (qB c5_)), (.int (qB c6_)), (.int (qB c7_)), (.int (qB c8_)), (.int (qB c9_)), (.int (qB c10_)), (.int (qB c11_)), (.int (qB c12_)), (.int (qB c13_)), (.int (qB c14_)), (.int 0), (.int 0), (.int 0)] (.int 0) := Arv.set Ar116 qk116 sz116 nn116 Ha116 Gf116 (fits_nar_byte _) W118 14 rfl (Nat.le_of_ble_eq_true rfl)
  refine Go.by st118 ?_
  show Go p e below _ (T118.setTop (mkF m 32 #[.val (.ref ca), qI 14, .val (.ref ba), qI 14, qI 18, qI 14, qI c14_] []))
  refine Go.by (fun t k => XS.iinc X118.here hx rfl (hb hby d13_32) rfl (l' := #[.val (.ref ca), qI 15, .val (.ref ba), qI 14, qI 18, qI 14, qI c14_]) rfl (XS.iinc X118.here hx rfl (hb hby d13_35) rfl (l' := #[.val (.ref ca), qI 15, .val (.ref ba), qI 15, qI 18, qI 14, qI c14_]) rfl (XS.iinc X118.here hx rfl (hb hby d13_38) rfl (l' := #[.val (.ref ca), qI 15, .val (.ref ba), qI 15, qI 18, qI 15, qI c14_]) rfl (XS.goto X118.here hx rfl (pc0 := 41) (pc' := 3) rfl (hb hby d13_41) (by decide) (by decide) (XS.iload X118.here hx rfl (hb hby d13_3) rfl (XS.iload X118.here hx rfl (hb hby d13_5) rfl (XS.icmpNo X118.here hx rfl (hb hby d13_7) rfl (tlt (by decide : (15 : Int32) < (18 : Int32))).2.1 (XS.aloadN X118.here hx rfl (hb hby d13_10) rfl rfl k)))))))) ?_
  show Go p e below _ (T118.setTop (mkF m 11 #[.val (.ref ca), qI 15, .val (.ref ba), qI 15, qI 18, qI 15, qI c14_] [(.ref ca)]))
  refine Go.by (fun t k => XS.iloadN X118.here hx rfl (hb hby d13_11) rfl k) ?_
  show Go p e below _ (T118.setTop (mkF m 12 #[.val (.ref ca), qI 15, .val (.ref ba), qI 15, qI 18, qI 15, qI c14_] [(.int 15), (.ref ca)]))
  have F120 : Arv Z h118 ca kc .char (18 : Int32) [(.int c0_), (.int c1_), (.int c2_), (.int c3_), (.int c4_), (.int c5_), (.int c6_), (.int c7_), (.int c8_), (.int c9_), (.int c10_), (.int c11_), (.int c12_), (.int c13_), (.int c14_), (.int c15_), (.int c16_), (.int c17_)] (.int 0) := (F112.other W118 ncb)
  obtain ⟨cl121, Ar121, qk121, sz121, nn121, Ha121, Gf121⟩ := id F120
  have hin122 : ¬ ((15 : Int32) < 0 ∨ cl121.slots.size ≤ ((15 : Int32)).toNatClampNeg) := inb_of sz121 ⟨by decide, by decide⟩
  have hat123 : cl121.slots[((15 : Int32)).toNatClampNeg]? = some (.int c15_) := Has.at Ha121 hin122 rfl
  refine Go.by (fun t k => X118.caload hx (j := (15 : Int32)) (v := (.int c15_)) (by rw [e118]; exact Ar121.1) (State.isArrayOf_alike hZ.alike Ar121.2.1) Ar121.2.2 hin122 hat123 (g := (mkF m 12 #[.val (.ref ca), qI 15, .val (.ref ba), qI 15, qI 18, qI 15, qI c14_] [(.int 15), (.ref ca)])) rfl rfl (hb hby d13_12) t k) ?_
  show Go p e below _ (T118.setTop (mkF m 13 #[.val (.ref ca), qI 15, .val (.ref ba), qI 15, qI 18, qI 15, qI c14_] [(.int c15_)]))
  refine Go.by (fun t k => XS.istore X118.here hx rfl (hb hby d13_13) rfl (l' := #[.val (.ref ca), qI 15, .val (.ref ba), qI 15, qI 18, qI 15, qI c15_]) rfl (XS.iload X118.here hx rfl (hb hby d13_15) rfl (XS.sipush X118.here hx rfl (hb hby d13_17) (XS.icmpYes X118.here hx rfl (pc0 := 20) (pc' := 26) rfl (hb hby d13_20) rfl (flt (own_nle hq15)).2.2.2 (by decide) (by decide) (XS.aloadN X118.here hx rfl (hb hby d13_26) rfl rfl (XS.iloadN X118.here hx rfl (hb hby d13_27) rfl (XS.iload X118.here hx rfl (hb hby d13_28) rfl (XS.i2b X118.here hx rfl (hb hby d13_30) rfl k)))))))) ?_
  show Go p e below _ (T118.setTop (mkF m 31 #[.val (.ref ca), qI 15, .val (.ref ba), qI 15, qI 18, qI 15, qI c15_] [(.int (c15_.toInt8.toInt32)), (.int 15), (.ref ba)]))
  obtain ⟨cl124, Ar124, qk124, sz124, nn124, Ha124, Gf124⟩ := id F119
  have hin125 : ¬ ((15 : Int32) < 0 ∨ cl124.slots.size ≤ ((15 : Int32)).toNatClampNeg) := inb_of sz124 ⟨by decide, by decide⟩
  obtain ⟨T126, h126, X126, e126, W126, st126⟩ := stB X118 hx hZ e118 Ar124 (j := (15 : Int32)) hin125 (g := (mkF m 31 #[.val (.ref ca), qI 15, .val (.ref ba), qI 15, qI 18, qI 15, qI c15_] [(.int (c15_.toInt8.toInt32)), (.int 15), (.ref ba)])) rfl rfl (hb hby d13_31)
  have N126 := Fr.snoc X126 N118 gba
  have F127 : Arv Z h126 ba kb .byte (18 : Int32) [(.int (qB c0_)), (.int (qB c1_)), (.int (qB c2_)), (.int (qB c3_)), (.int (qB c4_)), (.int (qB c5_)), (.int (qB c6_)), (.int (qB c7_)), (.int (qB c8_)), (.int (qB c9_)), (.int (qB c10_)), (.int (qB c11_)), (.int (qB c12_)), (.int (qB c13_)), (.int (qB c14_)), (.int (qB c15_)), (.int 0), (.int 0)] (.int 0) := Arv.set Ar124 qk124 sz124 nn124 Ha124 Gf124 (fits_nar_byte _) W126 15 rfl (Nat.le_of_ble_eq_true rfl)
  refine Go.by st126 ?_
  show Go p e below _ (T126.setTop (mkF m 32 #[.val (.ref ca), qI 15, .val (.ref ba), qI 15, qI 18, qI 15, qI c15_] []))
  refine Go.by (fun t k => XS.iinc X126.here hx rfl (hb hby d13_32) rfl (l' := #[.val (.ref ca), qI 16, .val (.ref ba), qI 15, qI 18, qI 15, qI c15_]) rfl (XS.iinc X126.here hx rfl (hb hby d13_35) rfl (l' := #[.val (.ref ca), qI 16, .val (.ref ba), qI 16, qI 18, qI 15, qI c15_]) rfl (XS.iinc X126.here hx rfl (hb hby d13_38) rfl (l' := #[.val (.ref ca), qI 16, .val (.ref ba), qI 16, qI 18, qI 16, qI c15_]) rfl (XS.goto X126.here hx rfl (pc0 := 41) (pc' := 3) rfl (hb hby d13_41) (by decide) (by decide) (XS.iload X126.here hx rfl (hb hby d13_3) rfl (XS.iload X126.here hx rfl (hb hby d13_5) rfl (XS.icmpNo X126.here hx rfl (hb hby d13_7) rfl (tlt (by decide : (16 : Int32) < (18 : Int32))).2.1 (XS.aloadN X126.here hx rfl (hb hby d13_10) rfl rfl k)))))))) ?_
  show Go p e below _ (T126.setTop (mkF m 11 #[.val (.ref ca), qI 16, .val (.ref ba), qI 16, qI 18, qI 16, qI c15_] [(.ref ca)]))
  refine Go.by (fun t k => XS.iloadN X126.here hx rfl (hb hby d13_11) rfl k) ?_
  show Go p e below _ (T126.setTop (mkF m 12 #[.val (.ref ca), qI 16, .val (.ref ba), qI 16, qI 18, qI 16, qI c15_] [(.int 16), (.ref ca)]))
  have F128 : Arv Z h126 ca kc .char (18 : Int32) [(.int c0_), (.int c1_), (.int c2_), (.int c3_), (.int c4_), (.int c5_), (.int c6_), (.int c7_), (.int c8_), (.int c9_), (.int c10_), (.int c11_), (.int c12_), (.int c13_), (.int c14_), (.int c15_), (.int c16_), (.int c17_)] (.int 0) := (F120.other W126 ncb)
  obtain ⟨cl129, Ar129, qk129, sz129, nn129, Ha129, Gf129⟩ := id F128
  have hin130 : ¬ ((16 : Int32) < 0 ∨ cl129.slots.size ≤ ((16 : Int32)).toNatClampNeg) := inb_of sz129 ⟨by decide, by decide⟩
  have hat131 : cl129.slots[((16 : Int32)).toNatClampNeg]? = some (.int c16_) := Has.at Ha129 hin130 rfl
  refine Go.by (fun t k => X126.caload hx (j := (16 : Int32)) (v := (.int c16_)) (by rw [e126]; exact Ar129.1) (State.isArrayOf_alike hZ.alike Ar129.2.1) Ar129.2.2 hin130 hat131 (g := (mkF m 12 #[.val (.ref ca), qI 16, .val (.ref ba), qI 16, qI 18, qI 16, qI c15_] [(.int 16), (.ref ca)])) rfl rfl (hb hby d13_12) t k) ?_
  show Go p e below _ (T126.setTop (mkF m 13 #[.val (.ref ca), qI 16, .val (.ref ba), qI 16, qI 18, qI 16, qI c15_] [(.int c16_)]))
  refine Go.by (fun t k => XS.istore X126.here hx rfl (hb hby d13_13) rfl (l' := #[.val (.ref ca), qI 16, .val (.ref ba), qI 16, qI 18, qI 16, qI c16_]) rfl (XS.iload X126.here hx rfl (hb hby d13_15) rfl (XS.sipush X126.here hx rfl (hb hby d13_17) (XS.icmpYes X126.here hx rfl (pc0 := 20) (pc' := 26) rfl (hb hby d13_20) rfl (flt (own_nle hq16)).2.2.2 (by decide) (by decide) (XS.aloadN X126.here hx rfl (hb hby d13_26) rfl rfl (XS.iloadN X126.here hx rfl (hb hby d13_27) rfl (XS.iload X126.here hx rfl (hb hby d13_28) rfl (XS.i2b X126.here hx rfl (hb hby d13_30) rfl k)))))))) ?_
  show Go p e below _ (T126.setTop (mkF m 31 #[.val (.ref ca), qI 16, .val (.ref ba), qI 16, qI 18, qI 16, qI c16_] [(.int (c16_.toInt8.toInt32)), (.int 16), (.ref ba)]))
  obtain ⟨cl132, Ar132, qk132, sz132, nn132, Ha132, Gf132⟩ := id F127
  have hin133 : ¬ ((16 : Int32) < 0 ∨ cl132.slots.size ≤ ((16 : Int32)).toNatClampNeg) := inb_of sz132 ⟨by decide, by decide⟩
  obtain ⟨T134, h134, X134, e134, W134, st134⟩ := stB X126 hx hZ e126 Ar132 (j := (16 : Int32)) hin133 (g := (mkF m 31 #[.val (.ref ca), qI 16, .val (.ref ba), qI 16, qI 18, qI 16, qI c16_] [(.int (c16_.toInt8.toInt32)), (.int 16), (.ref ba)])) rfl rfl (hb hby d13_31)
  have N134 := Fr.snoc X134 N126 gba
  have F135 : Arv Z h134 ba kb .byte (18 : Int32) [(.int (qB c0_)), (.int (qB c1_)), (.int (qB c2_)), (.int (qB c3_)), (.int (qB c4_)), (.int (qB c5_)), (.int (qB c6_)), (.int (qB c7_)), (.int (qB c8_)), (.int (qB c9_)), (.int (qB c10_)), (.int (qB c11_)), (.int (qB c12_)), (.int (qB c13_)), (.int (qB c14_)), (.int (qB c15_)), (.int (qB c16_)), (.int 0)] (.int 0) := Arv.set Ar132 qk132 sz132 nn132 Ha132 Gf132 (fits_nar_byte _) W134 16 rfl (Nat.le_of_ble_eq_true rfl)
  refine Go.by st134 ?_
  show Go p e below _ (T134.setTop (mkF m 32 #[.val (.ref ca), qI 16, .val (.ref ba), qI 16, qI 18, qI 16, qI c16_] []))
  refine Go.by (fun t k => XS.iinc X134.here hx rfl (hb hby d13_32) rfl (l' := #[.val (.ref ca), qI 17, .val (.ref ba), qI 16, qI 18, qI 16, qI c16_]) rfl (XS.iinc X134.here hx rfl (hb hby d13_35) rfl (l' := #[.val (.ref ca), qI 17, .val (.ref ba), qI 17, qI 18, qI 16, qI c16_]) rfl (XS.iinc X134.here hx rfl (hb hby d13_38) rfl (l' := #[.val (.ref ca), qI 17, .val (.ref ba), qI 17, qI 18, qI 17, qI c16_]) rfl (XS.goto X134.here hx rfl (pc0 := 41) (pc' := 3) rfl (hb hby d13_41) (by decide) (by decide) (XS.iload X134.here hx rfl (hb hby d13_3) rfl (XS.iload X134.here hx rfl (hb hby d13_5) rfl (XS.icmpNo X134.here hx rfl (hb hby d13_7) rfl (tlt (by decide : (17 : Int32) < (18 : Int32))).2.1 (XS.aloadN X134.here hx rfl (hb hby d13_10) rfl rfl k)))))))) ?_
  show Go p e below _ (T134.setTop (mkF m 11 #[.val (.ref ca), qI 17, .val (.ref ba), qI 17, qI 18, qI 17, qI c16_] [(.ref ca)]))
  refine Go.by (fun t k => XS.iloadN X134.here hx rfl (hb hby d13_11) rfl k) ?_
  show Go p e below _ (T134.setTop (mkF m 12 #[.val (.ref ca), qI 17, .val (.ref ba), qI 17, qI 18, qI 17, qI c16_] [(.int 17), (.ref ca)]))
  have F136 : Arv Z h134 ca kc .char (18 : Int32) [(.int c0_), (.int c1_), (.int c2_), (.int c3_), (.int c4_), (.int c5_), (.int c6_), (.int c7_), (.int c8_), (.int c9_), (.int c10_), (.int c11_), (.int c12_), (.int c13_), (.int c14_), (.int c15_), (.int c16_), (.int c17_)] (.int 0) := (F128.other W134 ncb)
  obtain ⟨cl137, Ar137, qk137, sz137, nn137, Ha137, Gf137⟩ := id F136
  have hin138 : ¬ ((17 : Int32) < 0 ∨ cl137.slots.size ≤ ((17 : Int32)).toNatClampNeg) := inb_of sz137 ⟨by decide, by decide⟩
  have hat139 : cl137.slots[((17 : Int32)).toNatClampNeg]? = some (.int c17_) := Has.at Ha137 hin138 rfl
  refine Go.by (fun t k => X134.caload hx (j := (17 : Int32)) (v := (.int c17_)) (by rw [e134]; exact Ar137.1) (State.isArrayOf_alike hZ.alike Ar137.2.1) Ar137.2.2 hin138 hat139 (g := (mkF m 12 #[.val (.ref ca), qI 17, .val (.ref ba), qI 17, qI 18, qI 17, qI c16_] [(.int 17), (.ref ca)])) rfl rfl (hb hby d13_12) t k) ?_
  show Go p e below _ (T134.setTop (mkF m 13 #[.val (.ref ca), qI 17, .val (.ref ba), qI 17, qI 18, qI 17, qI c16_] [(.int c17_)]))
  refine Go.by (fun t k => XS.istore X134.here hx rfl (hb hby d13_13) rfl (l' := #[.val (.ref ca), qI 17, .val (.ref ba), qI 17, qI 18, qI 17, qI c17_]) rfl (XS.iload X134.here hx rfl (hb hby d13_15) rfl (XS.sipush X134.here hx rfl (hb hby d13_17) (XS.icmpYes X134.here hx rfl (pc0 := 20) (pc' := 26) rfl (hb hby d13_20) rfl (flt (own_nle hq17)).2.2.2 (by decide) (by decide) (XS.aloadN X134.here hx rfl (hb hby d13_26) rfl rfl (XS.iloadN X134.here hx rfl (hb hby d13_27) rfl (XS.iload X134.here hx rfl (hb hby d13_28) rfl (XS.i2b X134.here hx rfl (hb hby d13_30) rfl k)))))))) ?_
  show Go p e below _ (T134.setTop (mkF m 31 #[.val (.ref ca), qI 17, .val (.ref ba), qI 17, qI 18, qI 17, qI c17_] [(.int (c17_.toInt8.toInt32)), (.int 17), (.ref ba)]))
  obtain ⟨cl140, Ar140, qk140, sz140, nn140, Ha140, Gf140⟩ := id F135
  have hin141 : ¬ ((17 : Int32) < 0 ∨ cl140.slots.size ≤ ((17 : Int32)).toNatClampNeg) := inb_of sz140 ⟨by decide, by decide⟩
  obtain ⟨T142, h142, X142, e142, W142, st142⟩ := stB X134 hx hZ e134 Ar140 (j := (17 : Int32)) hin141 (g := (mkF m 31 #[.val (.ref ca), qI 17, .val (.ref ba), qI 17, qI 18, qI 17, qI c17_] [(.int (c17_.toInt8.toInt32)), (.int 17), (.ref ba)])) rfl rfl (hb hby d13_31)
  have N142 := Fr.snoc X142 N134 gba
  have F143 : Arv Z h142 ba kb .byte (18 : Int32) [(.int (qB c0_)), (.int (qB c1_)), (.int (qB c2_)), (.int (qB c3_)), (.int (qB c4_)), (.int (qB c5_)), (.int (qB c6_)), (.int (qB c7_)), (.int (qB c8_)), (.int (qB c9_)), (.int (qB c10_)), (.int (qB c11_)), (.int (qB c12_)), (.int (qB c13_)), (.int (qB c14_)), (.int (qB c15_)), (.int (qB c16_)), (.int (qB c17_))] (.int 0) := Arv.set Ar140 qk140 sz140 nn140 Ha140 Gf140 (fits_nar_byte _) W142 17 rfl (Nat.le_of_ble_eq_true rfl)
  refine Go.by st142 ?_
  show Go p e below _ (T142.setTop (mkF m 32 #[.val (.ref ca), qI 17, .val (.ref ba), qI 17, qI 18, qI 17, qI c17_] []))
  refine Go.by (fun t k => XS.iinc X142.here hx rfl (hb hby d13_32) rfl (l' := #[.val (.ref ca), qI 18, .val (.ref ba), qI 17, qI 18, qI 17, qI c17_]) rfl (XS.iinc X142.here hx rfl (hb hby d13_35) rfl (l' := #[.val (.ref ca), qI 18, .val (.ref ba), qI 18, qI 18, qI 17, qI c17_]) rfl (XS.iinc X142.here hx rfl (hb hby d13_38) rfl (l' := #[.val (.ref ca), qI 18, .val (.ref ba), qI 18, qI 18, qI 18, qI c17_]) rfl (XS.goto X142.here hx rfl (pc0 := 41) (pc' := 3) rfl (hb hby d13_41) (by decide) (by decide) (XS.iload X142.here hx rfl (hb hby d13_3) rfl (XS.iload X142.here hx rfl (hb hby d13_5) rfl (XS.icmpYes X142.here hx rfl (pc0 := 7) (pc' := 44) rfl (hb hby d13_7) rfl (flt Int32.lt_irrefl).2.1 (by decide) (by decide) (XS.iload X142.here hx rfl (hb hby d13_44) rfl k)))))))) ?_
  show Go p e below _ (T142.setTop (mkF m 46 #[.val (.ref ca), qI 18, .val (.ref ba), qI 18, qI 18, qI 18, qI c17_] [(.int 18)]))
  have F144 : Keep h0 h142 [ba] := (((((((((((((((((((Keep.refl h0 [ba]).wr W6 (Or.inl (List.mem_of_getElem? (i := 0) rfl))).wr W14 (Or.inl (List.mem_of_getElem? (i := 0) rfl))).wr W22 (Or.inl (List.mem_of_getElem? (i := 0) rfl))).wr W30 (Or.inl (List.mem_of_getElem? (i := 0) rfl))).wr W38 (Or.inl (List.mem_of_getElem? (i := 0) rfl))).wr W46 (Or.inl (List.mem_of_getElem? (i := 0) rfl))).wr W54 (Or.inl (List.mem_of_getElem? (i := 0) rfl))).wr W62 (Or.inl (List.mem_of_getElem? (i := 0) rfl))).wr W70 (Or.inl (List.mem_of_getElem? (i := 0) rfl))).wr W78 (Or.inl (List.mem_of_getElem? (i := 0) rfl))).wr W86 (Or.inl (List.mem_of_getElem? (i := 0) rfl))).wr W94 (Or.inl (List.mem_of_getElem? (i := 0) rfl))).wr W102 (Or.inl (List.mem_of_getElem? (i := 0) rfl))).wr W110 (Or.inl (List.mem_of_getElem? (i := 0) rfl))).wr W118 (Or.inl (List.mem_of_getElem? (i := 0) rfl))).wr W126 (Or.inl (List.mem_of_getElem? (i := 0) rfl))).wr W134 (Or.inl (List.mem_of_getElem? (i := 0) rfl))).wr W142 (Or.inl (List.mem_of_getElem? (i := 0) rfl)))
  have hq : Q_comp5_18 Z ca ba kc c0_ c1_ c2_ c3_ c4_ c5_ c6_ c7_ c8_ c9_ c10_ c11_ c12_ c13_ c14_ c15_ c16_ c17_ kb h0 n0 (some (.int 18)) h142 _ := ⟨rfl, N142, F144, F143⟩
  exact Go.retI X142 hx Bd.returns hlk (hb hby d13_46) (by decide) (by decide) (by rw [e142]; exact hq)
theorem d12_0 : decode jdk_52_method_16_code 0 = .ok (.iload_n 2, 1) := by decide +kernel
theorem d12_1 : decode jdk_52_method_16_code 1 = .ok (.newarray .byte, 2) := by decide +kernel
theorem d12_3 : decode jdk_52_method_16_code 3 = .ok (.astore_n 3, 1) := by decide +kernel
theorem d12_4 : decode jdk_52_method_16_code 4 = .ok (.aload_n 0, 1) := by decide +kernel
theorem d12_5 : decode jdk_52_method_16_code 5 = .ok (.iload_n 1, 1) := by decide +kernel
theorem d12_6 : decode jdk_52_method_16_code 6 = .ok (.aload_n 3, 1) := by decide +kernel
theorem d12_7 : decode jdk_52_method_16_code 7 = .ok (.iconst 0, 1) := by decide +kernel
theorem d12_8 : decode jdk_52_method_16_code 8 = .ok (.iload_n 2, 1) := by decide +kernel
theorem d12_9 : decode jdk_52_method_16_code 9 = .ok (.invokestatic 115, 3) := by decide +kernel
theorem pd_6 : parseMethodDescriptor "([CI[BII)I" = some ⟨[(.array .char), .int, (.array .byte), .int, .int], some .int⟩ := by decide +kernel
theorem d12_12 : decode jdk_52_method_16_code 12 = .ok (.istore 4, 2) := by decide +kernel
theorem d12_14 : decode jdk_52_method_16_code 14 = .ok (.iload 4, 2) := by decide +kernel
theorem d12_16 : decode jdk_52_method_16_code 16 = .ok (.iload_n 2, 1) := by decide +kernel
theorem d12_17 : decode jdk_52_method_16_code 17 = .ok (.if_icmp .eq 40, 3) := by decide +kernel
theorem d12_57 : decode jdk_52_method_16_code 57 = .ok (.aload_n 3, 1) := by decide +kernel
theorem d12_58 : decode jdk_52_method_16_code 58 = .ok (.areturn, 1) := by decide +kernel
theorem ef_comp3_18 (m : MethodId) (ca : Addr) : entryFrame m #[(.ref ca), (.int (0 : Int32)), (.int (18 : Int32))] 6 = mkF m 0 #[.val (.ref ca), .val (.int (0 : Int32)), .val (.int (18 : Int32)), .unset, .unset, .unset] [] := by first | (simp [entryFrame, mkF, argsToLocals, Value.category]; done) | rfl
def Q_comp3_18 (Z : State) (ca : Addr) (kc : ClassId) (c0_ : Int32) (c1_ : Int32) (c2_ : Int32) (c3_ : Int32) (c4_ : Int32) (c5_ : Int32) (c6_ : Int32) (c7_ : Int32) (c8_ : Int32) (c9_ : Int32) (c10_ : Int32) (c11_ : Int32) (c12_ : Int32) (c13_ : Int32) (c14_ : Int32) (c15_ : Int32) (c16_ : Int32) (c17_ : Int32) (h0 : Heap) (n0 : Nat) (v : Option Value) (h : Heap) (L : List Loc) : Prop := ∃ bb : Addr, ∃ kb : ClassId, v = some (.ref bb) ∧ Fr n0 L ∧ Keep h0 h [] ∧ h0.size ≤ bb ∧ Arv Z h bb kb .byte (18 : Int32) [(.int (qB c0_)), (.int (qB c1_)), (.int (qB c2_)), (.int (qB c3_)), (.int (qB c4_)), (.int (qB c5_)), (.int (qB c6_)), (.int (qB c7_)), (.int (qB c8_)), (.int (qB c9_)), (.int (qB c10_)), (.int (qB c11_)), (.int (qB c12_)), (.int (qB c13_)), (.int (qB c14_)), (.int (qB c15_)), (.int (qB c16_)), (.int (qB c17_))] (.int 0)
set_option maxRecDepth 65536 in
set_option maxHeartbeats 40000000 in
theorem comp3_18 (l : Launch) (Z : State) (a0 : Array Value) (hw : ∀ d ∈ tables_1, d.before a0 Z = true) (ws : List Jvm.Cond) (ca : Addr) (kc : ClassId) (c0_ : Int32) (c1_ : Int32) (c2_ : Int32) (c3_ : Int32) (c4_ : Int32) (c5_ : Int32) (c6_ : Int32) (c7_ : Int32) (c8_ : Int32) (c9_ : Int32) (c10_ : Int32) (c11_ : Int32) (c12_ : Int32) (c13_ : Int32) (c14_ : Int32) (c15_ : Int32) (c16_ : Int32) (c17_ : Int32) (h0 : Heap) (n0 : Nat) (O0 : Old Z n0 h0) (P0 : Arv Z h0 ca kc .char (18 : Int32) [(.int c0_), (.int c1_), (.int c2_), (.int c3_), (.int c4_), (.int c5_), (.int c6_), (.int c7_), (.int c8_), (.int c9_), (.int c10_), (.int c11_), (.int c12_), (.int c13_), (.int c14_), (.int c15_), (.int c16_), (.int c17_)] (.int 0)) (hq0 : 0 ≤ c0_.toInt ∧ c0_.toInt ≤ 255) (hq1 : 0 ≤ c1_.toInt ∧ c1_.toInt ≤ 255) (hq2 : 0 ≤ c2_.toInt ∧ c2_.toInt ≤ 255) (hq3 : 0 ≤ c3_.toInt ∧ c3_.toInt ≤ 255) (hq4 : 0 ≤ c4_.toInt ∧ c4_.toInt ≤ 255) (hq5 : 0 ≤ c5_.toInt ∧ c5_.toInt ≤ 255) (hq6 : 0 ≤ c6_.toInt ∧ c6_.toInt ≤ 255) (hq7 : 0 ≤ c7_.toInt ∧ c7_.toInt ≤ 255) (hq8 : 0 ≤ c8_.toInt ∧ c8_.toInt ≤ 255) (hq9 : 0 ≤ c9_.toInt ∧ c9_.toInt ≤ 255) (hq10 : 0 ≤ c10_.toInt ∧ c10_.toInt ≤ 255) (hq11 : 0 ≤ c11_.toInt ∧ c11_.toInt ≤ 255) (hq12 : 0 ≤ c12_.toInt ∧ c12_.toInt ≤ 255) (hq13 : 0 ≤ c13_.toInt ∧ c13_.toInt ≤ 255) (hq14 : 0 ≤ c14_.toInt ∧ c14_.toInt ≤ 255) (hq15 : 0 ≤ c15_.toInt ∧ c15_.toInt ≤ 255) (hq16 : 0 ≤ c16_.toInt ∧ c16_.toInt ≤ 255) (hq17 : 0 ≤ c17_.toInt ∧ c17_.toInt ≤ 255) :
    MetFree l (⟨"java/lang/StringUTF16", "compress", "([CII)[B"⟩ : MethodName) (head1 (Jvm.Cond.code (⟨"java/lang/StringUTF16", "compress", "([CII)[B"⟩ : MethodName) jdk_52_method_16_code 6 (some (.array .byte)) :: ws) ({ frames := 1, cells := 1, slots := 18, locals := 18 } : Room)) (fun a U => a = #[(.ref ca), (.int 0), (.int 18)] ∧ Z.Warmed39 U.vm ∧ U.heap = h0) (fun _ _ _ _ _ => True) (fun _ U o U' => ∃ v L, o = .returned v ∧ Q_comp3_18 Z ca kc c0_ c1_ c2_ c3_ c4_ c5_ c6_ c7_ c8_ c9_ c10_ c11_ c12_ c13_ c14_ c15_ c16_ c17_ h0 n0 v U'.heap L ∧ FrameEnd U o U' L ({ frames := 1, cells := 1, slots := 18, locals := 18 } : Room).cells ({ frames := 1, cells := 1, slots := 18, locals := 18 } : Room).slots) := by
  refine MetFree.of_bodySF (plainFor_of_name pn_4) hisR ?_
  intro p e s m args below meth c s₁ Bd hml0 hP hK
  obtain ⟨rfl, hZ, hh⟩ := hP
  have hx := Bd.exec
  have hby := Bd.bytes
  have hml : c.maxLocals = 6 := hml0
  have hown : s.vm.findClass "java/lang/StringUTF16" = some m.cls := findClass_of_methodNamed Bd.named
  have hnm := (name_of_methodNamed Bd.named Bd.method).1
  have hlk := BodyLoose.notSynchronized Bd
  have X0 : Stand p l e ({ frames := 1, cells := 1, slots := 18, locals := 18 } : Room) s m #[(.ref ca), (.int 0), (.int 18)] below meth c s₁ [] 0 0 := Stand.of_body Bd
  have e0 : s₁.heap = h0 := by rw [← hh, Bd.state]; rfl
  have N0 := Fr.nil n0
  refine Go.start (P := fun o U' => ∃ v L, o = .returned v ∧ Q_comp3_18 Z ca kc c0_ c1_ c2_ c3_ c4_ c5_ c6_ c7_ c8_ c9_ c10_ c11_ c12_ c13_ c14_ c15_ c16_ c17_ h0 n0 v U'.heap L ∧ FrameEnd s o U' L ({ frames := 1, cells := 1, slots := 18, locals := 18 } : Room).cells ({ frames := 1, cells := 1, slots := 18, locals := 18 } : Room).slots) (ef_comp3_18 m ca) ?_
  show Go p e below _ (s₁.setTop (mkF m 0 #[.val (.ref ca), qI 0, qI 18, qU, qU, qU] []))
  refine Go.by (fun t k => XS.iloadN X0.here hx rfl (hb hby d12_0) rfl k) ?_
  show Go p e below _ (s₁.setTop (mkF m 1 #[.val (.ref ca), qI 0, qI 18, qU, qU, qU] [(.int 18)]))
  obtain ⟨T1, h1, k1, X1, e1, E1, A1, Q1, st1⟩ := newPE X0 hx hZ (hw _ (mg 13 rfl)) e0 (g := (mkF m 1 #[.val (.ref ca), qI 0, qI 18, qU, qU, qU] [(.int 18)])) rfl (hb hby d12_1) rfl (by decide) (cap := 18) (by decide) (by decide) (by decide) (by decide) (ad := "[B") (by decide)
  obtain ⟨b1, g1⟩ : ∃ z, z = h0.size := ⟨_, rfl⟩
  rw [← g1] at A1 Q1 st1
  have gl1 : h0.size ≤ b1 := Nat.le_of_eq g1.symm
  have ge1 : n0 ≤ b1 := Nat.le_trans (own_old_size O0) gl1
  have sz1 : h0.size ≤ b1 := Nat.le_trans (Keep.refl h0 []).1 gl1
  have ne2 : ca ≠ b1 := Nat.ne_of_lt (Nat.lt_of_lt_of_le P0.lt gl1)
  have F3 : Arv Z h1 b1 k1 .byte (18 : Int32) [(.int 0), (.int 0), (.int 0), (.int 0), (.int 0), (.int 0), (.int 0), (.int 0), (.int 0), (.int 0), (.int 0), (.int 0), (.int 0), (.int 0), (.int 0), (.int 0), (.int 0), (.int 0)] (.int 0) := (Arv.new A1 (by decide)).pad (pad_rep [] (.int 0) 18)
  refine Go.by st1 ?_
  show Go p e below _ (T1.setTop (mkF m 3 #[.val (.ref ca), qI 0, qI 18, qU, qU, qU] [(.ref b1)]))
  refine Go.by (fun t k => XS.astoreN X1.here hx rfl (hb hby d12_3) rfl rfl (l' := #[.val (.ref ca), qI 0, qI 18, .val (.ref b1), qU, qU]) rfl (XS.aloadN X1.here hx rfl (hb hby d12_4) rfl rfl (XS.iloadN X1.here hx rfl (hb hby d12_5) rfl (XS.aloadN X1.here hx rfl (hb hby d12_6) rfl rfl (XS.iconst X1.here hx rfl (hb hby d12_7) (XS.iloadN X1.here hx rfl (hb hby d12_8) rfl k)))))) ?_
  show Go p e below _ (T1.setTop (mkF m 9 #[.val (.ref ca), qI 0, qI 18, .val (.ref b1), qU, qU] [(.int 18), (.int 0), (.ref b1), (.int 0), (.ref ca)]))
  have F5 : Old Z n0 h1 := (O0.ext E1)
  have F6 : Arv Z h1 ca kc .char (18 : Int32) [(.int c0_), (.int c1_), (.int c2_), (.int c3_), (.int c4_), (.int c5_), (.int c6_), (.int c7_), (.int c8_), (.int c9_), (.int c10_), (.int c11_), (.int c12_), (.int c13_), (.int c14_), (.int c15_), (.int c16_), (.int c17_)] (.int 0) := (P0.ext E1)
  have F7 : Keep h0 h1 [] := ((Keep.refl h0 []).ext E1)
  obtain ⟨_, _, ⟨T4, L4, k4, n4⟩, -, X4, ⟨Lc4, hQ4, l4, y4, z4⟩, st4⟩ := Jvm.LawKit.callS X1 hx (y := (⟨"java/lang/StringUTF16", "compress", "([CI[BII)I"⟩ : MethodName)) hown (mvT hZ (hw _ (mg 62 rfl))) (mvT hZ (hw _ (mg 63 rfl))) (mvT hZ (hw _ (mg 60 rfl))) (mvT hZ (hw _ (mg 64 rfl))) (by decide) (backOf (W := 0) (comp5_18 l Z a0 hw [] ca b1 kc c0_ c1_ c2_ c3_ c4_ c5_ c6_ c7_ c8_ c9_ c10_ c11_ c12_ c13_ c14_ c15_ c16_ c17_ k1 h1 n0 F5 F6 F3 ge1 ne2 hq0 hq1 hq2 hq3 hq4 hq5 hq6 hq7 hq8 hq9 hq10 hq11 hq12 hq13 hq14 hq15 hq16 hq17) hZ (hw _ (mg 64 rfl)) (hw _ (mg 60 rfl)) (by decide) (by decide)) (g := (mkF m 9 #[.val (.ref ca), qI 0, qI 18, .val (.ref b1), qU, qU] [(.int 18), (.int 0), (.ref b1), (.int 0), (.ref ca)])) rfl (by rw [hml]; rfl) (argsL := [(.ref ca), (.int 0), (.ref b1), (.int 0), (.int 18)]) (rest := []) (lenOf pd_6 rfl) rfl (by show 2 * 0 + _ ≤ _; exact Nat.le_of_eq rfl) (hb hby d12_9) (fun _ _ => ⟨rfl, e1, (by decide : 1 + 0 ≤ _), (by decide : 18 + 0 ≤ _)⟩)
  dsimp only [Pt.U, Pt.locs, Pt.cells, Pt.slots] at X4 l4 y4 z4 st4 hQ4
  subst y4 z4
  obtain ⟨rfl, N4q, K4, F4_0⟩ := hQ4
  have N4 : Fr n0 L4 := by rw [l4]; exact Fr.app N0 N4q
  have X4 := own_mr X4 1 18 (by decide) (by decide)
  refine Go.by st4 ?_
  show Go p e below _ (T4.setTop (mkF m 12 #[.val (.ref ca), qI 0, qI 18, .val (.ref b1), qU, qU] [(.int 18)]))
  refine Go.by (fun t k => XS.istore X4.here hx rfl (hb hby d12_12) rfl (l' := #[.val (.ref ca), qI 0, qI 18, .val (.ref b1), qI 18, qU]) rfl (XS.iload X4.here hx rfl (hb hby d12_14) rfl (XS.iloadN X4.here hx rfl (hb hby d12_16) rfl (XS.icmpYes X4.here hx rfl (pc0 := 17) (pc' := 57) rfl (hb hby d12_17) rfl (teq rfl).1 (by decide) (by decide) (XS.aloadN X4.here hx rfl (hb hby d12_57) rfl rfl k))))) ?_
  show Go p e below _ (T4.setTop (mkF m 58 #[.val (.ref ca), qI 0, qI 18, .val (.ref b1), qI 18, qU] [(.ref b1)]))
  have F8 : Keep h0 T4.heap [] := (F7.trans K4 (allS (Or.inr sz1) all0))
  have hq : Q_comp3_18 Z ca kc c0_ c1_ c2_ c3_ c4_ c5_ c6_ c7_ c8_ c9_ c10_ c11_ c12_ c13_ c14_ c15_ c16_ c17_ h0 n0 (some (.ref b1)) T4.heap _ := ⟨b1, k1, rfl, N4, F8, sz1, F4_0⟩
  exact Go.retA X4 hx Bd.returns rfl rfl hlk (hb hby d12_58) (by decide) (by decide) hq
theorem d10_0 : decode jdk_42_method_149_code 0 = .ok (.aload_n 0, 1) := by decide +kernel
theorem d10_1 : decode jdk_42_method_149_code 1 = .ok (.invokespecial 1, 3) := by decide +kernel
theorem d10_4 : decode jdk_42_method_149_code 4 = .ok (.iload_n 3, 1) := by decide +kernel
theorem d10_5 : decode jdk_42_method_149_code 5 = .ok (.ifCond .ne 22, 3) := by decide +kernel
theorem d10_27 : decode jdk_42_method_149_code 27 = .ok (.getstatic 38, 3) := by decide +kernel
theorem d10_30 : decode jdk_42_method_149_code 30 = .ok (.ifCond .eq 28, 3) := by decide +kernel
theorem d10_33 : decode jdk_42_method_149_code 33 = .ok (.aload_n 1, 1) := by decide +kernel
theorem d10_34 : decode jdk_42_method_149_code 34 = .ok (.iload_n 2, 1) := by decide +kernel
theorem d10_35 : decode jdk_42_method_149_code 35 = .ok (.iload_n 3, 1) := by decide +kernel
theorem d10_36 : decode jdk_42_method_149_code 36 = .ok (.invokestatic 177, 3) := by decide +kernel
theorem pd_7 : parseMethodDescriptor "([CII)[B" = some ⟨[(.array .char), .int, .int], some (.array .byte)⟩ := by decide +kernel
theorem d10_39 : decode jdk_42_method_149_code 39 = .ok (.astore 5, 2) := by decide +kernel
theorem d10_41 : decode jdk_42_method_149_code 41 = .ok (.aload_n 0, 1) := by decide +kernel
theorem d10_42 : decode jdk_42_method_149_code 42 = .ok (.aload 5, 2) := by decide +kernel
theorem d10_44 : decode jdk_42_method_149_code 44 = .ok (.iload_n 3, 1) := by decide +kernel
theorem d10_45 : decode jdk_42_method_149_code 45 = .ok (.invokestatic 47, 3) := by decide +kernel
theorem pd_8 : parseMethodDescriptor "([BI)B" = some ⟨[(.array .byte), .int], some .byte⟩ := by decide +kernel
theorem d10_48 : decode jdk_42_method_149_code 48 = .ok (.putfield 15, 3) := by decide +kernel
theorem d10_51 : decode jdk_42_method_149_code 51 = .ok (.aload_n 0, 1) := by decide +kernel
theorem d10_52 : decode jdk_42_method_149_code 52 = .ok (.aload 5, 2) := by decide +kernel
theorem d10_54 : decode jdk_42_method_149_code 54 = .ok (.putfield 9, 3) := by decide +kernel
theorem d10_57 : decode jdk_42_method_149_code 57 = .ok (.return_, 1) := by decide +kernel
theorem ef_init4_18 (m : MethodId) (ob : Addr) (ca : Addr) : entryFrame m #[(.ref ob), (.ref ca), (.int (0 : Int32)), (.int (18 : Int32)), .null] 6 = mkF m 0 #[.val (.ref ob), .val (.ref ca), .val (.int (0 : Int32)), .val (.int (18 : Int32)), .val .null, .unset] [] := by first | (simp [entryFrame, mkF, argsToLocals, Value.category]; done) | rfl
def Q_init4_18 (Z : State) (ob : Addr) (ca : Addr) (kc : ClassId) (c0_ : Int32) (c1_ : Int32) (c2_ : Int32) (c3_ : Int32) (c4_ : Int32) (c5_ : Int32) (c6_ : Int32) (c7_ : Int32) (c8_ : Int32) (c9_ : Int32) (c10_ : Int32) (c11_ : Int32) (c12_ : Int32) (c13_ : Int32) (c14_ : Int32) (c15_ : Int32) (c16_ : Int32) (c17_ : Int32) (cs : Int32) (h0 : Heap) (n0 : Nat) (v : Option Value) (h : Heap) (L : List Loc) : Prop := ∃ xb : Addr, ∃ kb : ClassId, v = none ∧ Fr n0 L ∧ Keep h0 h [ob] ∧ h0.size ≤ xb ∧ Exa Z h ob "java/lang/String" ∧ Fld Z h ob "java/lang/String" "coder" "B" (.int 0) ∧ Fld Z h ob "java/lang/String" "value" "[B" (.ref xb) ∧ Arv Z h xb kb .byte (18 : Int32) [(.int (qB c0_)), (.int (qB c1_)), (.int (qB c2_)), (.int (qB c3_)), (.int (qB c4_)), (.int (qB c5_)), (.int (qB c6_)), (.int (qB c7_)), (.int (qB c8_)), (.int (qB c9_)), (.int (qB c10_)), (.int (qB c11_)), (.int (qB c12_)), (.int (qB c13_)), (.int (qB c14_)), (.int (qB c15_)), (.int (qB c16_)), (.int (qB c17_))] (.int 0)
set_option maxRecDepth 65536 in
set_option maxHeartbeats 40000000 in
theorem init4_18 (l : Launch) (Z : State) (a0 : Array Value) (hw : ∀ d ∈ tables_1, d.before a0 Z = true) (ws : List Jvm.Cond) (ob : Addr) (ca : Addr) (kc : ClassId) (c0_ : Int32) (c1_ : Int32) (c2_ : Int32) (c3_ : Int32) (c4_ : Int32) (c5_ : Int32) (c6_ : Int32) (c7_ : Int32) (c8_ : Int32) (c9_ : Int32) (c10_ : Int32) (c11_ : Int32) (c12_ : Int32) (c13_ : Int32) (c14_ : Int32) (c15_ : Int32) (c16_ : Int32) (c17_ : Int32) (cs : Int32) (h0 : Heap) (n0 : Nat) (O0 : Old Z n0 h0) (P0 : Exa Z h0 ob "java/lang/String") (P1 : Fld Z h0 ob "java/lang/String" "value" "[B" .null) (P2 : Fld Z h0 ob "java/lang/String" "coder" "B" (.int 0)) (P3 : Arv Z h0 ca kc .char (18 : Int32) [(.int c0_), (.int c1_), (.int c2_), (.int c3_), (.int c4_), (.int c5_), (.int c6_), (.int c7_), (.int c8_), (.int c9_), (.int c10_), (.int c11_), (.int c12_), (.int c13_), (.int c14_), (.int c15_), (.int c16_), (.int c17_)] (.int 0)) (P4 : Sta Z Z.heap "java/lang/String" "COMPACT_STRINGS" "Z" (.int cs)) (gob : n0 ≤ ob) (nco : ca ≠ ob) (hcs : cs ≠ (0 : Int32)) (hq0 : 0 ≤ c0_.toInt ∧ c0_.toInt ≤ 255) (hq1 : 0 ≤ c1_.toInt ∧ c1_.toInt ≤ 255) (hq2 : 0 ≤ c2_.toInt ∧ c2_.toInt ≤ 255) (hq3 : 0 ≤ c3_.toInt ∧ c3_.toInt ≤ 255) (hq4 : 0 ≤ c4_.toInt ∧ c4_.toInt ≤ 255) (hq5 : 0 ≤ c5_.toInt ∧ c5_.toInt ≤ 255) (hq6 : 0 ≤ c6_.toInt ∧ c6_.toInt ≤ 255) (hq7 : 0 ≤ c7_.toInt ∧ c7_.toInt ≤ 255) (hq8 : 0 ≤ c8_.toInt ∧ c8_.toInt ≤ 255) (hq9 : 0 ≤ c9_.toInt ∧ c9_.toInt ≤ 255) (hq10 : 0 ≤ c10_.toInt ∧ c10_.toInt ≤ 255) (hq11 : 0 ≤ c11_.toInt ∧ c11_.toInt ≤ 255) (hq12 : 0 ≤ c12_.toInt ∧ c12_.toInt ≤ 255) (hq13 : 0 ≤ c13_.toInt ∧ c13_.toInt ≤ 255) (hq14 : 0 ≤ c14_.toInt ∧ c14_.toInt ≤ 255) (hq15 : 0 ≤ c15_.toInt ∧ c15_.toInt ≤ 255) (hq16 : 0 ≤ c16_.toInt ∧ c16_.toInt ≤ 255) (hq17 : 0 ≤ c17_.toInt ∧ c17_.toInt ≤ 255) :
    MetFree l (⟨"java/lang/String", "<init>", "([CIILjava/lang/Void;)V"⟩ : MethodName) (head1 (Jvm.Cond.code (⟨"java/lang/String", "<init>", "([CIILjava/lang/Void;)V"⟩ : MethodName) jdk_42_method_149_code 6 none :: ws) ({ frames := 2, cells := 1, slots := 18, locals := 35 } : Room)) (fun a U => a = #[(.ref ob), (.ref ca), (.int 0), (.int 18), .null] ∧ Z.Warmed39 U.vm ∧ U.heap = h0) (fun _ _ _ _ _ => True) (fun _ U o U' => ∃ v L, o = .returned v ∧ Q_init4_18 Z ob ca kc c0_ c1_ c2_ c3_ c4_ c5_ c6_ c7_ c8_ c9_ c10_ c11_ c12_ c13_ c14_ c15_ c16_ c17_ cs h0 n0 v U'.heap L ∧ FrameEnd U o U' L ({ frames := 2, cells := 1, slots := 18, locals := 35 } : Room).cells ({ frames := 2, cells := 1, slots := 18, locals := 35 } : Room).slots) := by
  refine MetFree.of_bodySF (plainFor_of_name pn_1) hisR ?_
  intro p e s m args below meth c s₁ Bd hml0 hP hK
  obtain ⟨rfl, hZ, hh⟩ := hP
  have hx := Bd.exec
  have hby := Bd.bytes
  have hml : c.maxLocals = 6 := hml0
  have hown : s.vm.findClass "java/lang/String" = some m.cls := findClass_of_methodNamed Bd.named
  have hnm := (name_of_methodNamed Bd.named Bd.method).1
  have hlk := BodyLoose.notSynchronized Bd
  have X0 : Stand p l e ({ frames := 2, cells := 1, slots := 18, locals := 35 } : Room) s m #[(.ref ob), (.ref ca), (.int 0), (.int 18), .null] below meth c s₁ [] 0 0 := Stand.of_body Bd
  have e0 : s₁.heap = h0 := by rw [← hh, Bd.state]; rfl
  have N0 := Fr.nil n0
  refine Go.start (P := fun o U' => ∃ v L, o = .returned v ∧ Q_init4_18 Z ob ca kc c0_ c1_ c2_ c3_ c4_ c5_ c6_ c7_ c8_ c9_ c10_ c11_ c12_ c13_ c14_ c15_ c16_ c17_ cs h0 n0 v U'.heap L ∧ FrameEnd s o U' L ({ frames := 2, cells := 1, slots := 18, locals := 35 } : Room).cells ({ frames := 2, cells := 1, slots := 18, locals := 35 } : Room).slots) (ef_init4_18 m ob ca) ?_
  show Go p e below _ (s₁.setTop (mkF m 0 #[.val (.ref ob), .val (.ref ca), qI 0, qI 18, .val .null, qU] []))
  refine Go.by (fun t k => XS.aloadN X0.here hx rfl (hb hby d10_0) rfl rfl k) ?_
  show Go p e below _ (s₁.setTop (mkF m 1 #[.val (.ref ob), .val (.ref ca), qI 0, qI 18, .val .null, qU] [(.ref ob)]))
  obtain ⟨T1, X1, e1, st1⟩ := initO X0 hx hZ hown (hw _ (mg 55 rfl)) (hw _ (mg 56 rfl)) (hw _ (mg 57 rfl)) e0 (g := (mkF m 1 #[.val (.ref ob), .val (.ref ca), qI 0, qI 18, .val .null, qU] [(.ref ob)])) rfl (by rw [hml]; rfl) rfl (hb hby d10_1) (by decide) (W := 0) (by show 2 * 0 + _ ≤ _; exact Nat.le_of_eq rfl) (by decide)
  refine Go.by st1 ?_
  show Go p e below _ (T1.setTop (mkF m 4 #[.val (.ref ob), .val (.ref ca), qI 0, qI 18, .val .null, qU] []))
  refine Go.by (fun t k => XS.iloadN X1.here hx rfl (hb hby d10_4) rfl (XS.ifYes X1.here hx rfl (pc0 := 5) (pc' := 27) rfl (hb hby d10_5) rfl ((if0 _ _).trans (feq (by decide : ¬ ((18 : Int32) = (0 : Int32)))).2) (by decide) (by decide) k)) ?_
  show Go p e below _ (T1.setTop (mkF m 27 #[.val (.ref ob), .val (.ref ca), qI 0, qI 18, .val .null, qU] []))
  have F2 : Sta Z h0 "java/lang/String" "COMPACT_STRINGS" "Z" (.int cs) := P4.ext O0.2
  obtain ⟨T3, X3, e3, st3⟩ := getS2 X1 hx hZ hown (host := "") (Or.inl (hw _ (mg 28 rfl))) Via.refl e1 F2 (g := (mkF m 27 #[.val (.ref ob), .val (.ref ca), qI 0, qI 18, .val .null, qU] [])) rfl (hb hby d10_27)
  refine Go.by st3 ?_
  show Go p e below _ (T3.setTop (mkF m 30 #[.val (.ref ob), .val (.ref ca), qI 0, qI 18, .val .null, qU] [(.int cs)]))
  refine Go.by (fun t k => XS.ifNo X3.here hx rfl (hb hby d10_30) rfl ((if0 _ _).trans (feq hcs).1) (XS.aloadN X3.here hx rfl (hb hby d10_33) rfl rfl (XS.iloadN X3.here hx rfl (hb hby d10_34) rfl (XS.iloadN X3.here hx rfl (hb hby d10_35) rfl k)))) ?_
  show Go p e below _ (T3.setTop (mkF m 36 #[.val (.ref ob), .val (.ref ca), qI 0, qI 18, .val .null, qU] [(.int 18), (.int 0), (.ref ca)]))
  obtain ⟨_, _, ⟨T4, L4, k4, n4⟩, -, X4, ⟨Lc4, hQ4, l4, y4, z4⟩, st4⟩ := Jvm.LawKit.callS X3 hx (y := (⟨"java/lang/StringUTF16", "compress", "([CII)[B"⟩ : MethodName)) hown (mvT hZ (hw _ (mg 58 rfl))) (mvT hZ (hw _ (mg 59 rfl))) (mvT hZ (hw _ (mg 60 rfl))) (mvT hZ (hw _ (mg 61 rfl))) (by decide) (backOf (W := 0) (comp3_18 l Z a0 hw [] ca kc c0_ c1_ c2_ c3_ c4_ c5_ c6_ c7_ c8_ c9_ c10_ c11_ c12_ c13_ c14_ c15_ c16_ c17_ h0 n0 O0 P3 hq0 hq1 hq2 hq3 hq4 hq5 hq6 hq7 hq8 hq9 hq10 hq11 hq12 hq13 hq14 hq15 hq16 hq17) hZ (hw _ (mg 61 rfl)) (hw _ (mg 60 rfl)) (by decide) (by decide)) (g := (mkF m 36 #[.val (.ref ob), .val (.ref ca), qI 0, qI 18, .val .null, qU] [(.int 18), (.int 0), (.ref ca)])) rfl (by rw [hml]; rfl) (argsL := [(.ref ca), (.int 0), (.int 18)]) (rest := []) (lenOf pd_7 rfl) rfl (by show 2 * 0 + _ ≤ _; exact Nat.le_of_eq rfl) (hb hby d10_36) (fun _ _ => ⟨rfl, e3, (by decide : 0 + 1 ≤ _), (by decide : 0 + 18 ≤ _)⟩)
  dsimp only [Pt.U, Pt.locs, Pt.cells, Pt.slots] at X4 l4 y4 z4 st4 hQ4
  subst y4 z4
  obtain ⟨bb_4, kb_4, rfl, N4q, K4, fz4_bb, F4_0⟩ := hQ4
  have N4 : Fr n0 L4 := by rw [l4]; exact Fr.app N0 N4q
  have X4 := own_mr X4 1 18 (by decide) (by decide)
  have ge_bb_4 : n0 ≤ bb_4 := Nat.le_trans (own_old_size O0) fz4_bb
  have sz_bb_4 : h0.size ≤ bb_4 := Nat.le_trans (Keep.refl h0 [ob]).1 fz4_bb
  have ne5 : ob ≠ bb_4 := Nat.ne_of_lt (Nat.lt_of_lt_of_le P0.lt fz4_bb)
  have ne6 : ca ≠ bb_4 := Nat.ne_of_lt (Nat.lt_of_lt_of_le P3.lt fz4_bb)
  refine Go.by st4 ?_
  show Go p e below _ (T4.setTop (mkF m 39 #[.val (.ref ob), .val (.ref ca), qI 0, qI 18, .val .null, qU] [(.ref bb_4)]))
  refine Go.by (fun t k => XS.astore X4.here hx rfl (hb hby d10_39) rfl rfl (l' := #[.val (.ref ob), .val (.ref ca), qI 0, qI 18, .val .null, .val (.ref bb_4)]) rfl (XS.aloadN X4.here hx rfl (hb hby d10_41) rfl rfl (XS.aload X4.here hx rfl (hb hby d10_42) rfl rfl (XS.iloadN X4.here hx rfl (hb hby d10_44) rfl k)))) ?_
  show Go p e below _ (T4.setTop (mkF m 45 #[.val (.ref ob), .val (.ref ca), qI 0, qI 18, .val .null, .val (.ref bb_4)] [(.int 18), (.ref bb_4), (.ref ob)]))
  have F8 : Old Z n0 T4.heap := (O0.keep K4 all0)
  have F9 : Keep h0 T4.heap [ob] := ((Keep.refl h0 [ob]).trans K4 all0)
  obtain ⟨_, _, ⟨T7, L7, k7, n7⟩, -, X7, ⟨Lc7, hQ7, l7, y7, z7⟩, st7⟩ := Jvm.LawKit.callS X4 hx (y := (⟨"java/lang/StringUTF16", "coderFromArrayLen", "([BI)B"⟩ : MethodName)) hown (mvT hZ (hw _ (mg 65 rfl))) (mvT hZ (hw _ (mg 66 rfl))) (mvT hZ (hw _ (mg 60 rfl))) (mvT hZ (hw _ (mg 67 rfl))) (by decide) (backOf (W := 1) (coderLen_18 l Z a0 hw [] bb_4 kb_4 ([(.int (qB c0_)), (.int (qB c1_)), (.int (qB c2_)), (.int (qB c3_)), (.int (qB c4_)), (.int (qB c5_)), (.int (qB c6_)), (.int (qB c7_)), (.int (qB c8_)), (.int (qB c9_)), (.int (qB c10_)), (.int (qB c11_)), (.int (qB c12_)), (.int (qB c13_)), (.int (qB c14_)), (.int (qB c15_)), (.int (qB c16_)), (.int (qB c17_))]) T4.heap n0 F8 F4_0) hZ (hw _ (mg 67 rfl)) (hw _ (mg 60 rfl)) (by decide) (by decide)) (g := (mkF m 45 #[.val (.ref ob), .val (.ref ca), qI 0, qI 18, .val .null, .val (.ref bb_4)] [(.int 18), (.ref bb_4), (.ref ob)])) rfl (by rw [hml]; rfl) (argsL := [(.ref bb_4), (.int 18)]) (rest := [(.ref ob)]) (lenOf pd_8 rfl) rfl (by show 2 * 0 + _ ≤ _; exact Nat.le_of_eq rfl) (hb hby d10_45) (fun _ _ => ⟨rfl, rfl, (by decide : 1 + 0 ≤ _), (by decide : 18 + 0 ≤ _)⟩)
  dsimp only [Pt.U, Pt.locs, Pt.cells, Pt.slots] at X7 l7 y7 z7 st7 hQ7
  subst y7 z7
  obtain ⟨rfl, N7q, e7⟩ := hQ7
  have N7 : Fr n0 L7 := by rw [l7]; exact Fr.app N4 N7q
  have X7 := own_mr X7 1 18 (by decide) (by decide)
  refine Go.by st7 ?_
  show Go p e below _ (T7.setTop (mkF m 48 #[.val (.ref ob), .val (.ref ca), qI 0, qI 18, .val .null, .val (.ref bb_4)] [(.int 0), (.ref ob)]))
  have F10 : Fld Z T4.heap ob "java/lang/String" "coder" "B" (.int 0) := (P2.keep K4 nin0)
  have F11 : Exa Z T4.heap ob "java/lang/String" := (P0.keep K4)
  obtain ⟨T12, h12, X12, e12, W12, st12⟩ := putFN X7 hx hZ hown (hw _ (mg 29 rfl)) Via.refl e7 F10 F11 (Or.inr ⟨(hw _ (mg 15 rfl)), rfl, hnm⟩) (hw _ (mg 12 rfl)) (ty := .byte) (v' := (.int 0)) (by decide) rfl rfl (g := (mkF m 48 #[.val (.ref ob), .val (.ref ca), qI 0, qI 18, .val .null, .val (.ref bb_4)] [(.int 0), (.ref ob)])) rfl rfl (hb hby d10_48)
  have N12 := Fr.snoc X12 N7 gob
  have F13 : Fld Z h12 ob "java/lang/String" "coder" "B" (.int 0) := F10.same W12
  refine Go.by st12 ?_
  show Go p e below _ (T12.setTop (mkF m 51 #[.val (.ref ob), .val (.ref ca), qI 0, qI 18, .val .null, .val (.ref bb_4)] []))
  refine Go.by (fun t k => XS.aloadN X12.here hx rfl (hb hby d10_51) rfl rfl (XS.aload X12.here hx rfl (hb hby d10_52) rfl rfl k)) ?_
  show Go p e below _ (T12.setTop (mkF m 54 #[.val (.ref ob), .val (.ref ca), qI 0, qI 18, .val .null, .val (.ref bb_4)] [(.ref bb_4), (.ref ob)]))
  have F14 : Fld Z h12 ob "java/lang/String" "value" "[B" .null := ((P1.keep K4 nin0).other W12 (Or.inr (slot_ne (Or.inr (hw _ (mg 14 rfl))) (Or.inr (hw _ (mg 15 rfl))) (by decide) (t := (.array .byte)) (t' := .byte) (by decide) (by decide))))
  have F15 : Exa Z h12 ob "java/lang/String" := (F11.wr W12)
  obtain ⟨T16, h16, X16, e16, W16, st16⟩ := putF X12 hx hZ hown (host := "") (Or.inl (hw _ (mg 30 rfl))) Via.refl e12 F14 F15 (Or.inr ⟨(hw _ (mg 14 rfl)), rfl, hnm⟩) (hw _ (mg 12 rfl)) (ty := (.array .byte)) (by decide) rfl rfl (g := (mkF m 54 #[.val (.ref ob), .val (.ref ca), qI 0, qI 18, .val .null, .val (.ref bb_4)] [(.ref bb_4), (.ref ob)])) rfl rfl (hb hby d10_54)
  have N16 := Fr.snoc X16 N12 gob
  have F17 : Fld Z h16 ob "java/lang/String" "value" "[B" (.ref bb_4) := F14.same W16
  refine Go.by st16 ?_
  show Go p e below _ (T16.setTop (mkF m 57 #[.val (.ref ob), .val (.ref ca), qI 0, qI 18, .val .null, .val (.ref bb_4)] []))
  have F18 : Keep h0 h16 [ob] := ((F9.wr W12 (Or.inl (List.mem_of_getElem? (i := 0) rfl))).wr W16 (Or.inl (List.mem_of_getElem? (i := 0) rfl)))
  have F19 : Exa Z h16 ob "java/lang/String" := (F15.wr W16)
  have F20 : Fld Z h16 ob "java/lang/String" "coder" "B" (.int 0) := (F13.other W16 (Or.inr (slot_ne (Or.inr (hw _ (mg 15 rfl))) (Or.inr (hw _ (mg 14 rfl))) (by decide) (t := .byte) (t' := (.array .byte)) (by decide) (by decide))))
  have F21 : Arv Z h16 bb_4 kb_4 .byte (18 : Int32) [(.int (qB c0_)), (.int (qB c1_)), (.int (qB c2_)), (.int (qB c3_)), (.int (qB c4_)), (.int (qB c5_)), (.int (qB c6_)), (.int (qB c7_)), (.int (qB c8_)), (.int (qB c9_)), (.int (qB c10_)), (.int (qB c11_)), (.int (qB c12_)), (.int (qB c13_)), (.int (qB c14_)), (.int (qB c15_)), (.int (qB c16_)), (.int (qB c17_))] (.int 0) := ((F4_0.other W12 (Ne.symm ne5)).other W16 (Ne.symm ne5))
  have hq : Q_init4_18 Z ob ca kc c0_ c1_ c2_ c3_ c4_ c5_ c6_ c7_ c8_ c9_ c10_ c11_ c12_ c13_ c14_ c15_ c16_ c17_ cs h0 n0 none h16 _ := ⟨bb_4, kb_4, rfl, N16, F18, sz_bb_4, F19, F20, F17, F21⟩
  exact Go.ret0 X16 hx Bd.returns hlk (hb hby d10_57) (by decide) (by decide) (by rw [e16]; exact hq)
theorem d9_0 : decode jdk_42_method_3_code 0 = .ok (.aload_n 0, 1) := by decide +kernel
theorem d9_1 : decode jdk_42_method_3_code 1 = .ok (.aload_n 1, 1) := by decide +kernel
theorem d9_2 : decode jdk_42_method_3_code 2 = .ok (.iconst 0, 1) := by decide +kernel
theorem d9_3 : decode jdk_42_method_3_code 3 = .ok (.aload_n 1, 1) := by decide +kernel
theorem d9_4 : decode jdk_42_method_3_code 4 = .ok (.arraylength, 1) := by decide +kernel
theorem d9_5 : decode jdk_42_method_3_code 5 = .ok (.aconst_null, 1) := by decide +kernel
theorem d9_6 : decode jdk_42_method_3_code 6 = .ok (.invokespecial 27, 3) := by decide +kernel
theorem pd_9 : parseMethodDescriptor "([CIILjava/lang/Void;)V" = some ⟨[(.array .char), .int, .int, (.object "java/lang/Void")], none⟩ := by decide +kernel
theorem d9_9 : decode jdk_42_method_3_code 9 = .ok (.return_, 1) := by decide +kernel
theorem ef_init1_18 (m : MethodId) (ob : Addr) (ca : Addr) : entryFrame m #[(.ref ob), (.ref ca)] 2 = mkF m 0 #[.val (.ref ob), .val (.ref ca)] [] := by first | (simp [entryFrame, mkF, argsToLocals, Value.category]; done) | rfl
def Q_init1_18 (Z : State) (ob : Addr) (ca : Addr) (kc : ClassId) (c0_ : Int32) (c1_ : Int32) (c2_ : Int32) (c3_ : Int32) (c4_ : Int32) (c5_ : Int32) (c6_ : Int32) (c7_ : Int32) (c8_ : Int32) (c9_ : Int32) (c10_ : Int32) (c11_ : Int32) (c12_ : Int32) (c13_ : Int32) (c14_ : Int32) (c15_ : Int32) (c16_ : Int32) (c17_ : Int32) (cs : Int32) (h0 : Heap) (n0 : Nat) (v : Option Value) (h : Heap) (L : List Loc) : Prop := ∃ xb : Addr, ∃ kb : ClassId, v = none ∧ Fr n0 L ∧ Keep h0 h [ob] ∧ h0.size ≤ xb ∧ Exa Z h ob "java/lang/String" ∧ Fld Z h ob "java/lang/String" "coder" "B" (.int 0) ∧ Fld Z h ob "java/lang/String" "value" "[B" (.ref xb) ∧ Arv Z h xb kb .byte (18 : Int32) [(.int (qB c0_)), (.int (qB c1_)), (.int (qB c2_)), (.int (qB c3_)), (.int (qB c4_)), (.int (qB c5_)), (.int (qB c6_)), (.int (qB c7_)), (.int (qB c8_)), (.int (qB c9_)), (.int (qB c10_)), (.int (qB c11_)), (.int (qB c12_)), (.int (qB c13_)), (.int (qB c14_)), (.int (qB c15_)), (.int (qB c16_)), (.int (qB c17_))] (.int 0)
set_option maxRecDepth 65536 in
set_option maxHeartbeats 40000000 in
theorem init1_18 (l : Launch) (Z : State) (a0 : Array Value) (hw : ∀ d ∈ tables_1, d.before a0 Z = true) (ws : List Jvm.Cond) (ob : Addr) (ca : Addr) (kc : ClassId) (c0_ : Int32) (c1_ : Int32) (c2_ : Int32) (c3_ : Int32) (c4_ : Int32) (c5_ : Int32) (c6_ : Int32) (c7_ : Int32) (c8_ : Int32) (c9_ : Int32) (c10_ : Int32) (c11_ : Int32) (c12_ : Int32) (c13_ : Int32) (c14_ : Int32) (c15_ : Int32) (c16_ : Int32) (c17_ : Int32) (cs : Int32) (h0 : Heap) (n0 : Nat) (O0 : Old Z n0 h0) (P0 : Exa Z h0 ob "java/lang/String") (P1 : Fld Z h0 ob "java/lang/String" "value" "[B" .null) (P2 : Fld Z h0 ob "java/lang/String" "coder" "B" (.int 0)) (P3 : Arv Z h0 ca kc .char (18 : Int32) [(.int c0_), (.int c1_), (.int c2_), (.int c3_), (.int c4_), (.int c5_), (.int c6_), (.int c7_), (.int c8_), (.int c9_), (.int c10_), (.int c11_), (.int c12_), (.int c13_), (.int c14_), (.int c15_), (.int c16_), (.int c17_)] (.int 0)) (P4 : Sta Z Z.heap "java/lang/String" "COMPACT_STRINGS" "Z" (.int cs)) (gob : n0 ≤ ob) (nco : ca ≠ ob) (hcs : cs ≠ (0 : Int32)) (hq0 : 0 ≤ c0_.toInt ∧ c0_.toInt ≤ 255) (hq1 : 0 ≤ c1_.toInt ∧ c1_.toInt ≤ 255) (hq2 : 0 ≤ c2_.toInt ∧ c2_.toInt ≤ 255) (hq3 : 0 ≤ c3_.toInt ∧ c3_.toInt ≤ 255) (hq4 : 0 ≤ c4_.toInt ∧ c4_.toInt ≤ 255) (hq5 : 0 ≤ c5_.toInt ∧ c5_.toInt ≤ 255) (hq6 : 0 ≤ c6_.toInt ∧ c6_.toInt ≤ 255) (hq7 : 0 ≤ c7_.toInt ∧ c7_.toInt ≤ 255) (hq8 : 0 ≤ c8_.toInt ∧ c8_.toInt ≤ 255) (hq9 : 0 ≤ c9_.toInt ∧ c9_.toInt ≤ 255) (hq10 : 0 ≤ c10_.toInt ∧ c10_.toInt ≤ 255) (hq11 : 0 ≤ c11_.toInt ∧ c11_.toInt ≤ 255) (hq12 : 0 ≤ c12_.toInt ∧ c12_.toInt ≤ 255) (hq13 : 0 ≤ c13_.toInt ∧ c13_.toInt ≤ 255) (hq14 : 0 ≤ c14_.toInt ∧ c14_.toInt ≤ 255) (hq15 : 0 ≤ c15_.toInt ∧ c15_.toInt ≤ 255) (hq16 : 0 ≤ c16_.toInt ∧ c16_.toInt ≤ 255) (hq17 : 0 ≤ c17_.toInt ∧ c17_.toInt ≤ 255) :
    MetFree l (⟨"java/lang/String", "<init>", "([C)V"⟩ : MethodName) (head1 (Jvm.Cond.code (⟨"java/lang/String", "<init>", "([C)V"⟩ : MethodName) jdk_42_method_3_code 2 none :: ws) ({ frames := 3, cells := 1, slots := 18, locals := 52 } : Room)) (fun a U => a = #[(.ref ob), (.ref ca)] ∧ Z.Warmed39 U.vm ∧ U.heap = h0) (fun _ _ _ _ _ => True) (fun _ U o U' => ∃ v L, o = .returned v ∧ Q_init1_18 Z ob ca kc c0_ c1_ c2_ c3_ c4_ c5_ c6_ c7_ c8_ c9_ c10_ c11_ c12_ c13_ c14_ c15_ c16_ c17_ cs h0 n0 v U'.heap L ∧ FrameEnd U o U' L ({ frames := 3, cells := 1, slots := 18, locals := 52 } : Room).cells ({ frames := 3, cells := 1, slots := 18, locals := 52 } : Room).slots) := by
  refine MetFree.of_bodySF (plainFor_of_name pn_1) hisR ?_
  intro p e s m args below meth c s₁ Bd hml0 hP hK
  obtain ⟨rfl, hZ, hh⟩ := hP
  have hx := Bd.exec
  have hby := Bd.bytes
  have hml : c.maxLocals = 2 := hml0
  have hown : s.vm.findClass "java/lang/String" = some m.cls := findClass_of_methodNamed Bd.named
  have hnm := (name_of_methodNamed Bd.named Bd.method).1
  have hlk := BodyLoose.notSynchronized Bd
  have X0 : Stand p l e ({ frames := 3, cells := 1, slots := 18, locals := 52 } : Room) s m #[(.ref ob), (.ref ca)] below meth c s₁ [] 0 0 := Stand.of_body Bd
  have e0 : s₁.heap = h0 := by rw [← hh, Bd.state]; rfl
  have N0 := Fr.nil n0
  refine Go.start (P := fun o U' => ∃ v L, o = .returned v ∧ Q_init1_18 Z ob ca kc c0_ c1_ c2_ c3_ c4_ c5_ c6_ c7_ c8_ c9_ c10_ c11_ c12_ c13_ c14_ c15_ c16_ c17_ cs h0 n0 v U'.heap L ∧ FrameEnd s o U' L ({ frames := 3, cells := 1, slots := 18, locals := 52 } : Room).cells ({ frames := 3, cells := 1, slots := 18, locals := 52 } : Room).slots) (ef_init1_18 m ob ca) ?_
  show Go p e below _ (s₁.setTop (mkF m 0 #[.val (.ref ob), .val (.ref ca)] []))
  refine Go.by (fun t k => XS.aloadN X0.here hx rfl (hb hby d9_0) rfl rfl (XS.aloadN X0.here hx rfl (hb hby d9_1) rfl rfl (XS.iconst X0.here hx rfl (hb hby d9_2) (XS.aloadN X0.here hx rfl (hb hby d9_3) rfl rfl k)))) ?_
  show Go p e below _ (s₁.setTop (mkF m 4 #[.val (.ref ob), .val (.ref ca)] [(.ref ca), (.int 0), (.ref ca), (.ref ob)]))
  obtain ⟨cl1, Ar1, qk1, sz1, nn1, Ha1, Gf1⟩ := id P3
  have hl1 : cl1.slots.size.toInt32 = (18 : Int32) := len_of sz1 nn1
  refine Go.by (fun t k => X0.arraylength hx (by rw [e0]; exact Ar1.1) (State.isArrayOf_alike hZ.alike Ar1.2.1) (g := (mkF m 4 #[.val (.ref ob), .val (.ref ca)] [(.ref ca), (.int 0), (.ref ca), (.ref ob)])) rfl rfl (hb hby d9_4) t (by rw [hl1]; exact k)) ?_
  show Go p e below _ (s₁.setTop (mkF m 5 #[.val (.ref ob), .val (.ref ca)] [(.int 18), (.int 0), (.ref ca), (.ref ob)]))
  refine Go.by (fun t k => XS.aconstNull X0.here hx rfl (hb hby d9_5) k) ?_
  show Go p e below _ (s₁.setTop (mkF m 6 #[.val (.ref ob), .val (.ref ca)] [.null, (.int 18), (.int 0), (.ref ca), (.ref ob)]))
  obtain ⟨_, _, ⟨T2, L2, k2, n2⟩, -, X2, ⟨Lc2, hQ2, l2, y2, z2⟩, st2⟩ := X0.specialBack hx (y := (⟨"java/lang/String", "<init>", "([CIILjava/lang/Void;)V"⟩ : MethodName)) rfl hown (mvT hZ (hw _ (mg 51 rfl))) (mvT hZ (hw _ (mg 52 rfl))) (mvT hZ (hw _ (mg 54 rfl))) (by decide) (backOf (W := 0) (init4_18 l Z a0 hw [] ob ca kc c0_ c1_ c2_ c3_ c4_ c5_ c6_ c7_ c8_ c9_ c10_ c11_ c12_ c13_ c14_ c15_ c16_ c17_ cs h0 n0 O0 P0 P1 P2 P3 P4 gob nco hcs hq0 hq1 hq2 hq3 hq4 hq5 hq6 hq7 hq8 hq9 hq10 hq11 hq12 hq13 hq14 hq15 hq16 hq17) hZ (hw _ (mg 54 rfl)) (hw _ (mg 11 rfl)) (by decide) (by decide)) (g := (mkF m 6 #[.val (.ref ob), .val (.ref ca)] [.null, (.int 18), (.int 0), (.ref ca), (.ref ob)])) rfl (by rw [hml]; rfl) (Steps.refl _) (a := ob) (argsL := [(.ref ca), (.int 0), (.int 18), .null]) (rest := []) (lenOf pd_9 rfl) rfl (by show 2 * 0 + _ ≤ _; exact Nat.le_of_eq rfl) (hb hby d9_6) (fun _ _ => ⟨rfl, e0, (by decide : 0 + 1 ≤ _), (by decide : 0 + 18 ≤ _)⟩)
  dsimp only [Pt.U, Pt.locs, Pt.cells, Pt.slots] at X2 l2 y2 z2 st2 hQ2
  subst y2 z2
  obtain ⟨xb_2, kb_2, rfl, N2q, K2, fz2_xb, F2_0, F2_1, F2_2, F2_3⟩ := hQ2
  have N2 : Fr n0 L2 := by rw [l2]; exact Fr.app N0 N2q
  have X2 := own_mr X2 1 18 (by decide) (by decide)
  have ge_xb_2 : n0 ≤ xb_2 := Nat.le_trans (own_old_size O0) fz2_xb
  have sz_xb_2 : h0.size ≤ xb_2 := Nat.le_trans (Keep.refl h0 [ob]).1 fz2_xb
  have ne3 : ob ≠ xb_2 := Nat.ne_of_lt (Nat.lt_of_lt_of_le P0.lt fz2_xb)
  have ne4 : ca ≠ xb_2 := Nat.ne_of_lt (Nat.lt_of_lt_of_le P3.lt fz2_xb)
  refine Go.tr st2 ?_
  show Go p e below _ (T2.setTop (mkF m 9 #[.val (.ref ob), .val (.ref ca)] []))
  have F5 : Keep h0 T2.heap [ob] := ((Keep.refl h0 [ob]).trans K2 (allS (Or.inl (List.mem_of_getElem? (i := 0) rfl)) all0))
  have hq : Q_init1_18 Z ob ca kc c0_ c1_ c2_ c3_ c4_ c5_ c6_ c7_ c8_ c9_ c10_ c11_ c12_ c13_ c14_ c15_ c16_ c17_ cs h0 n0 none T2.heap _ := ⟨xb_2, kb_2, rfl, N2, F5, sz_xb_2, F2_0, F2_1, F2_2, F2_3⟩
  exact Go.ret0 X2 hx Bd.returns hlk (hb hby d9_9) (by decide) (by decide) hq
theorem ef_coderLen_2 (m : MethodId) (xa : Addr) : entryFrame m #[(.ref xa), (.int (2 : Int32))] 2 = mkF m 0 #[.val (.ref xa), .val (.int (2 : Int32))] [] := by first | (simp [entryFrame, mkF, argsToLocals, Value.category]; done) | rfl
def Q_coderLen_2 (Z : State) (xa : Addr) (ka : ClassId) (vs : List Value) (h0 : Heap) (n0 : Nat) (v : Option Value) (h : Heap) (L : List Loc) : Prop := v = some (.int 0) ∧ Fr n0 L ∧ h = h0
set_option maxRecDepth 65536 in
set_option maxHeartbeats 40000000 in
theorem coderLen_2 (l : Launch) (Z : State) (a0 : Array Value) (hw : ∀ d ∈ tables_1, d.before a0 Z = true) (ws : List Jvm.Cond) (xa : Addr) (ka : ClassId) (vs : List Value) (h0 : Heap) (n0 : Nat) (O0 : Old Z n0 h0) (P0 : Arv Z h0 xa ka .byte (2 : Int32) vs (.int 0)) :
    MetFree l (⟨"java/lang/StringUTF16", "coderFromArrayLen", "([BI)B"⟩ : MethodName) (head1 (Jvm.Cond.code (⟨"java/lang/StringUTF16", "coderFromArrayLen", "([BI)B"⟩ : MethodName) jdk_52_method_15_code 2 (some .byte) :: ws) ({ frames := 0, cells := 0, slots := 0, locals := 0 } : Room)) (fun a U => a = #[(.ref xa), (.int 2)] ∧ Z.Warmed39 U.vm ∧ U.heap = h0) (fun _ _ _ _ _ => True) (fun _ U o U' => ∃ v L, o = .returned v ∧ Q_coderLen_2 Z xa ka vs h0 n0 v U'.heap L ∧ FrameEnd U o U' L ({ frames := 0, cells := 0, slots := 0, locals := 0 } : Room).cells ({ frames := 0, cells := 0, slots := 0, locals := 0 } : Room).slots) := by
  refine MetFree.of_bodySF (plainFor_of_name pn_4) hisR ?_
  intro p e s m args below meth c s₁ Bd hml0 hP hK
  obtain ⟨rfl, hZ, hh⟩ := hP
  have hx := Bd.exec
  have hby := Bd.bytes
  have hml : c.maxLocals = 2 := hml0
  have hown : s.vm.findClass "java/lang/StringUTF16" = some m.cls := findClass_of_methodNamed Bd.named
  have hnm := (name_of_methodNamed Bd.named Bd.method).1
  have hlk := BodyLoose.notSynchronized Bd
  have X0 : Stand p l e ({ frames := 0, cells := 0, slots := 0, locals := 0 } : Room) s m #[(.ref xa), (.int 2)] below meth c s₁ [] 0 0 := Stand.of_body Bd
  have e0 : s₁.heap = h0 := by rw [← hh, Bd.state]; rfl
  have N0 := Fr.nil n0
  refine Go.start (P := fun o U' => ∃ v L, o = .returned v ∧ Q_coderLen_2 Z xa ka vs h0 n0 v U'.heap L ∧ FrameEnd s o U' L ({ frames := 0, cells := 0, slots := 0, locals := 0 } : Room).cells ({ frames := 0, cells := 0, slots := 0, locals := 0 } : Room).slots) (ef_coderLen_2 m xa) ?_
  show Go p e below _ (s₁.setTop (mkF m 0 #[.val (.ref xa), qI 2] []))
  refine Go.by (fun t k => XS.iloadN X0.here hx rfl (hb hby d14_0) rfl (XS.aloadN X0.here hx rfl (hb hby d14_1) rfl rfl k)) ?_
  show Go p e below _ (s₁.setTop (mkF m 2 #[.val (.ref xa), qI 2] [(.ref xa), (.int 2)]))
  obtain ⟨cl1, Ar1, qk1, sz1, nn1, Ha1, Gf1⟩ := id P0
  have hl1 : cl1.slots.size.toInt32 = (2 : Int32) := len_of sz1 nn1
  refine Go.by (fun t k => X0.arraylength hx (by rw [e0]; exact Ar1.1) (State.isArrayOf_alike hZ.alike Ar1.2.1) (g := (mkF m 2 #[.val (.ref xa), qI 2] [(.ref xa), (.int 2)])) rfl rfl (hb hby d14_2) t (by rw [hl1]; exact k)) ?_
  show Go p e below _ (s₁.setTop (mkF m 3 #[.val (.ref xa), qI 2] [(.int 2), (.int 2)]))
  refine Go.by (fun t k => XS.isub X0.here hx rfl (hb hby d14_3) rfl (XS.bipush X0.here hx rfl (hb hby d14_4) (XS.iushr X0.here hx rfl (hb hby d14_6) rfl (XS.i2b X0.here hx rfl (hb hby d14_7) rfl k)))) ?_
  show Go p e below _ (s₁.setTop (mkF m 8 #[.val (.ref xa), qI 2] [(.int ((((0 : Int32).toUInt32 >>> ((31 : Int32) &&& 31).toUInt32).toInt32).toInt8.toInt32))]))
  have hq : Q_coderLen_2 Z xa ka vs h0 n0 (some (.int (nar .byte ((((0 : Int32).toUInt32 >>> ((31 : Int32) &&& 31).toUInt32).toInt32).toInt8.toInt32)))) h0 _ := ⟨rfl, N0, rfl⟩
  exact Go.retN X0 hx (t := .byte) Bd.returns (by simp) hlk (hb hby d14_8) (by decide) (by decide) (by rw [e0]; exact hq)
theorem ef_comp5_2 (m : MethodId) (ca : Addr) (ba : Addr) : entryFrame m #[(.ref ca), (.int (0 : Int32)), (.ref ba), (.int (0 : Int32)), (.int (2 : Int32))] 7 = mkF m 0 #[.val (.ref ca), .val (.int (0 : Int32)), .val (.ref ba), .val (.int (0 : Int32)), .val (.int (2 : Int32)), .unset, .unset] [] := by first | (simp [entryFrame, mkF, argsToLocals, Value.category]; done) | rfl
def Q_comp5_2 (Z : State) (ca : Addr) (ba : Addr) (kc : ClassId) (c0_ : Int32) (c1_ : Int32) (kb : ClassId) (h0 : Heap) (n0 : Nat) (v : Option Value) (h : Heap) (L : List Loc) : Prop := v = some (.int 2) ∧ Fr n0 L ∧ Keep h0 h [ba] ∧ Arv Z h ba kb .byte (2 : Int32) [(.int (qB c0_)), (.int (qB c1_))] (.int 0)
set_option maxRecDepth 65536 in
set_option maxHeartbeats 40000000 in
theorem comp5_2 (l : Launch) (Z : State) (a0 : Array Value) (hw : ∀ d ∈ tables_1, d.before a0 Z = true) (ws : List Jvm.Cond) (ca : Addr) (ba : Addr) (kc : ClassId) (c0_ : Int32) (c1_ : Int32) (kb : ClassId) (h0 : Heap) (n0 : Nat) (O0 : Old Z n0 h0) (P0 : Arv Z h0 ca kc .char (2 : Int32) [(.int c0_), (.int c1_)] (.int 0)) (P1 : Arv Z h0 ba kb .byte (2 : Int32) [(.int 0), (.int 0)] (.int 0)) (gba : n0 ≤ ba) (ncb : ca ≠ ba) (hq0 : 0 ≤ c0_.toInt ∧ c0_.toInt ≤ 255) (hq1 : 0 ≤ c1_.toInt ∧ c1_.toInt ≤ 255) :
    MetFree l (⟨"java/lang/StringUTF16", "compress", "([CI[BII)I"⟩ : MethodName) (head1 (Jvm.Cond.code (⟨"java/lang/StringUTF16", "compress", "([CI[BII)I"⟩ : MethodName) jdk_52_method_21_code 7 (some .int) :: ws) ({ frames := 0, cells := 0, slots := 0, locals := 0 } : Room)) (fun a U => a = #[(.ref ca), (.int 0), (.ref ba), (.int 0), (.int 2)] ∧ Z.Warmed39 U.vm ∧ U.heap = h0) (fun _ _ _ _ _ => True) (fun _ U o U' => ∃ v L, o = .returned v ∧ Q_comp5_2 Z ca ba kc c0_ c1_ kb h0 n0 v U'.heap L ∧ FrameEnd U o U' L ({ frames := 0, cells := 0, slots := 0, locals := 0 } : Room).cells ({ frames := 0, cells := 0, slots := 0, locals := 0 } : Room).slots) := by
  refine MetFree.of_bodySF (plainFor_of_name pn_4) hisR ?_
  intro p e s m args below meth c s₁ Bd hml0 hP hK
  obtain ⟨rfl, hZ, hh⟩ := hP
  have hx := Bd.exec
  have hby := Bd.bytes
  have hml : c.maxLocals = 7 := hml0
  have hown : s.vm.findClass "java/lang/StringUTF16" = some m.cls := findClass_of_methodNamed Bd.named
  have hnm := (name_of_methodNamed Bd.named Bd.method).1
  have hlk := BodyLoose.notSynchronized Bd
  have X0 : Stand p l e ({ frames := 0, cells := 0, slots := 0, locals := 0 } : Room) s m #[(.ref ca), (.int 0), (.ref ba), (.int 0), (.int 2)] below meth c s₁ [] 0 0 := Stand.of_body Bd
  have e0 : s₁.heap = h0 := by rw [← hh, Bd.state]; rfl
  have N0 := Fr.nil n0
  refine Go.start (P := fun o U' => ∃ v L, o = .returned v ∧ Q_comp5_2 Z ca ba kc c0_ c1_ kb h0 n0 v U'.heap L ∧ FrameEnd s o U' L ({ frames := 0, cells := 0, slots := 0, locals := 0 } : Room).cells ({ frames := 0, cells := 0, slots := 0, locals := 0 } : Room).slots) (ef_comp5_2 m ca ba) ?_
  show Go p e below _ (s₁.setTop (mkF m 0 #[.val (.ref ca), qI 0, .val (.ref ba), qI 0, qI 2, qU, qU] []))
  refine Go.by (fun t k => XS.iconst X0.here hx rfl (hb hby d13_0) (XS.istore X0.here hx rfl (hb hby d13_1) rfl (l' := #[.val (.ref ca), qI 0, .val (.ref ba), qI 0, qI 2, qI 0, qU]) rfl (XS.iload X0.here hx rfl (hb hby d13_3) rfl (XS.iload X0.here hx rfl (hb hby d13_5) rfl (XS.icmpNo X0.here hx rfl (hb hby d13_7) rfl (tlt (by decide : (0 : Int32) < (2 : Int32))).2.1 (XS.aloadN X0.here hx rfl (hb hby d13_10) rfl rfl (XS.iloadN X0.here hx rfl (hb hby d13_11) rfl k))))))) ?_
  show Go p e below _ (s₁.setTop (mkF m 12 #[.val (.ref ca), qI 0, .val (.ref ba), qI 0, qI 2, qI 0, qU] [(.int 0), (.ref ca)]))
  obtain ⟨cl1, Ar1, qk1, sz1, nn1, Ha1, Gf1⟩ := id P0
  have hin2 : ¬ ((0 : Int32) < 0 ∨ cl1.slots.size ≤ ((0 : Int32)).toNatClampNeg) := inb_of sz1 ⟨by decide, by decide⟩
  have hat3 : cl1.slots[((0 : Int32)).toNatClampNeg]? = some (.int c0_) := Has.at Ha1 hin2 rfl
  refine Go.by (fun t k => X0.caload hx (j := (0 : Int32)) (v := (.int c0_)) (by rw [e0]; exact Ar1.1) (State.isArrayOf_alike hZ.alike Ar1.2.1) Ar1.2.2 hin2 hat3 (g := (mkF m 12 #[.val (.ref ca), qI 0, .val (.ref ba), qI 0, qI 2, qI 0, qU] [(.int 0), (.ref ca)])) rfl rfl (hb hby d13_12) t k) ?_
  show Go p e below _ (s₁.setTop (mkF m 13 #[.val (.ref ca), qI 0, .val (.ref ba), qI 0, qI 2, qI 0, qU] [(.int c0_)]))
  refine Go.by (fun t k => XS.istore X0.here hx rfl (hb hby d13_13) rfl (l' := #[.val (.ref ca), qI 0, .val (.ref ba), qI 0, qI 2, qI 0, qI c0_]) rfl (XS.iload X0.here hx rfl (hb hby d13_15) rfl (XS.sipush X0.here hx rfl (hb hby d13_17) (XS.icmpYes X0.here hx rfl (pc0 := 20) (pc' := 26) rfl (hb hby d13_20) rfl (flt (own_nle hq0)).2.2.2 (by decide) (by decide) (XS.aloadN X0.here hx rfl (hb hby d13_26) rfl rfl (XS.iloadN X0.here hx rfl (hb hby d13_27) rfl (XS.iload X0.here hx rfl (hb hby d13_28) rfl (XS.i2b X0.here hx rfl (hb hby d13_30) rfl k)))))))) ?_
  show Go p e below _ (s₁.setTop (mkF m 31 #[.val (.ref ca), qI 0, .val (.ref ba), qI 0, qI 2, qI 0, qI c0_] [(.int (c0_.toInt8.toInt32)), (.int 0), (.ref ba)]))
  obtain ⟨cl4, Ar4, qk4, sz4, nn4, Ha4, Gf4⟩ := id P1
  have hin5 : ¬ ((0 : Int32) < 0 ∨ cl4.slots.size ≤ ((0 : Int32)).toNatClampNeg) := inb_of sz4 ⟨by decide, by decide⟩
  obtain ⟨T6, h6, X6, e6, W6, st6⟩ := stB X0 hx hZ e0 Ar4 (j := (0 : Int32)) hin5 (g := (mkF m 31 #[.val (.ref ca), qI 0, .val (.ref ba), qI 0, qI 2, qI 0, qI c0_] [(.int (c0_.toInt8.toInt32)), (.int 0), (.ref ba)])) rfl rfl (hb hby d13_31)
  have N6 := Fr.snoc X6 N0 gba
  have F7 : Arv Z h6 ba kb .byte (2 : Int32) [(.int (qB c0_)), (.int 0)] (.int 0) := Arv.set Ar4 qk4 sz4 nn4 Ha4 Gf4 (fits_nar_byte _) W6 0 rfl (Nat.le_of_ble_eq_true rfl)
  refine Go.by st6 ?_
  show Go p e below _ (T6.setTop (mkF m 32 #[.val (.ref ca), qI 0, .val (.ref ba), qI 0, qI 2, qI 0, qI c0_] []))
  refine Go.by (fun t k => XS.iinc X6.here hx rfl (hb hby d13_32) rfl (l' := #[.val (.ref ca), qI 1, .val (.ref ba), qI 0, qI 2, qI 0, qI c0_]) rfl (XS.iinc X6.here hx rfl (hb hby d13_35) rfl (l' := #[.val (.ref ca), qI 1, .val (.ref ba), qI 1, qI 2, qI 0, qI c0_]) rfl (XS.iinc X6.here hx rfl (hb hby d13_38) rfl (l' := #[.val (.ref ca), qI 1, .val (.ref ba), qI 1, qI 2, qI 1, qI c0_]) rfl (XS.goto X6.here hx rfl (pc0 := 41) (pc' := 3) rfl (hb hby d13_41) (by decide) (by decide) (XS.iload X6.here hx rfl (hb hby d13_3) rfl (XS.iload X6.here hx rfl (hb hby d13_5) rfl (XS.icmpNo X6.here hx rfl (hb hby d13_7) rfl (tlt (by decide : (1 : Int32) < (2 : Int32))).2.1 (XS.aloadN X6.here hx rfl (hb hby d13_10) rfl rfl k)))))))) ?_
  show Go p e below _ (T6.setTop (mkF m 11 #[.val (.ref ca), qI 1, .val (.ref ba), qI 1, qI 2, qI 1, qI c0_] [(.ref ca)]))
  refine Go.by (fun t k => XS.iloadN X6.here hx rfl (hb hby d13_11) rfl k) ?_
  show Go p e below _ (T6.setTop (mkF m 12 #[.val (.ref ca), qI 1, .val (.ref ba), qI 1, qI 2, qI 1, qI c0_] [(.int 1), (.ref ca)]))
  have F8 : Arv Z h6 ca kc .char (2 : Int32) [(.int c0_), (.int c1_)] (.int 0) := (P0.other W6 ncb)
  obtain ⟨cl9, Ar9, qk9, sz9, nn9, Ha9, Gf9⟩ := id F8
  have hin10 : ¬ ((1 : Int32) < 0 ∨ cl9.slots.size ≤ ((1 : Int32)).toNatClampNeg) := inb_of sz9 ⟨by decide, by decide⟩
  have hat11 : cl9.slots[((1 : Int32)).toNatClampNeg]? = some (.int c1_) := Has.at Ha9 hin10 rfl
  refine Go.by (fun t k => X6.caload hx (j := (1 : Int32)) (v := (.int c1_)) (by rw [e6]; exact Ar9.1) (State.isArrayOf_alike hZ.alike Ar9.2.1) Ar9.2.2 hin10 hat11 (g := (mkF m 12 #[.val (.ref ca), qI 1, .val (.ref ba), qI 1, qI 2, qI 1, qI c0_] [(.int 1), (.ref ca)])) rfl rfl (hb hby d13_12) t k) ?_
  show Go p e below _ (T6.setTop (mkF m 13 #[.val (.ref ca), qI 1, .val (.ref ba), qI 1, qI 2, qI 1, qI c0_] [(.int c1_)]))
  refine Go.by (fun t k => XS.istore X6.here hx rfl (hb hby d13_13) rfl (l' := #[.val (.ref ca), qI 1, .val (.ref ba), qI 1, qI 2, qI 1, qI c1_]) rfl (XS.iload X6.here hx rfl (hb hby d13_15) rfl (XS.sipush X6.here hx rfl (hb hby d13_17) (XS.icmpYes X6.here hx rfl (pc0 := 20) (pc' := 26) rfl (hb hby d13_20) rfl (flt (own_nle hq1)).2.2.2 (by decide) (by decide) (XS.aloadN X6.here hx rfl (hb hby d13_26) rfl rfl (XS.iloadN X6.here hx rfl (hb hby d13_27) rfl (XS.iload X6.here hx rfl (hb hby d13_28) rfl (XS.i2b X6.here hx rfl (hb hby d13_30) rfl k)))))))) ?_
  show Go p e below _ (T6.setTop (mkF m 31 #[.val (.ref ca), qI 1, .val (.ref ba), qI 1, qI 2, qI 1, qI c1_] [(.int (c1_.toInt8.toInt32)), (.int 1), (.ref ba)]))
  obtain ⟨cl12, Ar12, qk12, sz12, nn12, Ha12, Gf12⟩ := id F7
  have hin13 : ¬ ((1 : Int32) < 0 ∨ cl12.slots.size ≤ ((1 : Int32)).toNatClampNeg) := inb_of sz12 ⟨by decide, by decide⟩
  obtain ⟨T14, h14, X14, e14, W14, st14⟩ := stB X6 hx hZ e6 Ar12 (j := (1 : Int32)) hin13 (g := (mkF m 31 #[.val (.ref ca), qI 1, .val (.ref ba), qI 1, qI 2, qI 1, qI c1_] [(.int (c1_.toInt8.toInt32)), (.int 1), (.ref ba)])) rfl rfl (hb hby d13_31)
  have N14 := Fr.snoc X14 N6 gba
  have F15 : Arv Z h14 ba kb .byte (2 : Int32) [(.int (qB c0_)), (.int (qB c1_))] (.int 0) := Arv.set Ar12 qk12 sz12 nn12 Ha12 Gf12 (fits_nar_byte _) W14 1 rfl (Nat.le_of_ble_eq_true rfl)
  refine Go.by st14 ?_
  show Go p e below _ (T14.setTop (mkF m 32 #[.val (.ref ca), qI 1, .val (.ref ba), qI 1, qI 2, qI 1, qI c1_] []))
  refine Go.by (fun t k => XS.iinc X14.here hx rfl (hb hby d13_32) rfl (l' := #[.val (.ref ca), qI 2, .val (.ref ba), qI 1, qI 2, qI 1, qI c1_]) rfl (XS.iinc X14.here hx rfl (hb hby d13_35) rfl (l' := #[.val (.ref ca), qI 2, .val (.ref ba), qI 2, qI 2, qI 1, qI c1_]) rfl (XS.iinc X14.here hx rfl (hb hby d13_38) rfl (l' := #[.val (.ref ca), qI 2, .val (.ref ba), qI 2, qI 2, qI 2, qI c1_]) rfl (XS.goto X14.here hx rfl (pc0 := 41) (pc' := 3) rfl (hb hby d13_41) (by decide) (by decide) (XS.iload X14.here hx rfl (hb hby d13_3) rfl (XS.iload X14.here hx rfl (hb hby d13_5) rfl (XS.icmpYes X14.here hx rfl (pc0 := 7) (pc' := 44) rfl (hb hby d13_7) rfl (flt Int32.lt_irrefl).2.1 (by decide) (by decide) (XS.iload X14.here hx rfl (hb hby d13_44) rfl k)))))))) ?_
  show Go p e below _ (T14.setTop (mkF m 46 #[.val (.ref ca), qI 2, .val (.ref ba), qI 2, qI 2, qI 2, qI c1_] [(.int 2)]))
  have F16 : Keep h0 h14 [ba] := (((Keep.refl h0 [ba]).wr W6 (Or.inl (List.mem_of_getElem? (i := 0) rfl))).wr W14 (Or.inl (List.mem_of_getElem? (i := 0) rfl)))
  have hq : Q_comp5_2 Z ca ba kc c0_ c1_ kb h0 n0 (some (.int 2)) h14 _ := ⟨rfl, N14, F16, F15⟩
  exact Go.retI X14 hx Bd.returns hlk (hb hby d13_46) (by decide) (by decide) (by rw [e14]; exact hq)
theorem ef_comp3_2 (m : MethodId) (ca : Addr) : entryFrame m #[(.ref ca), (.int (0 : Int32)), (.int (2 : Int32))] 6 = mkF m 0 #[.val (.ref ca), .val (.int (0 : Int32)), .val (.int (2 : Int32)), .unset, .unset, .unset] [] := by first | (simp [entryFrame, mkF, argsToLocals, Value.category]; done) | rfl
def Q_comp3_2 (Z : State) (ca : Addr) (kc : ClassId) (c0_ : Int32) (c1_ : Int32) (h0 : Heap) (n0 : Nat) (v : Option Value) (h : Heap) (L : List Loc) : Prop := ∃ bb : Addr, ∃ kb : ClassId, v = some (.ref bb) ∧ Fr n0 L ∧ Keep h0 h [] ∧ h0.size ≤ bb ∧ Arv Z h bb kb .byte (2 : Int32) [(.int (qB c0_)), (.int (qB c1_))] (.int 0)
set_option maxRecDepth 65536 in
set_option maxHeartbeats 40000000 in
theorem comp3_2 (l : Launch) (Z : State) (a0 : Array Value) (hw : ∀ d ∈ tables_1, d.before a0 Z = true) (ws : List Jvm.Cond) (ca : Addr) (kc : ClassId) (c0_ : Int32) (c1_ : Int32) (h0 : Heap) (n0 : Nat) (O0 : Old Z n0 h0) (P0 : Arv Z h0 ca kc .char (2 : Int32) [(.int c0_), (.int c1_)] (.int 0)) (hq0 : 0 ≤ c0_.toInt ∧ c0_.toInt ≤ 255) (hq1 : 0 ≤ c1_.toInt ∧ c1_.toInt ≤ 255) :
    MetFree l (⟨"java/lang/StringUTF16", "compress", "([CII)[B"⟩ : MethodName) (head1 (Jvm.Cond.code (⟨"java/lang/StringUTF16", "compress", "([CII)[B"⟩ : MethodName) jdk_52_method_16_code 6 (some (.array .byte)) :: ws) ({ frames := 1, cells := 1, slots := 2, locals := 18 } : Room)) (fun a U => a = #[(.ref ca), (.int 0), (.int 2)] ∧ Z.Warmed39 U.vm ∧ U.heap = h0) (fun _ _ _ _ _ => True) (fun _ U o U' => ∃ v L, o = .returned v ∧ Q_comp3_2 Z ca kc c0_ c1_ h0 n0 v U'.heap L ∧ FrameEnd U o U' L ({ frames := 1, cells := 1, slots := 2, locals := 18 } : Room).cells ({ frames := 1, cells := 1, slots := 2, locals := 18 } : Room).slots) := by
  refine MetFree.of_bodySF (plainFor_of_name pn_4) hisR ?_
  intro p e s m args below meth c s₁ Bd hml0 hP hK
  obtain ⟨rfl, hZ, hh⟩ := hP
  have hx := Bd.exec
  have hby := Bd.bytes
  have hml : c.maxLocals = 6 := hml0
  have hown : s.vm.findClass "java/lang/StringUTF16" = some m.cls := findClass_of_methodNamed Bd.named
  have hnm := (name_of_methodNamed Bd.named Bd.method).1
  have hlk := BodyLoose.notSynchronized Bd
  have X0 : Stand p l e ({ frames := 1, cells := 1, slots := 2, locals := 18 } : Room) s m #[(.ref ca), (.int 0), (.int 2)] below meth c s₁ [] 0 0 := Stand.of_body Bd
  have e0 : s₁.heap = h0 := by rw [← hh, Bd.state]; rfl
  have N0 := Fr.nil n0
  refine Go.start (P := fun o U' => ∃ v L, o = .returned v ∧ Q_comp3_2 Z ca kc c0_ c1_ h0 n0 v U'.heap L ∧ FrameEnd s o U' L ({ frames := 1, cells := 1, slots := 2, locals := 18 } : Room).cells ({ frames := 1, cells := 1, slots := 2, locals := 18 } : Room).slots) (ef_comp3_2 m ca) ?_
  show Go p e below _ (s₁.setTop (mkF m 0 #[.val (.ref ca), qI 0, qI 2, qU, qU, qU] []))
  refine Go.by (fun t k => XS.iloadN X0.here hx rfl (hb hby d12_0) rfl k) ?_
  show Go p e below _ (s₁.setTop (mkF m 1 #[.val (.ref ca), qI 0, qI 2, qU, qU, qU] [(.int 2)]))
  obtain ⟨T1, h1, k1, X1, e1, E1, A1, Q1, st1⟩ := newPE X0 hx hZ (hw _ (mg 13 rfl)) e0 (g := (mkF m 1 #[.val (.ref ca), qI 0, qI 2, qU, qU, qU] [(.int 2)])) rfl (hb hby d12_1) rfl (by decide) (cap := 2) (by decide) (by decide) (by decide) (by decide) (ad := "[B") (by decide)
  obtain ⟨b1, g1⟩ : ∃ z, z = h0.size := ⟨_, rfl⟩
  rw [← g1] at A1 Q1 st1
  have gl1 : h0.size ≤ b1 := Nat.le_of_eq g1.symm
  have ge1 : n0 ≤ b1 := Nat.le_trans (own_old_size O0) gl1
  have sz1 : h0.size ≤ b1 := Nat.le_trans (Keep.refl h0 []).1 gl1
  have ne2 : ca ≠ b1 := Nat.ne_of_lt (Nat.lt_of_lt_of_le P0.lt gl1)
  have F3 : Arv Z h1 b1 k1 .byte (2 : Int32) [(.int 0), (.int 0)] (.int 0) := (Arv.new A1 (by decide)).pad (pad_rep [] (.int 0) 2)
  refine Go.by st1 ?_
  show Go p e below _ (T1.setTop (mkF m 3 #[.val (.ref ca), qI 0, qI 2, qU, qU, qU] [(.ref b1)]))
  refine Go.by (fun t k => XS.astoreN X1.here hx rfl (hb hby d12_3) rfl rfl (l' := #[.val (.ref ca), qI 0, qI 2, .val (.ref b1), qU, qU]) rfl (XS.aloadN X1.here hx rfl (hb hby d12_4) rfl rfl (XS.iloadN X1.here hx rfl (hb hby d12_5) rfl (XS.aloadN X1.here hx rfl (hb hby d12_6) rfl rfl (XS.iconst X1.here hx rfl (hb hby d12_7) (XS.iloadN X1.here hx rfl (hb hby d12_8) rfl k)))))) ?_
  show Go p e below _ (T1.setTop (mkF m 9 #[.val (.ref ca), qI 0, qI 2, .val (.ref b1), qU, qU] [(.int 2), (.int 0), (.ref b1), (.int 0), (.ref ca)]))
  have F5 : Old Z n0 h1 := (O0.ext E1)
  have F6 : Arv Z h1 ca kc .char (2 : Int32) [(.int c0_), (.int c1_)] (.int 0) := (P0.ext E1)
  have F7 : Keep h0 h1 [] := ((Keep.refl h0 []).ext E1)
  obtain ⟨_, _, ⟨T4, L4, k4, n4⟩, -, X4, ⟨Lc4, hQ4, l4, y4, z4⟩, st4⟩ := Jvm.LawKit.callS X1 hx (y := (⟨"java/lang/StringUTF16", "compress", "([CI[BII)I"⟩ : MethodName)) hown (mvT hZ (hw _ (mg 62 rfl))) (mvT hZ (hw _ (mg 63 rfl))) (mvT hZ (hw _ (mg 60 rfl))) (mvT hZ (hw _ (mg 64 rfl))) (by decide) (backOf (W := 0) (comp5_2 l Z a0 hw [] ca b1 kc c0_ c1_ k1 h1 n0 F5 F6 F3 ge1 ne2 hq0 hq1) hZ (hw _ (mg 64 rfl)) (hw _ (mg 60 rfl)) (by decide) (by decide)) (g := (mkF m 9 #[.val (.ref ca), qI 0, qI 2, .val (.ref b1), qU, qU] [(.int 2), (.int 0), (.ref b1), (.int 0), (.ref ca)])) rfl (by rw [hml]; rfl) (argsL := [(.ref ca), (.int 0), (.ref b1), (.int 0), (.int 2)]) (rest := []) (lenOf pd_6 rfl) rfl (by show 2 * 0 + _ ≤ _; exact Nat.le_of_eq rfl) (hb hby d12_9) (fun _ _ => ⟨rfl, e1, (by decide : 1 + 0 ≤ _), (by decide : 2 + 0 ≤ _)⟩)
  dsimp only [Pt.U, Pt.locs, Pt.cells, Pt.slots] at X4 l4 y4 z4 st4 hQ4
  subst y4 z4
  obtain ⟨rfl, N4q, K4, F4_0⟩ := hQ4
  have N4 : Fr n0 L4 := by rw [l4]; exact Fr.app N0 N4q
  have X4 := own_mr X4 1 2 (by decide) (by decide)
  refine Go.by st4 ?_
  show Go p e below _ (T4.setTop (mkF m 12 #[.val (.ref ca), qI 0, qI 2, .val (.ref b1), qU, qU] [(.int 2)]))
  refine Go.by (fun t k => XS.istore X4.here hx rfl (hb hby d12_12) rfl (l' := #[.val (.ref ca), qI 0, qI 2, .val (.ref b1), qI 2, qU]) rfl (XS.iload X4.here hx rfl (hb hby d12_14) rfl (XS.iloadN X4.here hx rfl (hb hby d12_16) rfl (XS.icmpYes X4.here hx rfl (pc0 := 17) (pc' := 57) rfl (hb hby d12_17) rfl (teq rfl).1 (by decide) (by decide) (XS.aloadN X4.here hx rfl (hb hby d12_57) rfl rfl k))))) ?_
  show Go p e below _ (T4.setTop (mkF m 58 #[.val (.ref ca), qI 0, qI 2, .val (.ref b1), qI 2, qU] [(.ref b1)]))
  have F8 : Keep h0 T4.heap [] := (F7.trans K4 (allS (Or.inr sz1) all0))
  have hq : Q_comp3_2 Z ca kc c0_ c1_ h0 n0 (some (.ref b1)) T4.heap _ := ⟨b1, k1, rfl, N4, F8, sz1, F4_0⟩
  exact Go.retA X4 hx Bd.returns rfl rfl hlk (hb hby d12_58) (by decide) (by decide) hq
theorem ef_init4_2 (m : MethodId) (ob : Addr) (ca : Addr) : entryFrame m #[(.ref ob), (.ref ca), (.int (0 : Int32)), (.int (2 : Int32)), .null] 6 = mkF m 0 #[.val (.ref ob), .val (.ref ca), .val (.int (0 : Int32)), .val (.int (2 : Int32)), .val .null, .unset] [] := by first | (simp [entryFrame, mkF, argsToLocals, Value.category]; done) | rfl
def Q_init4_2 (Z : State) (ob : Addr) (ca : Addr) (kc : ClassId) (c0_ : Int32) (c1_ : Int32) (cs : Int32) (h0 : Heap) (n0 : Nat) (v : Option Value) (h : Heap) (L : List Loc) : Prop := ∃ xb : Addr, ∃ kb : ClassId, v = none ∧ Fr n0 L ∧ Keep h0 h [ob] ∧ h0.size ≤ xb ∧ Exa Z h ob "java/lang/String" ∧ Fld Z h ob "java/lang/String" "coder" "B" (.int 0) ∧ Fld Z h ob "java/lang/String" "value" "[B" (.ref xb) ∧ Arv Z h xb kb .byte (2 : Int32) [(.int (qB c0_)), (.int (qB c1_))] (.int 0)
set_option maxRecDepth 65536 in
set_option maxHeartbeats 40000000 in
theorem init4_2 (l : Launch) (Z : State) (a0 : Array Value) (hw : ∀ d ∈ tables_1, d.before a0 Z = true) (ws : List Jvm.Cond) (ob : Addr) (ca : Addr) (kc : ClassId) (c0_ : Int32) (c1_ : Int32) (cs : Int32) (h0 : Heap) (n0 : Nat) (O0 : Old Z n0 h0) (P0 : Exa Z h0 ob "java/lang/String") (P1 : Fld Z h0 ob "java/lang/String" "value" "[B" .null) (P2 : Fld Z h0 ob "java/lang/String" "coder" "B" (.int 0)) (P3 : Arv Z h0 ca kc .char (2 : Int32) [(.int c0_), (.int c1_)] (.int 0)) (P4 : Sta Z Z.heap "java/lang/String" "COMPACT_STRINGS" "Z" (.int cs)) (gob : n0 ≤ ob) (nco : ca ≠ ob) (hcs : cs ≠ (0 : Int32)) (hq0 : 0 ≤ c0_.toInt ∧ c0_.toInt ≤ 255) (hq1 : 0 ≤ c1_.toInt ∧ c1_.toInt ≤ 255) :
    MetFree l (⟨"java/lang/String", "<init>", "([CIILjava/lang/Void;)V"⟩ : MethodName) (head1 (Jvm.Cond.code (⟨"java/lang/String", "<init>", "([CIILjava/lang/Void;)V"⟩ : MethodName) jdk_42_method_149_code 6 none :: ws) ({ frames := 2, cells := 1, slots := 2, locals := 35 } : Room)) (fun a U => a = #[(.ref ob), (.ref ca), (.int 0), (.int 2), .null] ∧ Z.Warmed39 U.vm ∧ U.heap = h0) (fun _ _ _ _ _ => True) (fun _ U o U' => ∃ v L, o = .returned v ∧ Q_init4_2 Z ob ca kc c0_ c1_ cs h0 n0 v U'.heap L ∧ FrameEnd U o U' L ({ frames := 2, cells := 1, slots := 2, locals := 35 } : Room).cells ({ frames := 2, cells := 1, slots := 2, locals := 35 } : Room).slots) := by
  refine MetFree.of_bodySF (plainFor_of_name pn_1) hisR ?_
  intro p e s m args below meth c s₁ Bd hml0 hP hK
  obtain ⟨rfl, hZ, hh⟩ := hP
  have hx := Bd.exec
  have hby := Bd.bytes
  have hml : c.maxLocals = 6 := hml0
  have hown : s.vm.findClass "java/lang/String" = some m.cls := findClass_of_methodNamed Bd.named
  have hnm := (name_of_methodNamed Bd.named Bd.method).1
  have hlk := BodyLoose.notSynchronized Bd
  have X0 : Stand p l e ({ frames := 2, cells := 1, slots := 2, locals := 35 } : Room) s m #[(.ref ob), (.ref ca), (.int 0), (.int 2), .null] below meth c s₁ [] 0 0 := Stand.of_body Bd
  have e0 : s₁.heap = h0 := by rw [← hh, Bd.state]; rfl
  have N0 := Fr.nil n0
  refine Go.start (P := fun o U' => ∃ v L, o = .returned v ∧ Q_init4_2 Z ob ca kc c0_ c1_ cs h0 n0 v U'.heap L ∧ FrameEnd s o U' L ({ frames := 2, cells := 1, slots := 2, locals := 35 } : Room).cells ({ frames := 2, cells := 1, slots := 2, locals := 35 } : Room).slots) (ef_init4_2 m ob ca) ?_
  show Go p e below _ (s₁.setTop (mkF m 0 #[.val (.ref ob), .val (.ref ca), qI 0, qI 2, .val .null, qU] []))
  refine Go.by (fun t k => XS.aloadN X0.here hx rfl (hb hby d10_0) rfl rfl k) ?_
  show Go p e below _ (s₁.setTop (mkF m 1 #[.val (.ref ob), .val (.ref ca), qI 0, qI 2, .val .null, qU] [(.ref ob)]))
  obtain ⟨T1, X1, e1, st1⟩ := initO X0 hx hZ hown (hw _ (mg 55 rfl)) (hw _ (mg 56 rfl)) (hw _ (mg 57 rfl)) e0 (g := (mkF m 1 #[.val (.ref ob), .val (.ref ca), qI 0, qI 2, .val .null, qU] [(.ref ob)])) rfl (by rw [hml]; rfl) rfl (hb hby d10_1) (by decide) (W := 0) (by show 2 * 0 + _ ≤ _; exact Nat.le_of_eq rfl) (by decide)
  refine Go.by st1 ?_
  show Go p e below _ (T1.setTop (mkF m 4 #[.val (.ref ob), .val (.ref ca), qI 0, qI 2, .val .null, qU] []))
  refine Go.by (fun t k => XS.iloadN X1.here hx rfl (hb hby d10_4) rfl (XS.ifYes X1.here hx rfl (pc0 := 5) (pc' := 27) rfl (hb hby d10_5) rfl ((if0 _ _).trans (feq (by decide : ¬ ((2 : Int32) = (0 : Int32)))).2) (by decide) (by decide) k)) ?_
  show Go p e below _ (T1.setTop (mkF m 27 #[.val (.ref ob), .val (.ref ca), qI 0, qI 2, .val .null, qU] []))
  have F2 : Sta Z h0 "java/lang/String" "COMPACT_STRINGS" "Z" (.int cs) := P4.ext O0.2
  obtain ⟨T3, X3, e3, st3⟩ := getS2 X1 hx hZ hown (host := "") (Or.inl (hw _ (mg 28 rfl))) Via.refl e1 F2 (g := (mkF m 27 #[.val (.ref ob), .val (.ref ca), qI 0, qI 2, .val .null, qU] [])) rfl (hb hby d10_27)
  refine Go.by st3 ?_
  show Go p e below _ (T3.setTop (mkF m 30 #[.val (.ref ob), .val (.ref ca), qI 0, qI 2, .val .null, qU] [(.int cs)]))
  refine Go.by (fun t k => XS.ifNo X3.here hx rfl (hb hby d10_30) rfl ((if0 _ _).trans (feq hcs).1) (XS.aloadN X3.here hx rfl (hb hby d10_33) rfl rfl (XS.iloadN X3.here hx rfl (hb hby d10_34) rfl (XS.iloadN X3.here hx rfl (hb hby d10_35) rfl k)))) ?_
  show Go p e below _ (T3.setTop (mkF m 36 #[.val (.ref ob), .val (.ref ca), qI 0, qI 2, .val .null, qU] [(.int 2), (.int 0), (.ref ca)]))
  obtain ⟨_, _, ⟨T4, L4, k4, n4⟩, -, X4, ⟨Lc4, hQ4, l4, y4, z4⟩, st4⟩ := Jvm.LawKit.callS X3 hx (y := (⟨"java/lang/StringUTF16", "compress", "([CII)[B"⟩ : MethodName)) hown (mvT hZ (hw _ (mg 58 rfl))) (mvT hZ (hw _ (mg 59 rfl))) (mvT hZ (hw _ (mg 60 rfl))) (mvT hZ (hw _ (mg 61 rfl))) (by decide) (backOf (W := 0) (comp3_2 l Z a0 hw [] ca kc c0_ c1_ h0 n0 O0 P3 hq0 hq1) hZ (hw _ (mg 61 rfl)) (hw _ (mg 60 rfl)) (by decide) (by decide)) (g := (mkF m 36 #[.val (.ref ob), .val (.ref ca), qI 0, qI 2, .val .null, qU] [(.int 2), (.int 0), (.ref ca)])) rfl (by rw [hml]; rfl) (argsL := [(.ref ca), (.int 0), (.int 2)]) (rest := []) (lenOf pd_7 rfl) rfl (by show 2 * 0 + _ ≤ _; exact Nat.le_of_eq rfl) (hb hby d10_36) (fun _ _ => ⟨rfl, e3, (by decide : 0 + 1 ≤ _), (by decide : 0 + 2 ≤ _)⟩)
  dsimp only [Pt.U, Pt.locs, Pt.cells, Pt.slots] at X4 l4 y4 z4 st4 hQ4
  subst y4 z4
  obtain ⟨bb_4, kb_4, rfl, N4q, K4, fz4_bb, F4_0⟩ := hQ4
  have N4 : Fr n0 L4 := by rw [l4]; exact Fr.app N0 N4q
  have X4 := own_mr X4 1 2 (by decide) (by decide)
  have ge_bb_4 : n0 ≤ bb_4 := Nat.le_trans (own_old_size O0) fz4_bb
  have sz_bb_4 : h0.size ≤ bb_4 := Nat.le_trans (Keep.refl h0 [ob]).1 fz4_bb
  have ne5 : ob ≠ bb_4 := Nat.ne_of_lt (Nat.lt_of_lt_of_le P0.lt fz4_bb)
  have ne6 : ca ≠ bb_4 := Nat.ne_of_lt (Nat.lt_of_lt_of_le P3.lt fz4_bb)
  refine Go.by st4 ?_
  show Go p e below _ (T4.setTop (mkF m 39 #[.val (.ref ob), .val (.ref ca), qI 0, qI 2, .val .null, qU] [(.ref bb_4)]))
  refine Go.by (fun t k => XS.astore X4.here hx rfl (hb hby d10_39) rfl rfl (l' := #[.val (.ref ob), .val (.ref ca), qI 0, qI 2, .val .null, .val (.ref bb_4)]) rfl (XS.aloadN X4.here hx rfl (hb hby d10_41) rfl rfl (XS.aload X4.here hx rfl (hb hby d10_42) rfl rfl (XS.iloadN X4.here hx rfl (hb hby d10_44) rfl k)))) ?_
  show Go p e below _ (T4.setTop (mkF m 45 #[.val (.ref ob), .val (.ref ca), qI 0, qI 2, .val .null, .val (.ref bb_4)] [(.int 2), (.ref bb_4), (.ref ob)]))
  have F8 : Old Z n0 T4.heap := (O0.keep K4 all0)
  have F9 : Keep h0 T4.heap [ob] := ((Keep.refl h0 [ob]).trans K4 all0)
  obtain ⟨_, _, ⟨T7, L7, k7, n7⟩, -, X7, ⟨Lc7, hQ7, l7, y7, z7⟩, st7⟩ := Jvm.LawKit.callS X4 hx (y := (⟨"java/lang/StringUTF16", "coderFromArrayLen", "([BI)B"⟩ : MethodName)) hown (mvT hZ (hw _ (mg 65 rfl))) (mvT hZ (hw _ (mg 66 rfl))) (mvT hZ (hw _ (mg 60 rfl))) (mvT hZ (hw _ (mg 67 rfl))) (by decide) (backOf (W := 1) (coderLen_2 l Z a0 hw [] bb_4 kb_4 ([(.int (qB c0_)), (.int (qB c1_))]) T4.heap n0 F8 F4_0) hZ (hw _ (mg 67 rfl)) (hw _ (mg 60 rfl)) (by decide) (by decide)) (g := (mkF m 45 #[.val (.ref ob), .val (.ref ca), qI 0, qI 2, .val .null, .val (.ref bb_4)] [(.int 2), (.ref bb_4), (.ref ob)])) rfl (by rw [hml]; rfl) (argsL := [(.ref bb_4), (.int 2)]) (rest := [(.ref ob)]) (lenOf pd_8 rfl) rfl (by show 2 * 0 + _ ≤ _; exact Nat.le_of_eq rfl) (hb hby d10_45) (fun _ _ => ⟨rfl, rfl, (by decide : 1 + 0 ≤ _), (by decide : 2 + 0 ≤ _)⟩)
  dsimp only [Pt.U, Pt.locs, Pt.cells, Pt.slots] at X7 l7 y7 z7 st7 hQ7
  subst y7 z7
  obtain ⟨rfl, N7q, e7⟩ := hQ7
  have N7 : Fr n0 L7 := by rw [l7]; exact Fr.app N4 N7q
  have X7 := own_mr X7 1 2 (by decide) (by decide)
  refine Go.by st7 ?_
  show Go p e below _ (T7.setTop (mkF m 48 #[.val (.ref ob), .val (.ref ca), qI 0, qI 2, .val .null, .val (.ref bb_4)] [(.int 0), (.ref ob)]))
  have F10 : Fld Z T4.heap ob "java/lang/String" "coder" "B" (.int 0) := (P2.keep K4 nin0)
  have F11 : Exa Z T4.heap ob "java/lang/String" := (P0.keep K4)
  obtain ⟨T12, h12, X12, e12, W12, st12⟩ := putFN X7 hx hZ hown (hw _ (mg 29 rfl)) Via.refl e7 F10 F11 (Or.inr ⟨(hw _ (mg 15 rfl)), rfl, hnm⟩) (hw _ (mg 12 rfl)) (ty := .byte) (v' := (.int 0)) (by decide) rfl rfl (g := (mkF m 48 #[.val (.ref ob), .val (.ref ca), qI 0, qI 2, .val .null, .val (.ref bb_4)] [(.int 0), (.ref ob)])) rfl rfl (hb hby d10_48)
  have N12 := Fr.snoc X12 N7 gob
  have F13 : Fld Z h12 ob "java/lang/String" "coder" "B" (.int 0) := F10.same W12
  refine Go.by st12 ?_
  show Go p e below _ (T12.setTop (mkF m 51 #[.val (.ref ob), .val (.ref ca), qI 0, qI 2, .val .null, .val (.ref bb_4)] []))
  refine Go.by (fun t k => XS.aloadN X12.here hx rfl (hb hby d10_51) rfl rfl (XS.aload X12.here hx rfl (hb hby d10_52) rfl rfl k)) ?_
  show Go p e below _ (T12.setTop (mkF m 54 #[.val (.ref ob), .val (.ref ca), qI 0, qI 2, .val .null, .val (.ref bb_4)] [(.ref bb_4), (.ref ob)]))
  have F14 : Fld Z h12 ob "java/lang/String" "value" "[B" .null := ((P1.keep K4 nin0).other W12 (Or.inr (slot_ne (Or.inr (hw _ (mg 14 rfl))) (Or.inr (hw _ (mg 15 rfl))) (by decide) (t := (.array .byte)) (t' := .byte) (by decide) (by decide))))
  have F15 : Exa Z h12 ob "java/lang/String" := (F11.wr W12)
  obtain ⟨T16, h16, X16, e16, W16, st16⟩ := putF X12 hx hZ hown (host := "") (Or.inl (hw _ (mg 30 rfl))) Via.refl e12 F14 F15 (Or.inr ⟨(hw _ (mg 14 rfl)), rfl, hnm⟩) (hw _ (mg 12 rfl)) (ty := (.array .byte)) (by decide) rfl rfl (g := (mkF m 54 #[.val (.ref ob), .val (.ref ca), qI 0, qI 2, .val .null, .val (.ref bb_4)] [(.ref bb_4), (.ref ob)])) rfl rfl (hb hby d10_54)
  have N16 := Fr.snoc X16 N12 gob
  have F17 : Fld Z h16 ob "java/lang/String" "value" "[B" (.ref bb_4) := F14.same W16
  refine Go.by st16 ?_
  show Go p e below _ (T16.setTop (mkF m 57 #[.val (.ref ob), .val (.ref ca), qI 0, qI 2, .val .null, .val (.ref bb_4)] []))
  have F18 : Keep h0 h16 [ob] := ((F9.wr W12 (Or.inl (List.mem_of_getElem? (i := 0) rfl))).wr W16 (Or.inl (List.mem_of_getElem? (i := 0) rfl)))
  have F19 : Exa Z h16 ob "java/lang/String" := (F15.wr W16)
  have F20 : Fld Z h16 ob "java/lang/String" "coder" "B" (.int 0) := (F13.other W16 (Or.inr (slot_ne (Or.inr (hw _ (mg 15 rfl))) (Or.inr (hw _ (mg 14 rfl))) (by decide) (t := .byte) (t' := (.array .byte)) (by decide) (by decide))))
  have F21 : Arv Z h16 bb_4 kb_4 .byte (2 : Int32) [(.int (qB c0_)), (.int (qB c1_))] (.int 0) := ((F4_0.other W12 (Ne.symm ne5)).other W16 (Ne.symm ne5))
  have hq : Q_init4_2 Z ob ca kc c0_ c1_ cs h0 n0 none h16 _ := ⟨bb_4, kb_4, rfl, N16, F18, sz_bb_4, F19, F20, F17, F21⟩
  exact Go.ret0 X16 hx Bd.returns hlk (hb hby d10_57) (by decide) (by decide) (by rw [e16]; exact hq)
theorem ef_init1_2 (m : MethodId) (ob : Addr) (ca : Addr) : entryFrame m #[(.ref ob), (.ref ca)] 2 = mkF m 0 #[.val (.ref ob), .val (.ref ca)] [] := by first | (simp [entryFrame, mkF, argsToLocals, Value.category]; done) | rfl
def Q_init1_2 (Z : State) (ob : Addr) (ca : Addr) (kc : ClassId) (c0_ : Int32) (c1_ : Int32) (cs : Int32) (h0 : Heap) (n0 : Nat) (v : Option Value) (h : Heap) (L : List Loc) : Prop := ∃ xb : Addr, ∃ kb : ClassId, v = none ∧ Fr n0 L ∧ Keep h0 h [ob] ∧ h0.size ≤ xb ∧ Exa Z h ob "java/lang/String" ∧ Fld Z h ob "java/lang/String" "coder" "B" (.int 0) ∧ Fld Z h ob "java/lang/String" "value" "[B" (.ref xb) ∧ Arv Z h xb kb .byte (2 : Int32) [(.int (qB c0_)), (.int (qB c1_))] (.int 0)
set_option maxRecDepth 65536 in
set_option maxHeartbeats 40000000 in
theorem init1_2 (l : Launch) (Z : State) (a0 : Array Value) (hw : ∀ d ∈ tables_1, d.before a0 Z = true) (ws : List Jvm.Cond) (ob : Addr) (ca : Addr) (kc : ClassId) (c0_ : Int32) (c1_ : Int32) (cs : Int32) (h0 : Heap) (n0 : Nat) (O0 : Old Z n0 h0) (P0 : Exa Z h0 ob "java/lang/String") (P1 : Fld Z h0 ob "java/lang/String" "value" "[B" .null) (P2 : Fld Z h0 ob "java/lang/String" "coder" "B" (.int 0)) (P3 : Arv Z h0 ca kc .char (2 : Int32) [(.int c0_), (.int c1_)] (.int 0)) (P4 : Sta Z Z.heap "java/lang/String" "COMPACT_STRINGS" "Z" (.int cs)) (gob : n0 ≤ ob) (nco : ca ≠ ob) (hcs : cs ≠ (0 : Int32)) (hq0 : 0 ≤ c0_.toInt ∧ c0_.toInt ≤ 255) (hq1 : 0 ≤ c1_.toInt ∧ c1_.toInt ≤ 255) :
    MetFree l (⟨"java/lang/String", "<init>", "([C)V"⟩ : MethodName) (head1 (Jvm.Cond.code (⟨"java/lang/String", "<init>", "([C)V"⟩ : MethodName) jdk_42_method_3_code 2 none :: ws) ({ frames := 3, cells := 1, slots := 2, locals := 52 } : Room)) (fun a U => a = #[(.ref ob), (.ref ca)] ∧ Z.Warmed39 U.vm ∧ U.heap = h0) (fun _ _ _ _ _ => True) (fun _ U o U' => ∃ v L, o = .returned v ∧ Q_init1_2 Z ob ca kc c0_ c1_ cs h0 n0 v U'.heap L ∧ FrameEnd U o U' L ({ frames := 3, cells := 1, slots := 2, locals := 52 } : Room).cells ({ frames := 3, cells := 1, slots := 2, locals := 52 } : Room).slots) := by
  refine MetFree.of_bodySF (plainFor_of_name pn_1) hisR ?_
  intro p e s m args below meth c s₁ Bd hml0 hP hK
  obtain ⟨rfl, hZ, hh⟩ := hP
  have hx := Bd.exec
  have hby := Bd.bytes
  have hml : c.maxLocals = 2 := hml0
  have hown : s.vm.findClass "java/lang/String" = some m.cls := findClass_of_methodNamed Bd.named
  have hnm := (name_of_methodNamed Bd.named Bd.method).1
  have hlk := BodyLoose.notSynchronized Bd
  have X0 : Stand p l e ({ frames := 3, cells := 1, slots := 2, locals := 52 } : Room) s m #[(.ref ob), (.ref ca)] below meth c s₁ [] 0 0 := Stand.of_body Bd
  have e0 : s₁.heap = h0 := by rw [← hh, Bd.state]; rfl
  have N0 := Fr.nil n0
  refine Go.start (P := fun o U' => ∃ v L, o = .returned v ∧ Q_init1_2 Z ob ca kc c0_ c1_ cs h0 n0 v U'.heap L ∧ FrameEnd s o U' L ({ frames := 3, cells := 1, slots := 2, locals := 52 } : Room).cells ({ frames := 3, cells := 1, slots := 2, locals := 52 } : Room).slots) (ef_init1_2 m ob ca) ?_
  show Go p e below _ (s₁.setTop (mkF m 0 #[.val (.ref ob), .val (.ref ca)] []))
  refine Go.by (fun t k => XS.aloadN X0.here hx rfl (hb hby d9_0) rfl rfl (XS.aloadN X0.here hx rfl (hb hby d9_1) rfl rfl (XS.iconst X0.here hx rfl (hb hby d9_2) (XS.aloadN X0.here hx rfl (hb hby d9_3) rfl rfl k)))) ?_
  show Go p e below _ (s₁.setTop (mkF m 4 #[.val (.ref ob), .val (.ref ca)] [(.ref ca), (.int 0), (.ref ca), (.ref ob)]))
  obtain ⟨cl1, Ar1, qk1, sz1, nn1, Ha1, Gf1⟩ := id P3
  have hl1 : cl1.slots.size.toInt32 = (2 : Int32) := len_of sz1 nn1
  refine Go.by (fun t k => X0.arraylength hx (by rw [e0]; exact Ar1.1) (State.isArrayOf_alike hZ.alike Ar1.2.1) (g := (mkF m 4 #[.val (.ref ob), .val (.ref ca)] [(.ref ca), (.int 0), (.ref ca), (.ref ob)])) rfl rfl (hb hby d9_4) t (by rw [hl1]; exact k)) ?_
  show Go p e below _ (s₁.setTop (mkF m 5 #[.val (.ref ob), .val (.ref ca)] [(.int 2), (.int 0), (.ref ca), (.ref ob)]))
  refine Go.by (fun t k => XS.aconstNull X0.here hx rfl (hb hby d9_5) k) ?_
  show Go p e below _ (s₁.setTop (mkF m 6 #[.val (.ref ob), .val (.ref ca)] [.null, (.int 2), (.int 0), (.ref ca), (.ref ob)]))
  obtain ⟨_, _, ⟨T2, L2, k2, n2⟩, -, X2, ⟨Lc2, hQ2, l2, y2, z2⟩, st2⟩ := X0.specialBack hx (y := (⟨"java/lang/String", "<init>", "([CIILjava/lang/Void;)V"⟩ : MethodName)) rfl hown (mvT hZ (hw _ (mg 51 rfl))) (mvT hZ (hw _ (mg 52 rfl))) (mvT hZ (hw _ (mg 54 rfl))) (by decide) (backOf (W := 0) (init4_2 l Z a0 hw [] ob ca kc c0_ c1_ cs h0 n0 O0 P0 P1 P2 P3 P4 gob nco hcs hq0 hq1) hZ (hw _ (mg 54 rfl)) (hw _ (mg 11 rfl)) (by decide) (by decide)) (g := (mkF m 6 #[.val (.ref ob), .val (.ref ca)] [.null, (.int 2), (.int 0), (.ref ca), (.ref ob)])) rfl (by rw [hml]; rfl) (Steps.refl _) (a := ob) (argsL := [(.ref ca), (.int 0), (.int 2), .null]) (rest := []) (lenOf pd_9 rfl) rfl (by show 2 * 0 + _ ≤ _; exact Nat.le_of_eq rfl) (hb hby d9_6) (fun _ _ => ⟨rfl, e0, (by decide : 0 + 1 ≤ _), (by decide : 0 + 2 ≤ _)⟩)
  dsimp only [Pt.U, Pt.locs, Pt.cells, Pt.slots] at X2 l2 y2 z2 st2 hQ2
  subst y2 z2
  obtain ⟨xb_2, kb_2, rfl, N2q, K2, fz2_xb, F2_0, F2_1, F2_2, F2_3⟩ := hQ2
  have N2 : Fr n0 L2 := by rw [l2]; exact Fr.app N0 N2q
  have X2 := own_mr X2 1 2 (by decide) (by decide)
  have ge_xb_2 : n0 ≤ xb_2 := Nat.le_trans (own_old_size O0) fz2_xb
  have sz_xb_2 : h0.size ≤ xb_2 := Nat.le_trans (Keep.refl h0 [ob]).1 fz2_xb
  have ne3 : ob ≠ xb_2 := Nat.ne_of_lt (Nat.lt_of_lt_of_le P0.lt fz2_xb)
  have ne4 : ca ≠ xb_2 := Nat.ne_of_lt (Nat.lt_of_lt_of_le P3.lt fz2_xb)
  refine Go.tr st2 ?_
  show Go p e below _ (T2.setTop (mkF m 9 #[.val (.ref ob), .val (.ref ca)] []))
  have F5 : Keep h0 T2.heap [ob] := ((Keep.refl h0 [ob]).trans K2 (allS (Or.inl (List.mem_of_getElem? (i := 0) rfl)) all0))
  have hq : Q_init1_2 Z ob ca kc c0_ c1_ cs h0 n0 none T2.heap _ := ⟨xb_2, kb_2, rfl, N2, F5, sz_xb_2, F2_0, F2_1, F2_2, F2_3⟩
  exact Go.ret0 X2 hx Bd.returns hlk (hb hby d9_9) (by decide) (by decide) hq
theorem ef_coderLen_4 (m : MethodId) (xa : Addr) : entryFrame m #[(.ref xa), (.int (4 : Int32))] 2 = mkF m 0 #[.val (.ref xa), .val (.int (4 : Int32))] [] := by first | (simp [entryFrame, mkF, argsToLocals, Value.category]; done) | rfl
def Q_coderLen_4 (Z : State) (xa : Addr) (ka : ClassId) (vs : List Value) (h0 : Heap) (n0 : Nat) (v : Option Value) (h : Heap) (L : List Loc) : Prop := v = some (.int 0) ∧ Fr n0 L ∧ h = h0
set_option maxRecDepth 65536 in
set_option maxHeartbeats 40000000 in
theorem coderLen_4 (l : Launch) (Z : State) (a0 : Array Value) (hw : ∀ d ∈ tables_1, d.before a0 Z = true) (ws : List Jvm.Cond) (xa : Addr) (ka : ClassId) (vs : List Value) (h0 : Heap) (n0 : Nat) (O0 : Old Z n0 h0) (P0 : Arv Z h0 xa ka .byte (4 : Int32) vs (.int 0)) :
    MetFree l (⟨"java/lang/StringUTF16", "coderFromArrayLen", "([BI)B"⟩ : MethodName) (head1 (Jvm.Cond.code (⟨"java/lang/StringUTF16", "coderFromArrayLen", "([BI)B"⟩ : MethodName) jdk_52_method_15_code 2 (some .byte) :: ws) ({ frames := 0, cells := 0, slots := 0, locals := 0 } : Room)) (fun a U => a = #[(.ref xa), (.int 4)] ∧ Z.Warmed39 U.vm ∧ U.heap = h0) (fun _ _ _ _ _ => True) (fun _ U o U' => ∃ v L, o = .returned v ∧ Q_coderLen_4 Z xa ka vs h0 n0 v U'.heap L ∧ FrameEnd U o U' L ({ frames := 0, cells := 0, slots := 0, locals := 0 } : Room).cells ({ frames := 0, cells := 0, slots := 0, locals := 0 } : Room).slots) := by
  refine MetFree.of_bodySF (plainFor_of_name pn_4) hisR ?_
  intro p e s m args below meth c s₁ Bd hml0 hP hK
  obtain ⟨rfl, hZ, hh⟩ := hP
  have hx := Bd.exec
  have hby := Bd.bytes
  have hml : c.maxLocals = 2 := hml0
  have hown : s.vm.findClass "java/lang/StringUTF16" = some m.cls := findClass_of_methodNamed Bd.named
  have hnm := (name_of_methodNamed Bd.named Bd.method).1
  have hlk := BodyLoose.notSynchronized Bd
  have X0 : Stand p l e ({ frames := 0, cells := 0, slots := 0, locals := 0 } : Room) s m #[(.ref xa), (.int 4)] below meth c s₁ [] 0 0 := Stand.of_body Bd
  have e0 : s₁.heap = h0 := by rw [← hh, Bd.state]; rfl
  have N0 := Fr.nil n0
  refine Go.start (P := fun o U' => ∃ v L, o = .returned v ∧ Q_coderLen_4 Z xa ka vs h0 n0 v U'.heap L ∧ FrameEnd s o U' L ({ frames := 0, cells := 0, slots := 0, locals := 0 } : Room).cells ({ frames := 0, cells := 0, slots := 0, locals := 0 } : Room).slots) (ef_coderLen_4 m xa) ?_
  show Go p e below _ (s₁.setTop (mkF m 0 #[.val (.ref xa), qI 4] []))
  refine Go.by (fun t k => XS.iloadN X0.here hx rfl (hb hby d14_0) rfl (XS.aloadN X0.here hx rfl (hb hby d14_1) rfl rfl k)) ?_
  show Go p e below _ (s₁.setTop (mkF m 2 #[.val (.ref xa), qI 4] [(.ref xa), (.int 4)]))
  obtain ⟨cl1, Ar1, qk1, sz1, nn1, Ha1, Gf1⟩ := id P0
  have hl1 : cl1.slots.size.toInt32 = (4 : Int32) := len_of sz1 nn1
  refine Go.by (fun t k => X0.arraylength hx (by rw [e0]; exact Ar1.1) (State.isArrayOf_alike hZ.alike Ar1.2.1) (g := (mkF m 2 #[.val (.ref xa), qI 4] [(.ref xa), (.int 4)])) rfl rfl (hb hby d14_2) t (by rw [hl1]; exact k)) ?_
  show Go p e below _ (s₁.setTop (mkF m 3 #[.val (.ref xa), qI 4] [(.int 4), (.int 4)]))
  refine Go.by (fun t k => XS.isub X0.here hx rfl (hb hby d14_3) rfl (XS.bipush X0.here hx rfl (hb hby d14_4) (XS.iushr X0.here hx rfl (hb hby d14_6) rfl (XS.i2b X0.here hx rfl (hb hby d14_7) rfl k)))) ?_
  show Go p e below _ (s₁.setTop (mkF m 8 #[.val (.ref xa), qI 4] [(.int ((((0 : Int32).toUInt32 >>> ((31 : Int32) &&& 31).toUInt32).toInt32).toInt8.toInt32))]))
  have hq : Q_coderLen_4 Z xa ka vs h0 n0 (some (.int (nar .byte ((((0 : Int32).toUInt32 >>> ((31 : Int32) &&& 31).toUInt32).toInt32).toInt8.toInt32)))) h0 _ := ⟨rfl, N0, rfl⟩
  exact Go.retN X0 hx (t := .byte) Bd.returns (by simp) hlk (hb hby d14_8) (by decide) (by decide) (by rw [e0]; exact hq)
theorem ef_comp5_4 (m : MethodId) (ca : Addr) (ba : Addr) : entryFrame m #[(.ref ca), (.int (0 : Int32)), (.ref ba), (.int (0 : Int32)), (.int (4 : Int32))] 7 = mkF m 0 #[.val (.ref ca), .val (.int (0 : Int32)), .val (.ref ba), .val (.int (0 : Int32)), .val (.int (4 : Int32)), .unset, .unset] [] := by first | (simp [entryFrame, mkF, argsToLocals, Value.category]; done) | rfl
def Q_comp5_4 (Z : State) (ca : Addr) (ba : Addr) (kc : ClassId) (c0_ : Int32) (c1_ : Int32) (c2_ : Int32) (c3_ : Int32) (kb : ClassId) (h0 : Heap) (n0 : Nat) (v : Option Value) (h : Heap) (L : List Loc) : Prop := v = some (.int 4) ∧ Fr n0 L ∧ Keep h0 h [ba] ∧ Arv Z h ba kb .byte (4 : Int32) [(.int (qB c0_)), (.int (qB c1_)), (.int (qB c2_)), (.int (qB c3_))] (.int 0)
set_option maxRecDepth 65536 in
set_option maxHeartbeats 40000000 in
theorem comp5_4 (l : Launch) (Z : State) (a0 : Array Value) (hw : ∀ d ∈ tables_1, d.before a0 Z = true) (ws : List Jvm.Cond) (ca : Addr) (ba : Addr) (kc : ClassId) (c0_ : Int32) (c1_ : Int32) (c2_ : Int32) (c3_ : Int32) (kb : ClassId) (h0 : Heap) (n0 : Nat) (O0 : Old Z n0 h0) (P0 : Arv Z h0 ca kc .char (4 : Int32) [(.int c0_), (.int c1_), (.int c2_), (.int c3_)] (.int 0)) (P1 : Arv Z h0 ba kb .byte (4 : Int32) [(.int 0), (.int 0), (.int 0), (.int 0)] (.int 0)) (gba : n0 ≤ ba) (ncb : ca ≠ ba) (hq0 : 0 ≤ c0_.toInt ∧ c0_.toInt ≤ 255) (hq1 : 0 ≤ c1_.toInt ∧ c1_.toInt ≤ 255) (hq2 : 0 ≤ c2_.toInt ∧ c2_.toInt ≤ 255) (hq3 : 0 ≤ c3_.toInt ∧ c3_.toInt ≤ 255) :
    MetFree l (⟨"java/lang/StringUTF16", "compress", "([CI[BII)I"⟩ : MethodName) (head1 (Jvm.Cond.code (⟨"java/lang/StringUTF16", "compress", "([CI[BII)I"⟩ : MethodName) jdk_52_method_21_code 7 (some .int) :: ws) ({ frames := 0, cells := 0, slots := 0, locals := 0 } : Room)) (fun a U => a = #[(.ref ca), (.int 0), (.ref ba), (.int 0), (.int 4)] ∧ Z.Warmed39 U.vm ∧ U.heap = h0) (fun _ _ _ _ _ => True) (fun _ U o U' => ∃ v L, o = .returned v ∧ Q_comp5_4 Z ca ba kc c0_ c1_ c2_ c3_ kb h0 n0 v U'.heap L ∧ FrameEnd U o U' L ({ frames := 0, cells := 0, slots := 0, locals := 0 } : Room).cells ({ frames := 0, cells := 0, slots := 0, locals := 0 } : Room).slots) := by
  refine MetFree.of_bodySF (plainFor_of_name pn_4) hisR ?_
  intro p e s m args below meth c s₁ Bd hml0 hP hK
  obtain ⟨rfl, hZ, hh⟩ := hP
  have hx := Bd.exec
  have hby := Bd.bytes
  have hml : c.maxLocals = 7 := hml0
  have hown : s.vm.findClass "java/lang/StringUTF16" = some m.cls := findClass_of_methodNamed Bd.named
  have hnm := (name_of_methodNamed Bd.named Bd.method).1
  have hlk := BodyLoose.notSynchronized Bd
  have X0 : Stand p l e ({ frames := 0, cells := 0, slots := 0, locals := 0 } : Room) s m #[(.ref ca), (.int 0), (.ref ba), (.int 0), (.int 4)] below meth c s₁ [] 0 0 := Stand.of_body Bd
  have e0 : s₁.heap = h0 := by rw [← hh, Bd.state]; rfl
  have N0 := Fr.nil n0
  refine Go.start (P := fun o U' => ∃ v L, o = .returned v ∧ Q_comp5_4 Z ca ba kc c0_ c1_ c2_ c3_ kb h0 n0 v U'.heap L ∧ FrameEnd s o U' L ({ frames := 0, cells := 0, slots := 0, locals := 0 } : Room).cells ({ frames := 0, cells := 0, slots := 0, locals := 0 } : Room).slots) (ef_comp5_4 m ca ba) ?_
  show Go p e below _ (s₁.setTop (mkF m 0 #[.val (.ref ca), qI 0, .val (.ref ba), qI 0, qI 4, qU, qU] []))
  refine Go.by (fun t k => XS.iconst X0.here hx rfl (hb hby d13_0) (XS.istore X0.here hx rfl (hb hby d13_1) rfl (l' := #[.val (.ref ca), qI 0, .val (.ref ba), qI 0, qI 4, qI 0, qU]) rfl (XS.iload X0.here hx rfl (hb hby d13_3) rfl (XS.iload X0.here hx rfl (hb hby d13_5) rfl (XS.icmpNo X0.here hx rfl (hb hby d13_7) rfl (tlt (by decide : (0 : Int32) < (4 : Int32))).2.1 (XS.aloadN X0.here hx rfl (hb hby d13_10) rfl rfl (XS.iloadN X0.here hx rfl (hb hby d13_11) rfl k))))))) ?_
  show Go p e below _ (s₁.setTop (mkF m 12 #[.val (.ref ca), qI 0, .val (.ref ba), qI 0, qI 4, qI 0, qU] [(.int 0), (.ref ca)]))
  obtain ⟨cl1, Ar1, qk1, sz1, nn1, Ha1, Gf1⟩ := id P0
  have hin2 : ¬ ((0 : Int32) < 0 ∨ cl1.slots.size ≤ ((0 : Int32)).toNatClampNeg) := inb_of sz1 ⟨by decide, by decide⟩
  have hat3 : cl1.slots[((0 : Int32)).toNatClampNeg]? = some (.int c0_) := Has.at Ha1 hin2 rfl
  refine Go.by (fun t k => X0.caload hx (j := (0 : Int32)) (v := (.int c0_)) (by rw [e0]; exact Ar1.1) (State.isArrayOf_alike hZ.alike Ar1.2.1) Ar1.2.2 hin2 hat3 (g := (mkF m 12 #[.val (.ref ca), qI 0, .val (.ref ba), qI 0, qI 4, qI 0, qU] [(.int 0), (.ref ca)])) rfl rfl (hb hby d13_12) t k) ?_
  show Go p e below _ (s₁.setTop (mkF m 13 #[.val (.ref ca), qI 0, .val (.ref ba), qI 0, qI 4, qI 0, qU] [(.int c0_)]))
  refine Go.by (fun t k => XS.istore X0.here hx rfl (hb hby d13_13) rfl (l' := #[.val (.ref ca), qI 0, .val (.ref ba), qI 0, qI 4, qI 0, qI c0_]) rfl (XS.iload X0.here hx rfl (hb hby d13_15) rfl (XS.sipush X0.here hx rfl (hb hby d13_17) (XS.icmpYes X0.here hx rfl (pc0 := 20) (pc' := 26) rfl (hb hby d13_20) rfl (flt (own_nle hq0)).2.2.2 (by decide) (by decide) (XS.aloadN X0.here hx rfl (hb hby d13_26) rfl rfl (XS.iloadN X0.here hx rfl (hb hby d13_27) rfl (XS.iload X0.here hx rfl (hb hby d13_28) rfl (XS.i2b X0.here hx rfl (hb hby d13_30) rfl k)))))))) ?_
  show Go p e below _ (s₁.setTop (mkF m 31 #[.val (.ref ca), qI 0, .val (.ref ba), qI 0, qI 4, qI 0, qI c0_] [(.int (c0_.toInt8.toInt32)), (.int 0), (.ref ba)]))
  obtain ⟨cl4, Ar4, qk4, sz4, nn4, Ha4, Gf4⟩ := id P1
  have hin5 : ¬ ((0 : Int32) < 0 ∨ cl4.slots.size ≤ ((0 : Int32)).toNatClampNeg) := inb_of sz4 ⟨by decide, by decide⟩
  obtain ⟨T6, h6, X6, e6, W6, st6⟩ := stB X0 hx hZ e0 Ar4 (j := (0 : Int32)) hin5 (g := (mkF m 31 #[.val (.ref ca), qI 0, .val (.ref ba), qI 0, qI 4, qI 0, qI c0_] [(.int (c0_.toInt8.toInt32)), (.int 0), (.ref ba)])) rfl rfl (hb hby d13_31)
  have N6 := Fr.snoc X6 N0 gba
  have F7 : Arv Z h6 ba kb .byte (4 : Int32) [(.int (qB c0_)), (.int 0), (.int 0), (.int 0)] (.int 0) := Arv.set Ar4 qk4 sz4 nn4 Ha4 Gf4 (fits_nar_byte _) W6 0 rfl (Nat.le_of_ble_eq_true rfl)
  refine Go.by st6 ?_
  show Go p e below _ (T6.setTop (mkF m 32 #[.val (.ref ca), qI 0, .val (.ref ba), qI 0, qI 4, qI 0, qI c0_] []))
  refine Go.by (fun t k => XS.iinc X6.here hx rfl (hb hby d13_32) rfl (l' := #[.val (.ref ca), qI 1, .val (.ref ba), qI 0, qI 4, qI 0, qI c0_]) rfl (XS.iinc X6.here hx rfl (hb hby d13_35) rfl (l' := #[.val (.ref ca), qI 1, .val (.ref ba), qI 1, qI 4, qI 0, qI c0_]) rfl (XS.iinc X6.here hx rfl (hb hby d13_38) rfl (l' := #[.val (.ref ca), qI 1, .val (.ref ba), qI 1, qI 4, qI 1, qI c0_]) rfl (XS.goto X6.here hx rfl (pc0 := 41) (pc' := 3) rfl (hb hby d13_41) (by decide) (by decide) (XS.iload X6.here hx rfl (hb hby d13_3) rfl (XS.iload X6.here hx rfl (hb hby d13_5) rfl (XS.icmpNo X6.here hx rfl (hb hby d13_7) rfl (tlt (by decide : (1 : Int32) < (4 : Int32))).2.1 (XS.aloadN X6.here hx rfl (hb hby d13_10) rfl rfl k)))))))) ?_
  show Go p e below _ (T6.setTop (mkF m 11 #[.val (.ref ca), qI 1, .val (.ref ba), qI 1, qI 4, qI 1, qI c0_] [(.ref ca)]))
  refine Go.by (fun t k => XS.iloadN X6.here hx rfl (hb hby d13_11) rfl k) ?_
  show Go p e below _ (T6.setTop (mkF m 12 #[.val (.ref ca), qI 1, .val (.ref ba), qI 1, qI 4, qI 1, qI c0_] [(.int 1), (.ref ca)]))
  have F8 : Arv Z h6 ca kc .char (4 : Int32) [(.int c0_), (.int c1_), (.int c2_), (.int c3_)] (.int 0) := (P0.other W6 ncb)
  obtain ⟨cl9, Ar9, qk9, sz9, nn9, Ha9, Gf9⟩ := id F8
  have hin10 : ¬ ((1 : Int32) < 0 ∨ cl9.slots.size ≤ ((1 : Int32)).toNatClampNeg) := inb_of sz9 ⟨by decide, by decide⟩
  have hat11 : cl9.slots[((1 : Int32)).toNatClampNeg]? = some (.int c1_) := Has.at Ha9 hin10 rfl
  refine Go.by (fun t k => X6.caload hx (j := (1 : Int32)) (v := (.int c1_)) (by rw [e6]; exact Ar9.1) (State.isArrayOf_alike hZ.alike Ar9.2.1) Ar9.2.2 hin10 hat11 (g := (mkF m 12 #[.val (.ref ca), qI 1, .val (.ref ba), qI 1, qI 4, qI 1, qI c0_] [(.int 1), (.ref ca)])) rfl rfl (hb hby d13_12) t k) ?_
  show Go p e below _ (T6.setTop (mkF m 13 #[.val (.ref ca), qI 1, .val (.ref ba), qI 1, qI 4, qI 1, qI c0_] [(.int c1_)]))
  refine Go.by (fun t k => XS.istore X6.here hx rfl (hb hby d13_13) rfl (l' := #[.val (.ref ca), qI 1, .val (.ref ba), qI 1, qI 4, qI 1, qI c1_]) rfl (XS.iload X6.here hx rfl (hb hby d13_15) rfl (XS.sipush X6.here hx rfl (hb hby d13_17) (XS.icmpYes X6.here hx rfl (pc0 := 20) (pc' := 26) rfl (hb hby d13_20) rfl (flt (own_nle hq1)).2.2.2 (by decide) (by decide) (XS.aloadN X6.here hx rfl (hb hby d13_26) rfl rfl (XS.iloadN X6.here hx rfl (hb hby d13_27) rfl (XS.iload X6.here hx rfl (hb hby d13_28) rfl (XS.i2b X6.here hx rfl (hb hby d13_30) rfl k)))))))) ?_
  show Go p e below _ (T6.setTop (mkF m 31 #[.val (.ref ca), qI 1, .val (.ref ba), qI 1, qI 4, qI 1, qI c1_] [(.int (c1_.toInt8.toInt32)), (.int 1), (.ref ba)]))
  obtain ⟨cl12, Ar12, qk12, sz12, nn12, Ha12, Gf12⟩ := id F7
  have hin13 : ¬ ((1 : Int32) < 0 ∨ cl12.slots.size ≤ ((1 : Int32)).toNatClampNeg) := inb_of sz12 ⟨by decide, by decide⟩
  obtain ⟨T14, h14, X14, e14, W14, st14⟩ := stB X6 hx hZ e6 Ar12 (j := (1 : Int32)) hin13 (g := (mkF m 31 #[.val (.ref ca), qI 1, .val (.ref ba), qI 1, qI 4, qI 1, qI c1_] [(.int (c1_.toInt8.toInt32)), (.int 1), (.ref ba)])) rfl rfl (hb hby d13_31)
  have N14 := Fr.snoc X14 N6 gba
  have F15 : Arv Z h14 ba kb .byte (4 : Int32) [(.int (qB c0_)), (.int (qB c1_)), (.int 0), (.int 0)] (.int 0) := Arv.set Ar12 qk12 sz12 nn12 Ha12 Gf12 (fits_nar_byte _) W14 1 rfl (Nat.le_of_ble_eq_true rfl)
  refine Go.by st14 ?_
  show Go p e below _ (T14.setTop (mkF m 32 #[.val (.ref ca), qI 1, .val (.ref ba), qI 1, qI 4, qI 1, qI c1_] []))
  refine Go.by (fun t k => XS.iinc X14.here hx rfl (hb hby d13_32) rfl (l' := #[.val (.ref ca), qI 2, .val (.ref ba), qI 1, qI 4, qI 1, qI c1_]) rfl (XS.iinc X14.here hx rfl (hb hby d13_35) rfl (l' := #[.val (.ref ca), qI 2, .val (.ref ba), qI 2, qI 4, qI 1, qI c1_]) rfl (XS.iinc X14.here hx rfl (hb hby d13_38) rfl (l' := #[.val (.ref ca), qI 2, .val (.ref ba), qI 2, qI 4, qI 2, qI c1_]) rfl (XS.goto X14.here hx rfl (pc0 := 41) (pc' := 3) rfl (hb hby d13_41) (by decide) (by decide) (XS.iload X14.here hx rfl (hb hby d13_3) rfl (XS.iload X14.here hx rfl (hb hby d13_5) rfl (XS.icmpNo X14.here hx rfl (hb hby d13_7) rfl (tlt (by decide : (2 : Int32) < (4 : Int32))).2.1 (XS.aloadN X14.here hx rfl (hb hby d13_10) rfl rfl k)))))))) ?_
  show Go p e below _ (T14.setTop (mkF m 11 #[.val (.ref ca), qI 2, .val (.ref ba), qI 2, qI 4, qI 2, qI c1_] [(.ref ca)]))
  refine Go.by (fun t k => XS.iloadN X14.here hx rfl (hb hby d13_11) rfl k) ?_
  show Go p e below _ (T14.setTop (mkF m 12 #[.val (.ref ca), qI 2, .val (.ref ba), qI 2, qI 4, qI 2, qI c1_] [(.int 2), (.ref ca)]))
  have F16 : Arv Z h14 ca kc .char (4 : Int32) [(.int c0_), (.int c1_), (.int c2_), (.int c3_)] (.int 0) := (F8.other W14 ncb)
  obtain ⟨cl17, Ar17, qk17, sz17, nn17, Ha17, Gf17⟩ := id F16
  have hin18 : ¬ ((2 : Int32) < 0 ∨ cl17.slots.size ≤ ((2 : Int32)).toNatClampNeg) := inb_of sz17 ⟨by decide, by decide⟩
  have hat19 : cl17.slots[((2 : Int32)).toNatClampNeg]? = some (.int c2_) := Has.at Ha17 hin18 rfl
  refine Go.by (fun t k => X14.caload hx (j := (2 : Int32)) (v := (.int c2_)) (by rw [e14]; exact Ar17.1) (State.isArrayOf_alike hZ.alike Ar17.2.1) Ar17.2.2 hin18 hat19 (g := (mkF m 12 #[.val (.ref ca), qI 2, .val (.ref ba), qI 2, qI 4, qI 2, qI c1_] [(.int 2), (.ref ca)])) rfl rfl (hb hby d13_12) t k) ?_
  show Go p e below _ (T14.setTop (mkF m 13 #[.val (.ref ca), qI 2, .val (.ref ba), qI 2, qI 4, qI 2, qI c1_] [(.int c2_)]))
  refine Go.by (fun t k => XS.istore X14.here hx rfl (hb hby d13_13) rfl (l' := #[.val (.ref ca), qI 2, .val (.ref ba), qI 2, qI 4, qI 2, qI c2_]) rfl (XS.iload X14.here hx rfl (hb hby d13_15) rfl (XS.sipush X14.here hx rfl (hb hby d13_17) (XS.icmpYes X14.here hx rfl (pc0 := 20) (pc' := 26) rfl (hb hby d13_20) rfl (flt (own_nle hq2)).2.2.2 (by decide) (by decide) (XS.aloadN X14.here hx rfl (hb hby d13_26) rfl rfl (XS.iloadN X14.here hx rfl (hb hby d13_27) rfl (XS.iload X14.here hx rfl (hb hby d13_28) rfl (XS.i2b X14.here hx rfl (hb hby d13_30) rfl k)))))))) ?_
  show Go p e below _ (T14.setTop (mkF m 31 #[.val (.ref ca), qI 2, .val (.ref ba), qI 2, qI 4, qI 2, qI c2_] [(.int (c2_.toInt8.toInt32)), (.int 2), (.ref ba)]))
  obtain ⟨cl20, Ar20, qk20, sz20, nn20, Ha20, Gf20⟩ := id F15
  have hin21 : ¬ ((2 : Int32) < 0 ∨ cl20.slots.size ≤ ((2 : Int32)).toNatClampNeg) := inb_of sz20 ⟨by decide, by decide⟩
  obtain ⟨T22, h22, X22, e22, W22, st22⟩ := stB X14 hx hZ e14 Ar20 (j := (2 : Int32)) hin21 (g := (mkF m 31 #[.val (.ref ca), qI 2, .val (.ref ba), qI 2, qI 4, qI 2, qI c2_] [(.int (c2_.toInt8.toInt32)), (.int 2), (.ref ba)])) rfl rfl (hb hby d13_31)
  have N22 := Fr.snoc X22 N14 gba
  have F23 : Arv Z h22 ba kb .byte (4 : Int32) [(.int (qB c0_)), (.int (qB c1_)), (.int (qB c2_)), (.int 0)] (.int 0) := Arv.set Ar20 qk20 sz20 nn20 Ha20 Gf20 (fits_nar_byte _) W22 2 rfl (Nat.le_of_ble_eq_true rfl)
  refine Go.by st22 ?_
  show Go p e below _ (T22.setTop (mkF m 32 #[.val (.ref ca), qI 2, .val (.ref ba), qI 2, qI 4, qI 2, qI c2_] []))
  refine Go.by (fun t k => XS.iinc X22.here hx rfl (hb hby d13_32) rfl (l' := #[.val (.ref ca), qI 3, .val (.ref ba), qI 2, qI 4, qI 2, qI c2_]) rfl (XS.iinc X22.here hx rfl (hb hby d13_35) rfl (l' := #[.val (.ref ca), qI 3, .val (.ref ba), qI 3, qI 4, qI 2, qI c2_]) rfl (XS.iinc X22.here hx rfl (hb hby d13_38) rfl (l' := #[.val (.ref ca), qI 3, .val (.ref ba), qI 3, qI 4, qI 3, qI c2_]) rfl (XS.goto X22.here hx rfl (pc0 := 41) (pc' := 3) rfl (hb hby d13_41) (by decide) (by decide) (XS.iload X22.here hx rfl (hb hby d13_3) rfl (XS.iload X22.here hx rfl (hb hby d13_5) rfl (XS.icmpNo X22.here hx rfl (hb hby d13_7) rfl (tlt (by decide : (3 : Int32) < (4 : Int32))).2.1 (XS.aloadN X22.here hx rfl (hb hby d13_10) rfl rfl k)))))))) ?_
  show Go p e below _ (T22.setTop (mkF m 11 #[.val (.ref ca), qI 3, .val (.ref ba), qI 3, qI 4, qI 3, qI c2_] [(.ref ca)]))
  refine Go.by (fun t k => XS.iloadN X22.here hx rfl (hb hby d13_11) rfl k) ?_
  show Go p e below _ (T22.setTop (mkF m 12 #[.val (.ref ca), qI 3, .val (.ref ba), qI 3, qI 4, qI 3, qI c2_] [(.int 3), (.ref ca)]))
  have F24 : Arv Z h22 ca kc .char (4 : Int32) [(.int c0_), (.int c1_), (.int c2_), (.int c3_)] (.int 0) := (F16.other W22 ncb)
  obtain ⟨cl25, Ar25, qk25, sz25, nn25, Ha25, Gf25⟩ := id F24
  have hin26 : ¬ ((3 : Int32) < 0 ∨ cl25.slots.size ≤ ((3 : Int32)).toNatClampNeg) := inb_of sz25 ⟨by decide, by decide⟩
  have hat27 : cl25.slots[((3 : Int32)).toNatClampNeg]? = some (.int c3_) := Has.at Ha25 hin26 rfl
  refine Go.by (fun t k => X22.caload hx (j := (3 : Int32)) (v := (.int c3_)) (by rw [e22]; exact Ar25.1) (State.isArrayOf_alike hZ.alike Ar25.2.1) Ar25.2.2 hin26 hat27 (g := (mkF m 12 #[.val (.ref ca), qI 3, .val (.ref ba), qI 3, qI 4, qI 3, qI c2_] [(.int 3), (.ref ca)])) rfl rfl (hb hby d13_12) t k) ?_
  show Go p e below _ (T22.setTop (mkF m 13 #[.val (.ref ca), qI 3, .val (.ref ba), qI 3, qI 4, qI 3, qI c2_] [(.int c3_)]))
  refine Go.by (fun t k => XS.istore X22.here hx rfl (hb hby d13_13) rfl (l' := #[.val (.ref ca), qI 3, .val (.ref ba), qI 3, qI 4, qI 3, qI c3_]) rfl (XS.iload X22.here hx rfl (hb hby d13_15) rfl (XS.sipush X22.here hx rfl (hb hby d13_17) (XS.icmpYes X22.here hx rfl (pc0 := 20) (pc' := 26) rfl (hb hby d13_20) rfl (flt (own_nle hq3)).2.2.2 (by decide) (by decide) (XS.aloadN X22.here hx rfl (hb hby d13_26) rfl rfl (XS.iloadN X22.here hx rfl (hb hby d13_27) rfl (XS.iload X22.here hx rfl (hb hby d13_28) rfl (XS.i2b X22.here hx rfl (hb hby d13_30) rfl k)))))))) ?_
  show Go p e below _ (T22.setTop (mkF m 31 #[.val (.ref ca), qI 3, .val (.ref ba), qI 3, qI 4, qI 3, qI c3_] [(.int (c3_.toInt8.toInt32)), (.int 3), (.ref ba)]))
  obtain ⟨cl28, Ar28, qk28, sz28, nn28, Ha28, Gf28⟩ := id F23
  have hin29 : ¬ ((3 : Int32) < 0 ∨ cl28.slots.size ≤ ((3 : Int32)).toNatClampNeg) := inb_of sz28 ⟨by decide, by decide⟩
  obtain ⟨T30, h30, X30, e30, W30, st30⟩ := stB X22 hx hZ e22 Ar28 (j := (3 : Int32)) hin29 (g := (mkF m 31 #[.val (.ref ca), qI 3, .val (.ref ba), qI 3, qI 4, qI 3, qI c3_] [(.int (c3_.toInt8.toInt32)), (.int 3), (.ref ba)])) rfl rfl (hb hby d13_31)
  have N30 := Fr.snoc X30 N22 gba
  have F31 : Arv Z h30 ba kb .byte (4 : Int32) [(.int (qB c0_)), (.int (qB c1_)), (.int (qB c2_)), (.int (qB c3_))] (.int 0) := Arv.set Ar28 qk28 sz28 nn28 Ha28 Gf28 (fits_nar_byte _) W30 3 rfl (Nat.le_of_ble_eq_true rfl)
  refine Go.by st30 ?_
  show Go p e below _ (T30.setTop (mkF m 32 #[.val (.ref ca), qI 3, .val (.ref ba), qI 3, qI 4, qI 3, qI c3_] []))
  refine Go.by (fun t k => XS.iinc X30.here hx rfl (hb hby d13_32) rfl (l' := #[.val (.ref ca), qI 4, .val (.ref ba), qI 3, qI 4, qI 3, qI c3_]) rfl (XS.iinc X30.here hx rfl (hb hby d13_35) rfl (l' := #[.val (.ref ca), qI 4, .val (.ref ba), qI 4, qI 4, qI 3, qI c3_]) rfl (XS.iinc X30.here hx rfl (hb hby d13_38) rfl (l' := #[.val (.ref ca), qI 4, .val (.ref ba), qI 4, qI 4, qI 4, qI c3_]) rfl (XS.goto X30.here hx rfl (pc0 := 41) (pc' := 3) rfl (hb hby d13_41) (by decide) (by decide) (XS.iload X30.here hx rfl (hb hby d13_3) rfl (XS.iload X30.here hx rfl (hb hby d13_5) rfl (XS.icmpYes X30.here hx rfl (pc0 := 7) (pc' := 44) rfl (hb hby d13_7) rfl (flt Int32.lt_irrefl).2.1 (by decide) (by decide) (XS.iload X30.here hx rfl (hb hby d13_44) rfl k)))))))) ?_
  show Go p e below _ (T30.setTop (mkF m 46 #[.val (.ref ca), qI 4, .val (.ref ba), qI 4, qI 4, qI 4, qI c3_] [(.int 4)]))
  have F32 : Keep h0 h30 [ba] := (((((Keep.refl h0 [ba]).wr W6 (Or.inl (List.mem_of_getElem? (i := 0) rfl))).wr W14 (Or.inl (List.mem_of_getElem? (i := 0) rfl))).wr W22 (Or.inl (List.mem_of_getElem? (i := 0) rfl))).wr W30 (Or.inl (List.mem_of_getElem? (i := 0) rfl)))
  have hq : Q_comp5_4 Z ca ba kc c0_ c1_ c2_ c3_ kb h0 n0 (some (.int 4)) h30 _ := ⟨rfl, N30, F32, F31⟩
  exact Go.retI X30 hx Bd.returns hlk (hb hby d13_46) (by decide) (by decide) (by rw [e30]; exact hq)
theorem ef_comp3_4 (m : MethodId) (ca : Addr) : entryFrame m #[(.ref ca), (.int (0 : Int32)), (.int (4 : Int32))] 6 = mkF m 0 #[.val (.ref ca), .val (.int (0 : Int32)), .val (.int (4 : Int32)), .unset, .unset, .unset] [] := by first | (simp [entryFrame, mkF, argsToLocals, Value.category]; done) | rfl
def Q_comp3_4 (Z : State) (ca : Addr) (kc : ClassId) (c0_ : Int32) (c1_ : Int32) (c2_ : Int32) (c3_ : Int32) (h0 : Heap) (n0 : Nat) (v : Option Value) (h : Heap) (L : List Loc) : Prop := ∃ bb : Addr, ∃ kb : ClassId, v = some (.ref bb) ∧ Fr n0 L ∧ Keep h0 h [] ∧ h0.size ≤ bb ∧ Arv Z h bb kb .byte (4 : Int32) [(.int (qB c0_)), (.int (qB c1_)), (.int (qB c2_)), (.int (qB c3_))] (.int 0)
set_option maxRecDepth 65536 in
set_option maxHeartbeats 40000000 in
theorem comp3_4 (l : Launch) (Z : State) (a0 : Array Value) (hw : ∀ d ∈ tables_1, d.before a0 Z = true) (ws : List Jvm.Cond) (ca : Addr) (kc : ClassId) (c0_ : Int32) (c1_ : Int32) (c2_ : Int32) (c3_ : Int32) (h0 : Heap) (n0 : Nat) (O0 : Old Z n0 h0) (P0 : Arv Z h0 ca kc .char (4 : Int32) [(.int c0_), (.int c1_), (.int c2_), (.int c3_)] (.int 0)) (hq0 : 0 ≤ c0_.toInt ∧ c0_.toInt ≤ 255) (hq1 : 0 ≤ c1_.toInt ∧ c1_.toInt ≤ 255) (hq2 : 0 ≤ c2_.toInt ∧ c2_.toInt ≤ 255) (hq3 : 0 ≤ c3_.toInt ∧ c3_.toInt ≤ 255) :
    MetFree l (⟨"java/lang/StringUTF16", "compress", "([CII)[B"⟩ : MethodName) (head1 (Jvm.Cond.code (⟨"java/lang/StringUTF16", "compress", "([CII)[B"⟩ : MethodName) jdk_52_method_16_code 6 (some (.array .byte)) :: ws) ({ frames := 1, cells := 1, slots := 4, locals := 18 } : Room)) (fun a U => a = #[(.ref ca), (.int 0), (.int 4)] ∧ Z.Warmed39 U.vm ∧ U.heap = h0) (fun _ _ _ _ _ => True) (fun _ U o U' => ∃ v L, o = .returned v ∧ Q_comp3_4 Z ca kc c0_ c1_ c2_ c3_ h0 n0 v U'.heap L ∧ FrameEnd U o U' L ({ frames := 1, cells := 1, slots := 4, locals := 18 } : Room).cells ({ frames := 1, cells := 1, slots := 4, locals := 18 } : Room).slots) := by
  refine MetFree.of_bodySF (plainFor_of_name pn_4) hisR ?_
  intro p e s m args below meth c s₁ Bd hml0 hP hK
  obtain ⟨rfl, hZ, hh⟩ := hP
  have hx := Bd.exec
  have hby := Bd.bytes
  have hml : c.maxLocals = 6 := hml0
  have hown : s.vm.findClass "java/lang/StringUTF16" = some m.cls := findClass_of_methodNamed Bd.named
  have hnm := (name_of_methodNamed Bd.named Bd.method).1
  have hlk := BodyLoose.notSynchronized Bd
  have X0 : Stand p l e ({ frames := 1, cells := 1, slots := 4, locals := 18 } : Room) s m #[(.ref ca), (.int 0), (.int 4)] below meth c s₁ [] 0 0 := Stand.of_body Bd
  have e0 : s₁.heap = h0 := by rw [← hh, Bd.state]; rfl
  have N0 := Fr.nil n0
  refine Go.start (P := fun o U' => ∃ v L, o = .returned v ∧ Q_comp3_4 Z ca kc c0_ c1_ c2_ c3_ h0 n0 v U'.heap L ∧ FrameEnd s o U' L ({ frames := 1, cells := 1, slots := 4, locals := 18 } : Room).cells ({ frames := 1, cells := 1, slots := 4, locals := 18 } : Room).slots) (ef_comp3_4 m ca) ?_
  show Go p e below _ (s₁.setTop (mkF m 0 #[.val (.ref ca), qI 0, qI 4, qU, qU, qU] []))
  refine Go.by (fun t k => XS.iloadN X0.here hx rfl (hb hby d12_0) rfl k) ?_
  show Go p e below _ (s₁.setTop (mkF m 1 #[.val (.ref ca), qI 0, qI 4, qU, qU, qU] [(.int 4)]))
  obtain ⟨T1, h1, k1, X1, e1, E1, A1, Q1, st1⟩ := newPE X0 hx hZ (hw _ (mg 13 rfl)) e0 (g := (mkF m 1 #[.val (.ref ca), qI 0, qI 4, qU, qU, qU] [(.int 4)])) rfl (hb hby d12_1) rfl (by decide) (cap := 4) (by decide) (by decide) (by decide) (by decide) (ad := "[B") (by decide)
  obtain ⟨b1, g1⟩ : ∃ z, z = h0.size := ⟨_, rfl⟩
  rw [← g1] at A1 Q1 st1
  have gl1 : h0.size ≤ b1 := Nat.le_of_eq g1.symm
  have ge1 : n0 ≤ b1 := Nat.le_trans (own_old_size O0) gl1
  have sz1 : h0.size ≤ b1 := Nat.le_trans (Keep.refl h0 []).1 gl1
  have ne2 : ca ≠ b1 := Nat.ne_of_lt (Nat.lt_of_lt_of_le P0.lt gl1)
  have F3 : Arv Z h1 b1 k1 .byte (4 : Int32) [(.int 0), (.int 0), (.int 0), (.int 0)] (.int 0) := (Arv.new A1 (by decide)).pad (pad_rep [] (.int 0) 4)
  refine Go.by st1 ?_
  show Go p e below _ (T1.setTop (mkF m 3 #[.val (.ref ca), qI 0, qI 4, qU, qU, qU] [(.ref b1)]))
  refine Go.by (fun t k => XS.astoreN X1.here hx rfl (hb hby d12_3) rfl rfl (l' := #[.val (.ref ca), qI 0, qI 4, .val (.ref b1), qU, qU]) rfl (XS.aloadN X1.here hx rfl (hb hby d12_4) rfl rfl (XS.iloadN X1.here hx rfl (hb hby d12_5) rfl (XS.aloadN X1.here hx rfl (hb hby d12_6) rfl rfl (XS.iconst X1.here hx rfl (hb hby d12_7) (XS.iloadN X1.here hx rfl (hb hby d12_8) rfl k)))))) ?_
  show Go p e below _ (T1.setTop (mkF m 9 #[.val (.ref ca), qI 0, qI 4, .val (.ref b1), qU, qU] [(.int 4), (.int 0), (.ref b1), (.int 0), (.ref ca)]))
  have F5 : Old Z n0 h1 := (O0.ext E1)
  have F6 : Arv Z h1 ca kc .char (4 : Int32) [(.int c0_), (.int c1_), (.int c2_), (.int c3_)] (.int 0) := (P0.ext E1)
  have F7 : Keep h0 h1 [] := ((Keep.refl h0 []).ext E1)
  obtain ⟨_, _, ⟨T4, L4, k4, n4⟩, -, X4, ⟨Lc4, hQ4, l4, y4, z4⟩, st4⟩ := Jvm.LawKit.callS X1 hx (y := (⟨"java/lang/StringUTF16", "compress", "([CI[BII)I"⟩ : MethodName)) hown (mvT hZ (hw _ (mg 62 rfl))) (mvT hZ (hw _ (mg 63 rfl))) (mvT hZ (hw _ (mg 60 rfl))) (mvT hZ (hw _ (mg 64 rfl))) (by decide) (backOf (W := 0) (comp5_4 l Z a0 hw [] ca b1 kc c0_ c1_ c2_ c3_ k1 h1 n0 F5 F6 F3 ge1 ne2 hq0 hq1 hq2 hq3) hZ (hw _ (mg 64 rfl)) (hw _ (mg 60 rfl)) (by decide) (by decide)) (g := (mkF m 9 #[.val (.ref ca), qI 0, qI 4, .val (.ref b1), qU, qU] [(.int 4), (.int 0), (.ref b1), (.int 0), (.ref ca)])) rfl (by rw [hml]; rfl) (argsL := [(.ref ca), (.int 0), (.ref b1), (.int 0), (.int 4)]) (rest := []) (lenOf pd_6 rfl) rfl (by show 2 * 0 + _ ≤ _; exact Nat.le_of_eq rfl) (hb hby d12_9) (fun _ _ => ⟨rfl, e1, (by decide : 1 + 0 ≤ _), (by decide : 4 + 0 ≤ _)⟩)
  dsimp only [Pt.U, Pt.locs, Pt.cells, Pt.slots] at X4 l4 y4 z4 st4 hQ4
  subst y4 z4
  obtain ⟨rfl, N4q, K4, F4_0⟩ := hQ4
  have N4 : Fr n0 L4 := by rw [l4]; exact Fr.app N0 N4q
  have X4 := own_mr X4 1 4 (by decide) (by decide)
  refine Go.by st4 ?_
  show Go p e below _ (T4.setTop (mkF m 12 #[.val (.ref ca), qI 0, qI 4, .val (.ref b1), qU, qU] [(.int 4)]))
  refine Go.by (fun t k => XS.istore X4.here hx rfl (hb hby d12_12) rfl (l' := #[.val (.ref ca), qI 0, qI 4, .val (.ref b1), qI 4, qU]) rfl (XS.iload X4.here hx rfl (hb hby d12_14) rfl (XS.iloadN X4.here hx rfl (hb hby d12_16) rfl (XS.icmpYes X4.here hx rfl (pc0 := 17) (pc' := 57) rfl (hb hby d12_17) rfl (teq rfl).1 (by decide) (by decide) (XS.aloadN X4.here hx rfl (hb hby d12_57) rfl rfl k))))) ?_
  show Go p e below _ (T4.setTop (mkF m 58 #[.val (.ref ca), qI 0, qI 4, .val (.ref b1), qI 4, qU] [(.ref b1)]))
  have F8 : Keep h0 T4.heap [] := (F7.trans K4 (allS (Or.inr sz1) all0))
  have hq : Q_comp3_4 Z ca kc c0_ c1_ c2_ c3_ h0 n0 (some (.ref b1)) T4.heap _ := ⟨b1, k1, rfl, N4, F8, sz1, F4_0⟩
  exact Go.retA X4 hx Bd.returns rfl rfl hlk (hb hby d12_58) (by decide) (by decide) hq
theorem ef_init4_4 (m : MethodId) (ob : Addr) (ca : Addr) : entryFrame m #[(.ref ob), (.ref ca), (.int (0 : Int32)), (.int (4 : Int32)), .null] 6 = mkF m 0 #[.val (.ref ob), .val (.ref ca), .val (.int (0 : Int32)), .val (.int (4 : Int32)), .val .null, .unset] [] := by first | (simp [entryFrame, mkF, argsToLocals, Value.category]; done) | rfl
def Q_init4_4 (Z : State) (ob : Addr) (ca : Addr) (kc : ClassId) (c0_ : Int32) (c1_ : Int32) (c2_ : Int32) (c3_ : Int32) (cs : Int32) (h0 : Heap) (n0 : Nat) (v : Option Value) (h : Heap) (L : List Loc) : Prop := ∃ xb : Addr, ∃ kb : ClassId, v = none ∧ Fr n0 L ∧ Keep h0 h [ob] ∧ h0.size ≤ xb ∧ Exa Z h ob "java/lang/String" ∧ Fld Z h ob "java/lang/String" "coder" "B" (.int 0) ∧ Fld Z h ob "java/lang/String" "value" "[B" (.ref xb) ∧ Arv Z h xb kb .byte (4 : Int32) [(.int (qB c0_)), (.int (qB c1_)), (.int (qB c2_)), (.int (qB c3_))] (.int 0)
set_option maxRecDepth 65536 in
set_option maxHeartbeats 40000000 in
theorem init4_4 (l : Launch) (Z : State) (a0 : Array Value) (hw : ∀ d ∈ tables_1, d.before a0 Z = true) (ws : List Jvm.Cond) (ob : Addr) (ca : Addr) (kc : ClassId) (c0_ : Int32) (c1_ : Int32) (c2_ : Int32) (c3_ : Int32) (cs : Int32) (h0 : Heap) (n0 : Nat) (O0 : Old Z n0 h0) (P0 : Exa Z h0 ob "java/lang/String") (P1 : Fld Z h0 ob "java/lang/String" "value" "[B" .null) (P2 : Fld Z h0 ob "java/lang/String" "coder" "B" (.int 0)) (P3 : Arv Z h0 ca kc .char (4 : Int32) [(.int c0_), (.int c1_), (.int c2_), (.int c3_)] (.int 0)) (P4 : Sta Z Z.heap "java/lang/String" "COMPACT_STRINGS" "Z" (.int cs)) (gob : n0 ≤ ob) (nco : ca ≠ ob) (hcs : cs ≠ (0 : Int32)) (hq0 : 0 ≤ c0_.toInt ∧ c0_.toInt ≤ 255) (hq1 : 0 ≤ c1_.toInt ∧ c1_.toInt ≤ 255) (hq2 : 0 ≤ c2_.toInt ∧ c2_.toInt ≤ 255) (hq3 : 0 ≤ c3_.toInt ∧ c3_.toInt ≤ 255) :
    MetFree l (⟨"java/lang/String", "<init>", "([CIILjava/lang/Void;)V"⟩ : MethodName) (head1 (Jvm.Cond.code (⟨"java/lang/String", "<init>", "([CIILjava/lang/Void;)V"⟩ : MethodName) jdk_42_method_149_code 6 none :: ws) ({ frames := 2, cells := 1, slots := 4, locals := 35 } : Room)) (fun a U => a = #[(.ref ob), (.ref ca), (.int 0), (.int 4), .null] ∧ Z.Warmed39 U.vm ∧ U.heap = h0) (fun _ _ _ _ _ => True) (fun _ U o U' => ∃ v L, o = .returned v ∧ Q_init4_4 Z ob ca kc c0_ c1_ c2_ c3_ cs h0 n0 v U'.heap L ∧ FrameEnd U o U' L ({ frames := 2, cells := 1, slots := 4, locals := 35 } : Room).cells ({ frames := 2, cells := 1, slots := 4, locals := 35 } : Room).slots) := by
  refine MetFree.of_bodySF (plainFor_of_name pn_1) hisR ?_
  intro p e s m args below meth c s₁ Bd hml0 hP hK
  obtain ⟨rfl, hZ, hh⟩ := hP
  have hx := Bd.exec
  have hby := Bd.bytes
  have hml : c.maxLocals = 6 := hml0
  have hown : s.vm.findClass "java/lang/String" = some m.cls := findClass_of_methodNamed Bd.named
  have hnm := (name_of_methodNamed Bd.named Bd.method).1
  have hlk := BodyLoose.notSynchronized Bd
  have X0 : Stand p l e ({ frames := 2, cells := 1, slots := 4, locals := 35 } : Room) s m #[(.ref ob), (.ref ca), (.int 0), (.int 4), .null] below meth c s₁ [] 0 0 := Stand.of_body Bd
  have e0 : s₁.heap = h0 := by rw [← hh, Bd.state]; rfl
  have N0 := Fr.nil n0
  refine Go.start (P := fun o U' => ∃ v L, o = .returned v ∧ Q_init4_4 Z ob ca kc c0_ c1_ c2_ c3_ cs h0 n0 v U'.heap L ∧ FrameEnd s o U' L ({ frames := 2, cells := 1, slots := 4, locals := 35 } : Room).cells ({ frames := 2, cells := 1, slots := 4, locals := 35 } : Room).slots) (ef_init4_4 m ob ca) ?_
  show Go p e below _ (s₁.setTop (mkF m 0 #[.val (.ref ob), .val (.ref ca), qI 0, qI 4, .val .null, qU] []))
  refine Go.by (fun t k => XS.aloadN X0.here hx rfl (hb hby d10_0) rfl rfl k) ?_
  show Go p e below _ (s₁.setTop (mkF m 1 #[.val (.ref ob), .val (.ref ca), qI 0, qI 4, .val .null, qU] [(.ref ob)]))
  obtain ⟨T1, X1, e1, st1⟩ := initO X0 hx hZ hown (hw _ (mg 55 rfl)) (hw _ (mg 56 rfl)) (hw _ (mg 57 rfl)) e0 (g := (mkF m 1 #[.val (.ref ob), .val (.ref ca), qI 0, qI 4, .val .null, qU] [(.ref ob)])) rfl (by rw [hml]; rfl) rfl (hb hby d10_1) (by decide) (W := 0) (by show 2 * 0 + _ ≤ _; exact Nat.le_of_eq rfl) (by decide)
  refine Go.by st1 ?_
  show Go p e below _ (T1.setTop (mkF m 4 #[.val (.ref ob), .val (.ref ca), qI 0, qI 4, .val .null, qU] []))
  refine Go.by (fun t k => XS.iloadN X1.here hx rfl (hb hby d10_4) rfl (XS.ifYes X1.here hx rfl (pc0 := 5) (pc' := 27) rfl (hb hby d10_5) rfl ((if0 _ _).trans (feq (by decide : ¬ ((4 : Int32) = (0 : Int32)))).2) (by decide) (by decide) k)) ?_
  show Go p e below _ (T1.setTop (mkF m 27 #[.val (.ref ob), .val (.ref ca), qI 0, qI 4, .val .null, qU] []))
  have F2 : Sta Z h0 "java/lang/String" "COMPACT_STRINGS" "Z" (.int cs) := P4.ext O0.2
  obtain ⟨T3, X3, e3, st3⟩ := getS2 X1 hx hZ hown (host := "") (Or.inl (hw _ (mg 28 rfl))) Via.refl e1 F2 (g := (mkF m 27 #[.val (.ref ob), .val (.ref ca), qI 0, qI 4, .val .null, qU] [])) rfl (hb hby d10_27)
  refine Go.by st3 ?_
  show Go p e below _ (T3.setTop (mkF m 30 #[.val (.ref ob), .val (.ref ca), qI 0, qI 4, .val .null, qU] [(.int cs)]))
  refine Go.by (fun t k => XS.ifNo X3.here hx rfl (hb hby d10_30) rfl ((if0 _ _).trans (feq hcs).1) (XS.aloadN X3.here hx rfl (hb hby d10_33) rfl rfl (XS.iloadN X3.here hx rfl (hb hby d10_34) rfl (XS.iloadN X3.here hx rfl (hb hby d10_35) rfl k)))) ?_
  show Go p e below _ (T3.setTop (mkF m 36 #[.val (.ref ob), .val (.ref ca), qI 0, qI 4, .val .null, qU] [(.int 4), (.int 0), (.ref ca)]))
  obtain ⟨_, _, ⟨T4, L4, k4, n4⟩, -, X4, ⟨Lc4, hQ4, l4, y4, z4⟩, st4⟩ := Jvm.LawKit.callS X3 hx (y := (⟨"java/lang/StringUTF16", "compress", "([CII)[B"⟩ : MethodName)) hown (mvT hZ (hw _ (mg 58 rfl))) (mvT hZ (hw _ (mg 59 rfl))) (mvT hZ (hw _ (mg 60 rfl))) (mvT hZ (hw _ (mg 61 rfl))) (by decide) (backOf (W := 0) (comp3_4 l Z a0 hw [] ca kc c0_ c1_ c2_ c3_ h0 n0 O0 P3 hq0 hq1 hq2 hq3) hZ (hw _ (mg 61 rfl)) (hw _ (mg 60 rfl)) (by decide) (by decide)) (g := (mkF m 36 #[.val (.ref ob), .val (.ref ca), qI 0, qI 4, .val .null, qU] [(.int 4), (.int 0), (.ref ca)])) rfl (by rw [hml]; rfl) (argsL := [(.ref ca), (.int 0), (.int 4)]) (rest := []) (lenOf pd_7 rfl) rfl (by show 2 * 0 + _ ≤ _; exact Nat.le_of_eq rfl) (hb hby d10_36) (fun _ _ => ⟨rfl, e3, (by decide : 0 + 1 ≤ _), (by decide : 0 + 4 ≤ _)⟩)
  dsimp only [Pt.U, Pt.locs, Pt.cells, Pt.slots] at X4 l4 y4 z4 st4 hQ4
  subst y4 z4
  obtain ⟨bb_4, kb_4, rfl, N4q, K4, fz4_bb, F4_0⟩ := hQ4
  have N4 : Fr n0 L4 := by rw [l4]; exact Fr.app N0 N4q
  have X4 := own_mr X4 1 4 (by decide) (by decide)
  have ge_bb_4 : n0 ≤ bb_4 := Nat.le_trans (own_old_size O0) fz4_bb
  have sz_bb_4 : h0.size ≤ bb_4 := Nat.le_trans (Keep.refl h0 [ob]).1 fz4_bb
  have ne5 : ob ≠ bb_4 := Nat.ne_of_lt (Nat.lt_of_lt_of_le P0.lt fz4_bb)
  have ne6 : ca ≠ bb_4 := Nat.ne_of_lt (Nat.lt_of_lt_of_le P3.lt fz4_bb)
  refine Go.by st4 ?_
  show Go p e below _ (T4.setTop (mkF m 39 #[.val (.ref ob), .val (.ref ca), qI 0, qI 4, .val .null, qU] [(.ref bb_4)]))
  refine Go.by (fun t k => XS.astore X4.here hx rfl (hb hby d10_39) rfl rfl (l' := #[.val (.ref ob), .val (.ref ca), qI 0, qI 4, .val .null, .val (.ref bb_4)]) rfl (XS.aloadN X4.here hx rfl (hb hby d10_41) rfl rfl (XS.aload X4.here hx rfl (hb hby d10_42) rfl rfl (XS.iloadN X4.here hx rfl (hb hby d10_44) rfl k)))) ?_
  show Go p e below _ (T4.setTop (mkF m 45 #[.val (.ref ob), .val (.ref ca), qI 0, qI 4, .val .null, .val (.ref bb_4)] [(.int 4), (.ref bb_4), (.ref ob)]))
  have F8 : Old Z n0 T4.heap := (O0.keep K4 all0)
  have F9 : Keep h0 T4.heap [ob] := ((Keep.refl h0 [ob]).trans K4 all0)
  obtain ⟨_, _, ⟨T7, L7, k7, n7⟩, -, X7, ⟨Lc7, hQ7, l7, y7, z7⟩, st7⟩ := Jvm.LawKit.callS X4 hx (y := (⟨"java/lang/StringUTF16", "coderFromArrayLen", "([BI)B"⟩ : MethodName)) hown (mvT hZ (hw _ (mg 65 rfl))) (mvT hZ (hw _ (mg 66 rfl))) (mvT hZ (hw _ (mg 60 rfl))) (mvT hZ (hw _ (mg 67 rfl))) (by decide) (backOf (W := 1) (coderLen_4 l Z a0 hw [] bb_4 kb_4 ([(.int (qB c0_)), (.int (qB c1_)), (.int (qB c2_)), (.int (qB c3_))]) T4.heap n0 F8 F4_0) hZ (hw _ (mg 67 rfl)) (hw _ (mg 60 rfl)) (by decide) (by decide)) (g := (mkF m 45 #[.val (.ref ob), .val (.ref ca), qI 0, qI 4, .val .null, .val (.ref bb_4)] [(.int 4), (.ref bb_4), (.ref ob)])) rfl (by rw [hml]; rfl) (argsL := [(.ref bb_4), (.int 4)]) (rest := [(.ref ob)]) (lenOf pd_8 rfl) rfl (by show 2 * 0 + _ ≤ _; exact Nat.le_of_eq rfl) (hb hby d10_45) (fun _ _ => ⟨rfl, rfl, (by decide : 1 + 0 ≤ _), (by decide : 4 + 0 ≤ _)⟩)
  dsimp only [Pt.U, Pt.locs, Pt.cells, Pt.slots] at X7 l7 y7 z7 st7 hQ7
  subst y7 z7
  obtain ⟨rfl, N7q, e7⟩ := hQ7
  have N7 : Fr n0 L7 := by rw [l7]; exact Fr.app N4 N7q
  have X7 := own_mr X7 1 4 (by decide) (by decide)
  refine Go.by st7 ?_
  show Go p e below _ (T7.setTop (mkF m 48 #[.val (.ref ob), .val (.ref ca), qI 0, qI 4, .val .null, .val (.ref bb_4)] [(.int 0), (.ref ob)]))
  have F10 : Fld Z T4.heap ob "java/lang/String" "coder" "B" (.int 0) := (P2.keep K4 nin0)
  have F11 : Exa Z T4.heap ob "java/lang/String" := (P0.keep K4)
  obtain ⟨T12, h12, X12, e12, W12, st12⟩ := putFN X7 hx hZ hown (hw _ (mg 29 rfl)) Via.refl e7 F10 F11 (Or.inr ⟨(hw _ (mg 15 rfl)), rfl, hnm⟩) (hw _ (mg 12 rfl)) (ty := .byte) (v' := (.int 0)) (by decide) rfl rfl (g := (mkF m 48 #[.val (.ref ob), .val (.ref ca), qI 0, qI 4, .val .null, .val (.ref bb_4)] [(.int 0), (.ref ob)])) rfl rfl (hb hby d10_48)
  have N12 := Fr.snoc X12 N7 gob
  have F13 : Fld Z h12 ob "java/lang/String" "coder" "B" (.int 0) := F10.same W12
  refine Go.by st12 ?_
  show Go p e below _ (T12.setTop (mkF m 51 #[.val (.ref ob), .val (.ref ca), qI 0, qI 4, .val .null, .val (.ref bb_4)] []))
  refine Go.by (fun t k => XS.aloadN X12.here hx rfl (hb hby d10_51) rfl rfl (XS.aload X12.here hx rfl (hb hby d10_52) rfl rfl k)) ?_
  show Go p e below _ (T12.setTop (mkF m 54 #[.val (.ref ob), .val (.ref ca), qI 0, qI 4, .val .null, .val (.ref bb_4)] [(.ref bb_4), (.ref ob)]))
  have F14 : Fld Z h12 ob "java/lang/String" "value" "[B" .null := ((P1.keep K4 nin0).other W12 (Or.inr (slot_ne (Or.inr (hw _ (mg 14 rfl))) (Or.inr (hw _ (mg 15 rfl))) (by decide) (t := (.array .byte)) (t' := .byte) (by decide) (by decide))))
  have F15 : Exa Z h12 ob "java/lang/String" := (F11.wr W12)
  obtain ⟨T16, h16, X16, e16, W16, st16⟩ := putF X12 hx hZ hown (host := "") (Or.inl (hw _ (mg 30 rfl))) Via.refl e12 F14 F15 (Or.inr ⟨(hw _ (mg 14 rfl)), rfl, hnm⟩) (hw _ (mg 12 rfl)) (ty := (.array .byte)) (by decide) rfl rfl (g := (mkF m 54 #[.val (.ref ob), .val (.ref ca), qI 0, qI 4, .val .null, .val (.ref bb_4)] [(.ref bb_4), (.ref ob)])) rfl rfl (hb hby d10_54)
  have N16 := Fr.snoc X16 N12 gob
  have F17 : Fld Z h16 ob "java/lang/String" "value" "[B" (.ref bb_4) := F14.same W16
  refine Go.by st16 ?_
  show Go p e below _ (T16.setTop (mkF m 57 #[.val (.ref ob), .val (.ref ca), qI 0, qI 4, .val .null, .val (.ref bb_4)] []))
  have F18 : Keep h0 h16 [ob] := ((F9.wr W12 (Or.inl (List.mem_of_getElem? (i := 0) rfl))).wr W16 (Or.inl (List.mem_of_getElem? (i := 0) rfl)))
  have F19 : Exa Z h16 ob "java/lang/String" := (F15.wr W16)
  have F20 : Fld Z h16 ob "java/lang/String" "coder" "B" (.int 0) := (F13.other W16 (Or.inr (slot_ne (Or.inr (hw _ (mg 15 rfl))) (Or.inr (hw _ (mg 14 rfl))) (by decide) (t := .byte) (t' := (.array .byte)) (by decide) (by decide))))
  have F21 : Arv Z h16 bb_4 kb_4 .byte (4 : Int32) [(.int (qB c0_)), (.int (qB c1_)), (.int (qB c2_)), (.int (qB c3_))] (.int 0) := ((F4_0.other W12 (Ne.symm ne5)).other W16 (Ne.symm ne5))
  have hq : Q_init4_4 Z ob ca kc c0_ c1_ c2_ c3_ cs h0 n0 none h16 _ := ⟨bb_4, kb_4, rfl, N16, F18, sz_bb_4, F19, F20, F17, F21⟩
  exact Go.ret0 X16 hx Bd.returns hlk (hb hby d10_57) (by decide) (by decide) (by rw [e16]; exact hq)
theorem ef_init1_4 (m : MethodId) (ob : Addr) (ca : Addr) : entryFrame m #[(.ref ob), (.ref ca)] 2 = mkF m 0 #[.val (.ref ob), .val (.ref ca)] [] := by first | (simp [entryFrame, mkF, argsToLocals, Value.category]; done) | rfl
def Q_init1_4 (Z : State) (ob : Addr) (ca : Addr) (kc : ClassId) (c0_ : Int32) (c1_ : Int32) (c2_ : Int32) (c3_ : Int32) (cs : Int32) (h0 : Heap) (n0 : Nat) (v : Option Value) (h : Heap) (L : List Loc) : Prop := ∃ xb : Addr, ∃ kb : ClassId, v = none ∧ Fr n0 L ∧ Keep h0 h [ob] ∧ h0.size ≤ xb ∧ Exa Z h ob "java/lang/String" ∧ Fld Z h ob "java/lang/String" "coder" "B" (.int 0) ∧ Fld Z h ob "java/lang/String" "value" "[B" (.ref xb) ∧ Arv Z h xb kb .byte (4 : Int32) [(.int (qB c0_)), (.int (qB c1_)), (.int (qB c2_)), (.int (qB c3_))] (.int 0)
set_option maxRecDepth 65536 in
set_option maxHeartbeats 40000000 in
theorem init1_4 (l : Launch) (Z : State) (a0 : Array Value) (hw : ∀ d ∈ tables_1, d.before a0 Z = true) (ws : List Jvm.Cond) (ob : Addr) (ca : Addr) (kc : ClassId) (c0_ : Int32) (c1_ : Int32) (c2_ : Int32) (c3_ : Int32) (cs : Int32) (h0 : Heap) (n0 : Nat) (O0 : Old Z n0 h0) (P0 : Exa Z h0 ob "java/lang/String") (P1 : Fld Z h0 ob "java/lang/String" "value" "[B" .null) (P2 : Fld Z h0 ob "java/lang/String" "coder" "B" (.int 0)) (P3 : Arv Z h0 ca kc .char (4 : Int32) [(.int c0_), (.int c1_), (.int c2_), (.int c3_)] (.int 0)) (P4 : Sta Z Z.heap "java/lang/String" "COMPACT_STRINGS" "Z" (.int cs)) (gob : n0 ≤ ob) (nco : ca ≠ ob) (hcs : cs ≠ (0 : Int32)) (hq0 : 0 ≤ c0_.toInt ∧ c0_.toInt ≤ 255) (hq1 : 0 ≤ c1_.toInt ∧ c1_.toInt ≤ 255) (hq2 : 0 ≤ c2_.toInt ∧ c2_.toInt ≤ 255) (hq3 : 0 ≤ c3_.toInt ∧ c3_.toInt ≤ 255) :
    MetFree l (⟨"java/lang/String", "<init>", "([C)V"⟩ : MethodName) (head1 (Jvm.Cond.code (⟨"java/lang/String", "<init>", "([C)V"⟩ : MethodName) jdk_42_method_3_code 2 none :: ws) ({ frames := 3, cells := 1, slots := 4, locals := 52 } : Room)) (fun a U => a = #[(.ref ob), (.ref ca)] ∧ Z.Warmed39 U.vm ∧ U.heap = h0) (fun _ _ _ _ _ => True) (fun _ U o U' => ∃ v L, o = .returned v ∧ Q_init1_4 Z ob ca kc c0_ c1_ c2_ c3_ cs h0 n0 v U'.heap L ∧ FrameEnd U o U' L ({ frames := 3, cells := 1, slots := 4, locals := 52 } : Room).cells ({ frames := 3, cells := 1, slots := 4, locals := 52 } : Room).slots) := by
  refine MetFree.of_bodySF (plainFor_of_name pn_1) hisR ?_
  intro p e s m args below meth c s₁ Bd hml0 hP hK
  obtain ⟨rfl, hZ, hh⟩ := hP
  have hx := Bd.exec
  have hby := Bd.bytes
  have hml : c.maxLocals = 2 := hml0
  have hown : s.vm.findClass "java/lang/String" = some m.cls := findClass_of_methodNamed Bd.named
  have hnm := (name_of_methodNamed Bd.named Bd.method).1
  have hlk := BodyLoose.notSynchronized Bd
  have X0 : Stand p l e ({ frames := 3, cells := 1, slots := 4, locals := 52 } : Room) s m #[(.ref ob), (.ref ca)] below meth c s₁ [] 0 0 := Stand.of_body Bd
  have e0 : s₁.heap = h0 := by rw [← hh, Bd.state]; rfl
  have N0 := Fr.nil n0
  refine Go.start (P := fun o U' => ∃ v L, o = .returned v ∧ Q_init1_4 Z ob ca kc c0_ c1_ c2_ c3_ cs h0 n0 v U'.heap L ∧ FrameEnd s o U' L ({ frames := 3, cells := 1, slots := 4, locals := 52 } : Room).cells ({ frames := 3, cells := 1, slots := 4, locals := 52 } : Room).slots) (ef_init1_4 m ob ca) ?_
  show Go p e below _ (s₁.setTop (mkF m 0 #[.val (.ref ob), .val (.ref ca)] []))
  refine Go.by (fun t k => XS.aloadN X0.here hx rfl (hb hby d9_0) rfl rfl (XS.aloadN X0.here hx rfl (hb hby d9_1) rfl rfl (XS.iconst X0.here hx rfl (hb hby d9_2) (XS.aloadN X0.here hx rfl (hb hby d9_3) rfl rfl k)))) ?_
  show Go p e below _ (s₁.setTop (mkF m 4 #[.val (.ref ob), .val (.ref ca)] [(.ref ca), (.int 0), (.ref ca), (.ref ob)]))
  obtain ⟨cl1, Ar1, qk1, sz1, nn1, Ha1, Gf1⟩ := id P3
  have hl1 : cl1.slots.size.toInt32 = (4 : Int32) := len_of sz1 nn1
  refine Go.by (fun t k => X0.arraylength hx (by rw [e0]; exact Ar1.1) (State.isArrayOf_alike hZ.alike Ar1.2.1) (g := (mkF m 4 #[.val (.ref ob), .val (.ref ca)] [(.ref ca), (.int 0), (.ref ca), (.ref ob)])) rfl rfl (hb hby d9_4) t (by rw [hl1]; exact k)) ?_
  show Go p e below _ (s₁.setTop (mkF m 5 #[.val (.ref ob), .val (.ref ca)] [(.int 4), (.int 0), (.ref ca), (.ref ob)]))
  refine Go.by (fun t k => XS.aconstNull X0.here hx rfl (hb hby d9_5) k) ?_
  show Go p e below _ (s₁.setTop (mkF m 6 #[.val (.ref ob), .val (.ref ca)] [.null, (.int 4), (.int 0), (.ref ca), (.ref ob)]))
  obtain ⟨_, _, ⟨T2, L2, k2, n2⟩, -, X2, ⟨Lc2, hQ2, l2, y2, z2⟩, st2⟩ := X0.specialBack hx (y := (⟨"java/lang/String", "<init>", "([CIILjava/lang/Void;)V"⟩ : MethodName)) rfl hown (mvT hZ (hw _ (mg 51 rfl))) (mvT hZ (hw _ (mg 52 rfl))) (mvT hZ (hw _ (mg 54 rfl))) (by decide) (backOf (W := 0) (init4_4 l Z a0 hw [] ob ca kc c0_ c1_ c2_ c3_ cs h0 n0 O0 P0 P1 P2 P3 P4 gob nco hcs hq0 hq1 hq2 hq3) hZ (hw _ (mg 54 rfl)) (hw _ (mg 11 rfl)) (by decide) (by decide)) (g := (mkF m 6 #[.val (.ref ob), .val (.ref ca)] [.null, (.int 4), (.int 0), (.ref ca), (.ref ob)])) rfl (by rw [hml]; rfl) (Steps.refl _) (a := ob) (argsL := [(.ref ca), (.int 0), (.int 4), .null]) (rest := []) (lenOf pd_9 rfl) rfl (by show 2 * 0 + _ ≤ _; exact Nat.le_of_eq rfl) (hb hby d9_6) (fun _ _ => ⟨rfl, e0, (by decide : 0 + 1 ≤ _), (by decide : 0 + 4 ≤ _)⟩)
  dsimp only [Pt.U, Pt.locs, Pt.cells, Pt.slots] at X2 l2 y2 z2 st2 hQ2
  subst y2 z2
  obtain ⟨xb_2, kb_2, rfl, N2q, K2, fz2_xb, F2_0, F2_1, F2_2, F2_3⟩ := hQ2
  have N2 : Fr n0 L2 := by rw [l2]; exact Fr.app N0 N2q
  have X2 := own_mr X2 1 4 (by decide) (by decide)
  have ge_xb_2 : n0 ≤ xb_2 := Nat.le_trans (own_old_size O0) fz2_xb
  have sz_xb_2 : h0.size ≤ xb_2 := Nat.le_trans (Keep.refl h0 [ob]).1 fz2_xb
  have ne3 : ob ≠ xb_2 := Nat.ne_of_lt (Nat.lt_of_lt_of_le P0.lt fz2_xb)
  have ne4 : ca ≠ xb_2 := Nat.ne_of_lt (Nat.lt_of_lt_of_le P3.lt fz2_xb)
  refine Go.tr st2 ?_
  show Go p e below _ (T2.setTop (mkF m 9 #[.val (.ref ob), .val (.ref ca)] []))
  have F5 : Keep h0 T2.heap [ob] := ((Keep.refl h0 [ob]).trans K2 (allS (Or.inl (List.mem_of_getElem? (i := 0) rfl)) all0))
  have hq : Q_init1_4 Z ob ca kc c0_ c1_ c2_ c3_ cs h0 n0 none T2.heap _ := ⟨xb_2, kb_2, rfl, N2, F5, sz_xb_2, F2_0, F2_1, F2_2, F2_3⟩
  exact Go.ret0 X2 hx Bd.returns hlk (hb hby d9_9) (by decide) (by decide) hq
theorem d18_0 : decode jdk_42_method_152_code 0 = .ok (.getstatic 38, 3) := by decide +kernel
theorem d18_3 : decode jdk_42_method_152_code 3 = .ok (.ifCond .eq 10, 3) := by decide +kernel
theorem d18_6 : decode jdk_42_method_152_code 6 = .ok (.aload_n 0, 1) := by decide +kernel
theorem d18_7 : decode jdk_42_method_152_code 7 = .ok (.getfield 15, 3) := by decide +kernel
theorem d18_10 : decode jdk_42_method_152_code 10 = .ok (.goto 4, 3) := by decide +kernel
theorem d18_14 : decode jdk_42_method_152_code 14 = .ok (.ireturn, 1) := by decide +kernel
theorem ef_coder (m : MethodId) (sa : Addr) : entryFrame m #[(.ref sa)] 1 = mkF m 0 #[.val (.ref sa)] [] := by first | (simp [entryFrame, mkF, argsToLocals, Value.category]; done) | rfl
def Q_coder (Z : State) (sa : Addr) (cs : Int32) (h0 : Heap) (n0 : Nat) (v : Option Value) (h : Heap) (L : List Loc) : Prop := v = some (.int 0) ∧ Fr n0 L ∧ h = h0
set_option maxRecDepth 65536 in
set_option maxHeartbeats 40000000 in
theorem coder (l : Launch) (Z : State) (a0 : Array Value) (hw : ∀ d ∈ tables_1, d.before a0 Z = true) (ws : List Jvm.Cond) (sa : Addr) (cs : Int32) (h0 : Heap) (n0 : Nat) (O0 : Old Z n0 h0) (P0 : Sta Z Z.heap "java/lang/String" "COMPACT_STRINGS" "Z" (.int cs)) (P1 : Fld Z h0 sa "java/lang/String" "coder" "B" (.int 0)) (hcs : cs ≠ (0 : Int32)) :
    MetFree l (⟨"java/lang/String", "coder", "()B"⟩ : MethodName) (head1 (Jvm.Cond.code (⟨"java/lang/String", "coder", "()B"⟩ : MethodName) jdk_42_method_152_code 1 (some .byte) :: ws) ({ frames := 0, cells := 0, slots := 0, locals := 0 } : Room)) (fun a U => a = #[(.ref sa)] ∧ Z.Warmed39 U.vm ∧ U.heap = h0) (fun _ _ _ _ _ => True) (fun _ U o U' => ∃ v L, o = .returned v ∧ Q_coder Z sa cs h0 n0 v U'.heap L ∧ FrameEnd U o U' L ({ frames := 0, cells := 0, slots := 0, locals := 0 } : Room).cells ({ frames := 0, cells := 0, slots := 0, locals := 0 } : Room).slots) := by
  refine MetFree.of_bodySF (plainFor_of_name pn_1) hisR ?_
  intro p e s m args below meth c s₁ Bd hml0 hP hK
  obtain ⟨rfl, hZ, hh⟩ := hP
  have hx := Bd.exec
  have hby := Bd.bytes
  have hml : c.maxLocals = 1 := hml0
  have hown : s.vm.findClass "java/lang/String" = some m.cls := findClass_of_methodNamed Bd.named
  have hnm := (name_of_methodNamed Bd.named Bd.method).1
  have hlk := BodyLoose.notSynchronized Bd
  have X0 : Stand p l e ({ frames := 0, cells := 0, slots := 0, locals := 0 } : Room) s m #[(.ref sa)] below meth c s₁ [] 0 0 := Stand.of_body Bd
  have e0 : s₁.heap = h0 := by rw [← hh, Bd.state]; rfl
  have N0 := Fr.nil n0
  refine Go.start (P := fun o U' => ∃ v L, o = .returned v ∧ Q_coder Z sa cs h0 n0 v U'.heap L ∧ FrameEnd s o U' L ({ frames := 0, cells := 0, slots := 0, locals := 0 } : Room).cells ({ frames := 0, cells := 0, slots := 0, locals := 0 } : Room).slots) (ef_coder m sa) ?_
  show Go p e below _ (s₁.setTop (mkF m 0 #[.val (.ref sa)] []))
  have F1 : Sta Z h0 "java/lang/String" "COMPACT_STRINGS" "Z" (.int cs) := P0.ext O0.2
  obtain ⟨T2, X2, e2, st2⟩ := getS2 X0 hx hZ hown (host := "") (Or.inl (hw _ (mg 28 rfl))) Via.refl e0 F1 (g := (mkF m 0 #[.val (.ref sa)] [])) rfl (hb hby d18_0)
  refine Go.by st2 ?_
  show Go p e below _ (T2.setTop (mkF m 3 #[.val (.ref sa)] [(.int cs)]))
  refine Go.by (fun t k => XS.ifNo X2.here hx rfl (hb hby d18_3) rfl ((if0 _ _).trans (feq hcs).1) (XS.aloadN X2.here hx rfl (hb hby d18_6) rfl rfl k)) ?_
  show Go p e below _ (T2.setTop (mkF m 7 #[.val (.ref sa)] [(.ref sa)]))
  obtain ⟨T3, X3, e3, st3⟩ := getF X2 hx hZ hown (host := "") (Or.inl (hw _ (mg 29 rfl))) Via.refl e2 P1 (g := (mkF m 7 #[.val (.ref sa)] [(.ref sa)])) rfl rfl (hb hby d18_7)
  refine Go.by st3 ?_
  show Go p e below _ (T3.setTop (mkF m 10 #[.val (.ref sa)] [(.int 0)]))
  refine Go.by (fun t k => XS.goto X3.here hx rfl (pc0 := 10) (pc' := 14) rfl (hb hby d18_10) (by decide) (by decide) k) ?_
  show Go p e below _ (T3.setTop (mkF m 14 #[.val (.ref sa)] [(.int 0)]))
  have hq : Q_coder Z sa cs h0 n0 (some (.int (nar .byte (0 : Int32)))) h0 _ := ⟨rfl, N0, rfl⟩
  exact Go.retN X3 hx (t := .byte) Bd.returns (by simp) hlk (hb hby d18_14) (by decide) (by decide) (by rw [e3]; exact hq)
theorem d17_0 : decode jdk_42_method_54_code 0 = .ok (.aload_n 0, 1) := by decide +kernel
theorem d17_1 : decode jdk_42_method_54_code 1 = .ok (.getfield 9, 3) := by decide +kernel
theorem d17_4 : decode jdk_42_method_54_code 4 = .ok (.arraylength, 1) := by decide +kernel
theorem d17_5 : decode jdk_42_method_54_code 5 = .ok (.aload_n 0, 1) := by decide +kernel
theorem d17_6 : decode jdk_42_method_54_code 6 = .ok (.invokevirtual 335, 3) := by decide +kernel
theorem pd_10 : parseMethodDescriptor "()B" = some ⟨[], some .byte⟩ := by decide +kernel
theorem d17_9 : decode jdk_42_method_54_code 9 = .ok (.ishr, 1) := by decide +kernel
theorem d17_10 : decode jdk_42_method_54_code 10 = .ok (.ireturn, 1) := by decide +kernel
theorem ef_length (m : MethodId) (sa : Addr) : entryFrame m #[(.ref sa)] 1 = mkF m 0 #[.val (.ref sa)] [] := by first | (simp [entryFrame, mkF, argsToLocals, Value.category]; done) | rfl
def Q_length (Z : State) (sa : Addr) (xa : Addr) (ka : ClassId) (z_ : Int32) (vs : List Value) (cs : Int32) (h0 : Heap) (n0 : Nat) (v : Option Value) (h : Heap) (L : List Loc) : Prop := v = some (.int z_) ∧ Fr n0 L ∧ h = h0
set_option maxRecDepth 65536 in
set_option maxHeartbeats 40000000 in
theorem length (l : Launch) (Z : State) (a0 : Array Value) (hw : ∀ d ∈ tables_1, d.before a0 Z = true) (ws : List Jvm.Cond) (sa : Addr) (xa : Addr) (ka : ClassId) (z_ : Int32) (vs : List Value) (cs : Int32) (h0 : Heap) (n0 : Nat) (O0 : Old Z n0 h0) (P0 : Sta Z Z.heap "java/lang/String" "COMPACT_STRINGS" "Z" (.int cs)) (P1 : Exa Z h0 sa "java/lang/String") (P2 : Fld Z h0 sa "java/lang/String" "coder" "B" (.int 0)) (P3 : Fld Z h0 sa "java/lang/String" "value" "[B" (.ref xa)) (P4 : Arv Z h0 xa ka .byte z_ vs (.int 0)) (hcs : cs ≠ (0 : Int32)) :
    MetFree l (⟨"java/lang/String", "length", "()I"⟩ : MethodName) (head1 (Jvm.Cond.code (⟨"java/lang/String", "length", "()I"⟩ : MethodName) jdk_42_method_54_code 1 (some .int) :: ws) ({ frames := 1, cells := 0, slots := 0, locals := 13 } : Room)) (fun a U => a = #[(.ref sa)] ∧ Z.Warmed39 U.vm ∧ U.heap = h0) (fun _ _ _ _ _ => True) (fun _ U o U' => ∃ v L, o = .returned v ∧ Q_length Z sa xa ka z_ vs cs h0 n0 v U'.heap L ∧ FrameEnd U o U' L ({ frames := 1, cells := 0, slots := 0, locals := 13 } : Room).cells ({ frames := 1, cells := 0, slots := 0, locals := 13 } : Room).slots) := by
  refine MetFree.of_bodySF (plainFor_of_name pn_1) hisR ?_
  intro p e s m args below meth c s₁ Bd hml0 hP hK
  obtain ⟨rfl, hZ, hh⟩ := hP
  have hx := Bd.exec
  have hby := Bd.bytes
  have hml : c.maxLocals = 1 := hml0
  have hown : s.vm.findClass "java/lang/String" = some m.cls := findClass_of_methodNamed Bd.named
  have hnm := (name_of_methodNamed Bd.named Bd.method).1
  have hlk := BodyLoose.notSynchronized Bd
  have X0 : Stand p l e ({ frames := 1, cells := 0, slots := 0, locals := 13 } : Room) s m #[(.ref sa)] below meth c s₁ [] 0 0 := Stand.of_body Bd
  have e0 : s₁.heap = h0 := by rw [← hh, Bd.state]; rfl
  have N0 := Fr.nil n0
  refine Go.start (P := fun o U' => ∃ v L, o = .returned v ∧ Q_length Z sa xa ka z_ vs cs h0 n0 v U'.heap L ∧ FrameEnd s o U' L ({ frames := 1, cells := 0, slots := 0, locals := 13 } : Room).cells ({ frames := 1, cells := 0, slots := 0, locals := 13 } : Room).slots) (ef_length m sa) ?_
  show Go p e below _ (s₁.setTop (mkF m 0 #[.val (.ref sa)] []))
  refine Go.by (fun t k => XS.aloadN X0.here hx rfl (hb hby d17_0) rfl rfl k) ?_
  show Go p e below _ (s₁.setTop (mkF m 1 #[.val (.ref sa)] [(.ref sa)]))
  obtain ⟨T1, X1, e1, st1⟩ := getF X0 hx hZ hown (host := "") (Or.inl (hw _ (mg 30 rfl))) Via.refl e0 P3 (g := (mkF m 1 #[.val (.ref sa)] [(.ref sa)])) rfl rfl (hb hby d17_1)
  refine Go.by st1 ?_
  show Go p e below _ (T1.setTop (mkF m 4 #[.val (.ref sa)] [(.ref xa)]))
  obtain ⟨cl2, Ar2, qk2, sz2, nn2, Ha2, Gf2⟩ := id P4
  have hl2 : cl2.slots.size.toInt32 = z_ := len_of sz2 nn2
  refine Go.by (fun t k => X1.arraylength hx (by rw [e1]; exact Ar2.1) (State.isArrayOf_alike hZ.alike Ar2.2.1) (g := (mkF m 4 #[.val (.ref sa)] [(.ref xa)])) rfl rfl (hb hby d17_4) t (by rw [hl2]; exact k)) ?_
  show Go p e below _ (T1.setTop (mkF m 5 #[.val (.ref sa)] [(.int z_)]))
  refine Go.by (fun t k => XS.aloadN X1.here hx rfl (hb hby d17_5) rfl rfl k) ?_
  show Go p e below _ (T1.setTop (mkF m 6 #[.val (.ref sa)] [(.ref sa), (.int z_)]))
  obtain ⟨cq3, kq3, q3a, q3b, q3c⟩ := isOf hZ e1 P1
  obtain ⟨_, _, ⟨T3, L3, k3, n3⟩, -, X3, ⟨Lc3, hQ3, l3, y3, z3⟩, st3⟩ := X1.virtualBack hx (y := (⟨"java/lang/String", "coder", "()B"⟩ : MethodName)) (z := (⟨"java/lang/String", "coder", "()B"⟩ : MethodName)) hown (mvT hZ (hw _ (mg 83 rfl))) (mvT hZ (hw _ (mg 84 rfl))) (notFace_of_selects (args := #[]) (mvT hZ (hw _ (mg 86 rfl)))) (mvT hZ (hw _ (mg 86 rfl))) (mvT hZ (hw _ (mg 85 rfl))) (by decide) (backOf (W := 1) (coder l Z a0 hw [] sa cs h0 n0 O0 P0 P2 (by first | assumption | omega | decide | simp_all : cs ≠ (0 : Int32))) hZ (hw _ (mg 87 rfl)) (hw _ (mg 11 rfl)) (by decide) (by decide)) q3a q3c (g := (mkF m 6 #[.val (.ref sa)] [(.ref sa), (.int z_)])) rfl (by rw [hml]; rfl) (Steps.refl _) (argsL := []) (rest := [(.int z_)]) (lenOf pd_10 rfl) rfl (by show 2 * 0 + _ ≤ _; exact Nat.le_of_eq rfl) (hb hby d17_6) (fun _ _ => ⟨rfl, e1, (by decide : 0 + 0 ≤ _), (by decide : 0 + 0 ≤ _)⟩)
  dsimp only [Pt.U, Pt.locs, Pt.cells, Pt.slots] at X3 l3 y3 z3 st3 hQ3
  subst y3 z3
  obtain ⟨rfl, N3q, e3⟩ := hQ3
  have N3 : Fr n0 L3 := by rw [l3]; exact Fr.app N0 N3q
  have X3 := own_mr X3 0 0 (by decide) (by decide)
  refine Go.tr st3 ?_
  show Go p e below _ (T3.setTop (mkF m 9 #[.val (.ref sa)] [(.int 0), (.int z_)]))
  refine Go.by (fun t k => XS.ishr X3.here hx rfl (hb hby d17_9) rfl k) ?_
  show Go p e below _ (T3.setTop (mkF m 10 #[.val (.ref sa)] [(.int (z_ >>> ((0 : Int32) &&& 31)))]))
  have hq : Q_length Z sa xa ka z_ vs cs h0 n0 (some (.int (z_ >>> ((0 : Int32) &&& 31)))) h0 _ := ⟨(congrArg (fun q => some (Value.int q)) (own_shr0 _)), N3, rfl⟩
  exact Go.retI X3 hx Bd.returns hlk (hb hby d17_10) (by decide) (by decide) (by rw [e3]; exact hq)
theorem d22_0 : decode jdk_29_method_69_code 0 = .ok (.iload_n 0, 1) := by decide +kernel
theorem d22_1 : decode jdk_29_method_69_code 1 = .ok (.iload_n 1, 1) := by decide +kernel
theorem d22_2 : decode jdk_29_method_69_code 2 = .ok (.if_icmp .gt 7, 3) := by decide +kernel
theorem d22_5 : decode jdk_29_method_69_code 5 = .ok (.iload_n 0, 1) := by decide +kernel
theorem d22_6 : decode jdk_29_method_69_code 6 = .ok (.goto 4, 3) := by decide +kernel
theorem d22_10 : decode jdk_29_method_69_code 10 = .ok (.ireturn, 1) := by decide +kernel
theorem ef_min_same (m : MethodId) (p_ : Int32) : entryFrame m #[(.int p_), (.int p_)] 2 = mkF m 0 #[.val (.int p_), .val (.int p_)] [] := by first | (simp [entryFrame, mkF, argsToLocals, Value.category]; done) | rfl
def Q_min_same (Z : State) (p_ : Int32) (p_ : Int32) (h0 : Heap) (n0 : Nat) (v : Option Value) (h : Heap) (L : List Loc) : Prop := v = some (.int p_) ∧ Fr n0 L ∧ h = h0
set_option maxRecDepth 65536 in
set_option maxHeartbeats 40000000 in
theorem min_same (l : Launch) (Z : State) (a0 : Array Value) (hw : ∀ d ∈ tables_1, d.before a0 Z = true) (ws : List Jvm.Cond) (p_ : Int32) (p_ : Int32) (h0 : Heap) (n0 : Nat) (O0 : Old Z n0 h0) :
    MetFree l (⟨"java/lang/Math", "min", "(II)I"⟩ : MethodName) (head1 (Jvm.Cond.code (⟨"java/lang/Math", "min", "(II)I"⟩ : MethodName) jdk_29_method_69_code 2 (some .int) :: ws) ({ frames := 0, cells := 0, slots := 0, locals := 0 } : Room)) (fun a U => a = #[(.int p_), (.int p_)] ∧ Z.Warmed39 U.vm ∧ U.heap = h0) (fun _ _ _ _ _ => True) (fun _ U o U' => ∃ v L, o = .returned v ∧ Q_min_same Z p_ p_ h0 n0 v U'.heap L ∧ FrameEnd U o U' L ({ frames := 0, cells := 0, slots := 0, locals := 0 } : Room).cells ({ frames := 0, cells := 0, slots := 0, locals := 0 } : Room).slots) := by
  refine MetFree.of_bodySF (Jvm.Free.JP.mathPlain rfl (by decide +kernel)) hisR ?_
  intro p e s m args below meth c s₁ Bd hml0 hP hK
  obtain ⟨rfl, hZ, hh⟩ := hP
  have hx := Bd.exec
  have hby := Bd.bytes
  have hml : c.maxLocals = 2 := hml0
  have hown : s.vm.findClass "java/lang/Math" = some m.cls := findClass_of_methodNamed Bd.named
  have hnm := (name_of_methodNamed Bd.named Bd.method).1
  have hlk := BodyLoose.notSynchronized Bd
  have X0 : Stand p l e ({ frames := 0, cells := 0, slots := 0, locals := 0 } : Room) s m #[(.int p_), (.int p_)] below meth c s₁ [] 0 0 := Stand.of_body Bd
  have e0 : s₁.heap = h0 := by rw [← hh, Bd.state]; rfl
  have N0 := Fr.nil n0
  refine Go.start (P := fun o U' => ∃ v L, o = .returned v ∧ Q_min_same Z p_ p_ h0 n0 v U'.heap L ∧ FrameEnd s o U' L ({ frames := 0, cells := 0, slots := 0, locals := 0 } : Room).cells ({ frames := 0, cells := 0, slots := 0, locals := 0 } : Room).slots) (ef_min_same m p_) ?_
  show Go p e below _ (s₁.setTop (mkF m 0 #[qI p_, qI p_] []))
  refine Go.by (fun t k => XS.iloadN X0.here hx rfl (hb hby d22_0) rfl (XS.iloadN X0.here hx rfl (hb hby d22_1) rfl (XS.icmpNo X0.here hx rfl (hb hby d22_2) rfl (flt Int32.lt_irrefl).2.2.1 (XS.iloadN X0.here hx rfl (hb hby d22_5) rfl (XS.goto X0.here hx rfl (pc0 := 6) (pc' := 10) rfl (hb hby d22_6) (by decide) (by decide) k))))) ?_
  show Go p e below _ (s₁.setTop (mkF m 10 #[qI p_, qI p_] [(.int p_)]))
  have hq : Q_min_same Z p_ p_ h0 n0 (some (.int p_)) h0 _ := ⟨rfl, N0, rfl⟩
  exact Go.retI X0 hx Bd.returns hlk (hb hby d22_10) (by decide) (by decide) (by rw [e0]; exact hq)
theorem d22_9 : decode jdk_29_method_69_code 9 = .ok (.iload_n 1, 1) := by decide +kernel
theorem ef_min_r (m : MethodId) (p_ : Int32) (q_ : Int32) : entryFrame m #[(.int p_), (.int q_)] 2 = mkF m 0 #[.val (.int p_), .val (.int q_)] [] := by first | (simp [entryFrame, mkF, argsToLocals, Value.category]; done) | rfl
def Q_min_r (Z : State) (p_ : Int32) (q_ : Int32) (h0 : Heap) (n0 : Nat) (v : Option Value) (h : Heap) (L : List Loc) : Prop := v = some (.int q_) ∧ Fr n0 L ∧ h = h0
set_option maxRecDepth 65536 in
set_option maxHeartbeats 40000000 in
theorem min_r (l : Launch) (Z : State) (a0 : Array Value) (hw : ∀ d ∈ tables_1, d.before a0 Z = true) (ws : List Jvm.Cond) (p_ : Int32) (q_ : Int32) (h0 : Heap) (n0 : Nat) (O0 : Old Z n0 h0) (ha1 : q_ < p_) :
    MetFree l (⟨"java/lang/Math", "min", "(II)I"⟩ : MethodName) (head1 (Jvm.Cond.code (⟨"java/lang/Math", "min", "(II)I"⟩ : MethodName) jdk_29_method_69_code 2 (some .int) :: ws) ({ frames := 0, cells := 0, slots := 0, locals := 0 } : Room)) (fun a U => a = #[(.int p_), (.int q_)] ∧ Z.Warmed39 U.vm ∧ U.heap = h0) (fun _ _ _ _ _ => True) (fun _ U o U' => ∃ v L, o = .returned v ∧ Q_min_r Z p_ q_ h0 n0 v U'.heap L ∧ FrameEnd U o U' L ({ frames := 0, cells := 0, slots := 0, locals := 0 } : Room).cells ({ frames := 0, cells := 0, slots := 0, locals := 0 } : Room).slots) := by
  refine MetFree.of_bodySF (Jvm.Free.JP.mathPlain rfl (by decide +kernel)) hisR ?_
  intro p e s m args below meth c s₁ Bd hml0 hP hK
  obtain ⟨rfl, hZ, hh⟩ := hP
  have hx := Bd.exec
  have hby := Bd.bytes
  have hml : c.maxLocals = 2 := hml0
  have hown : s.vm.findClass "java/lang/Math" = some m.cls := findClass_of_methodNamed Bd.named
  have hnm := (name_of_methodNamed Bd.named Bd.method).1
  have hlk := BodyLoose.notSynchronized Bd
  have X0 : Stand p l e ({ frames := 0, cells := 0, slots := 0, locals := 0 } : Room) s m #[(.int p_), (.int q_)] below meth c s₁ [] 0 0 := Stand.of_body Bd
  have e0 : s₁.heap = h0 := by rw [← hh, Bd.state]; rfl
  have N0 := Fr.nil n0
  refine Go.start (P := fun o U' => ∃ v L, o = .returned v ∧ Q_min_r Z p_ q_ h0 n0 v U'.heap L ∧ FrameEnd s o U' L ({ frames := 0, cells := 0, slots := 0, locals := 0 } : Room).cells ({ frames := 0, cells := 0, slots := 0, locals := 0 } : Room).slots) (ef_min_r m p_ q_) ?_
  show Go p e below _ (s₁.setTop (mkF m 0 #[qI p_, qI q_] []))
  refine Go.by (fun t k => XS.iloadN X0.here hx rfl (hb hby d22_0) rfl (XS.iloadN X0.here hx rfl (hb hby d22_1) rfl (XS.icmpYes X0.here hx rfl (pc0 := 2) (pc' := 9) rfl (hb hby d22_2) rfl (tlt ha1).2.2.1 (by decide) (by decide) (XS.iloadN X0.here hx rfl (hb hby d22_9) rfl k)))) ?_
  show Go p e below _ (s₁.setTop (mkF m 10 #[qI p_, qI q_] [(.int q_)]))
  have hq : Q_min_r Z p_ q_ h0 n0 (some (.int q_)) h0 _ := ⟨rfl, N0, rfl⟩
  exact Go.retI X0 hx Bd.returns hlk (hb hby d22_10) (by decide) (by decide) (by rw [e0]; exact hq)
theorem d21_0 : decode jdk_43_method_4_code 0 = .ok (.iload_n 0, 1) := by decide +kernel
theorem d21_1 : decode jdk_43_method_4_code 1 = .ok (.ifCond .lt 14, 3) := by decide +kernel
theorem d21_4 : decode jdk_43_method_4_code 4 = .ok (.iload_n 0, 1) := by decide +kernel
theorem d21_5 : decode jdk_43_method_4_code 5 = .ok (.sipush 255, 3) := by decide +kernel
theorem d21_8 : decode jdk_43_method_4_code 8 = .ok (.if_icmp .gt 7, 3) := by decide +kernel
theorem d21_11 : decode jdk_43_method_4_code 11 = .ok (.iconst 1, 1) := by decide +kernel
theorem d21_12 : decode jdk_43_method_4_code 12 = .ok (.goto 4, 3) := by decide +kernel
theorem d21_16 : decode jdk_43_method_4_code 16 = .ok (.ireturn, 1) := by decide +kernel
theorem ef_canEnc (m : MethodId)  : entryFrame m #[(.int (47 : Int32))] 1 = mkF m 0 #[.val (.int (47 : Int32))] [] := by first | (simp [entryFrame, mkF, argsToLocals, Value.category]; done) | rfl
def Q_canEnc (Z : State)  (h0 : Heap) (n0 : Nat) (v : Option Value) (h : Heap) (L : List Loc) : Prop := v = some (.int 1) ∧ Fr n0 L ∧ h = h0
set_option maxRecDepth 65536 in
set_option maxHeartbeats 40000000 in
theorem canEnc (l : Launch) (Z : State) (a0 : Array Value) (hw : ∀ d ∈ tables_1, d.before a0 Z = true) (ws : List Jvm.Cond)  (h0 : Heap) (n0 : Nat) (O0 : Old Z n0 h0) :
    MetFree l (⟨"java/lang/StringLatin1", "canEncode", "(I)Z"⟩ : MethodName) (head1 (Jvm.Cond.code (⟨"java/lang/StringLatin1", "canEncode", "(I)Z"⟩ : MethodName) jdk_43_method_4_code 1 (some .boolean) :: ws) ({ frames := 0, cells := 0, slots := 0, locals := 0 } : Room)) (fun a U => a = #[(.int 47)] ∧ Z.Warmed39 U.vm ∧ U.heap = h0) (fun _ _ _ _ _ => True) (fun _ U o U' => ∃ v L, o = .returned v ∧ Q_canEnc Z  h0 n0 v U'.heap L ∧ FrameEnd U o U' L ({ frames := 0, cells := 0, slots := 0, locals := 0 } : Room).cells ({ frames := 0, cells := 0, slots := 0, locals := 0 } : Room).slots) := by
  refine MetFree.of_bodySF (plainFor_of_name pn_3) hisR ?_
  intro p e s m args below meth c s₁ Bd hml0 hP hK
  obtain ⟨rfl, hZ, hh⟩ := hP
  have hx := Bd.exec
  have hby := Bd.bytes
  have hml : c.maxLocals = 1 := hml0
  have hown : s.vm.findClass "java/lang/StringLatin1" = some m.cls := findClass_of_methodNamed Bd.named
  have hnm := (name_of_methodNamed Bd.named Bd.method).1
  have hlk := BodyLoose.notSynchronized Bd
  have X0 : Stand p l e ({ frames := 0, cells := 0, slots := 0, locals := 0 } : Room) s m #[(.int 47)] below meth c s₁ [] 0 0 := Stand.of_body Bd
  have e0 : s₁.heap = h0 := by rw [← hh, Bd.state]; rfl
  have N0 := Fr.nil n0
  refine Go.start (P := fun o U' => ∃ v L, o = .returned v ∧ Q_canEnc Z  h0 n0 v U'.heap L ∧ FrameEnd s o U' L ({ frames := 0, cells := 0, slots := 0, locals := 0 } : Room).cells ({ frames := 0, cells := 0, slots := 0, locals := 0 } : Room).slots) (ef_canEnc m ) ?_
  show Go p e below _ (s₁.setTop (mkF m 0 #[qI 47] []))
  refine Go.by (fun t k => XS.iloadN X0.here hx rfl (hb hby d21_0) rfl (XS.ifNo X0.here hx rfl (hb hby d21_1) rfl ((if0 _ _).trans (flt (by decide : ¬ ((47 : Int32) < (0 : Int32)))).1) (XS.iloadN X0.here hx rfl (hb hby d21_4) rfl (XS.sipush X0.here hx rfl (hb hby d21_5) (XS.icmpNo X0.here hx rfl (hb hby d21_8) rfl (flt (by decide : ¬ ((255 : Int32) < (47 : Int32)))).2.2.1 (XS.iconst X0.here hx rfl (hb hby d21_11) (XS.goto X0.here hx rfl (pc0 := 12) (pc' := 16) rfl (hb hby d21_12) (by decide) (by decide) k))))))) ?_
  show Go p e below _ (s₁.setTop (mkF m 16 #[qI 47] [(.int 1)]))
  have hq : Q_canEnc Z  h0 n0 (some (.int (nar .boolean (1 : Int32)))) h0 _ := ⟨rfl, N0, rfl⟩
  exact Go.retN X0 hx (t := .boolean) Bd.returns (by simp) hlk (hb hby d21_16) (by decide) (by decide) (by rw [e0]; exact hq)
theorem d20_0 : decode jdk_43_method_27_code 0 = .ok (.iload_n 1, 1) := by decide +kernel
theorem d20_1 : decode jdk_43_method_27_code 1 = .ok (.invokestatic 88, 3) := by decide +kernel
theorem pd_11 : parseMethodDescriptor "(I)Z" = some ⟨[.int], some .boolean⟩ := by decide +kernel
theorem d20_4 : decode jdk_43_method_27_code 4 = .ok (.ifCond .ne 5, 3) := by decide +kernel
theorem d20_9 : decode jdk_43_method_27_code 9 = .ok (.iload_n 2, 1) := by decide +kernel
theorem d20_10 : decode jdk_43_method_27_code 10 = .ok (.aload_n 0, 1) := by decide +kernel
theorem d20_11 : decode jdk_43_method_27_code 11 = .ok (.arraylength, 1) := by decide +kernel
theorem d20_12 : decode jdk_43_method_27_code 12 = .ok (.iconst 1, 1) := by decide +kernel
theorem d20_13 : decode jdk_43_method_27_code 13 = .ok (.isub, 1) := by decide +kernel
theorem d20_14 : decode jdk_43_method_27_code 14 = .ok (.invokestatic 38, 3) := by decide +kernel
theorem pd_12 : parseMethodDescriptor "(II)I" = some ⟨[.int, .int], some .int⟩ := by decide +kernel
theorem d20_17 : decode jdk_43_method_27_code 17 = .ok (.istore_n 3, 1) := by decide +kernel
theorem d20_18 : decode jdk_43_method_27_code 18 = .ok (.iload_n 3, 1) := by decide +kernel
theorem d20_19 : decode jdk_43_method_27_code 19 = .ok (.ifCond .lt 19, 3) := by decide +kernel
theorem d20_22 : decode jdk_43_method_27_code 22 = .ok (.aload_n 0, 1) := by decide +kernel
theorem d20_23 : decode jdk_43_method_27_code 23 = .ok (.iload_n 3, 1) := by decide +kernel
theorem d20_24 : decode jdk_43_method_27_code 24 = .ok (.baload, 1) := by decide +kernel
theorem d20_25 : decode jdk_43_method_27_code 25 = .ok (.iload_n 1, 1) := by decide +kernel
theorem d20_26 : decode jdk_43_method_27_code 26 = .ok (.i2b, 1) := by decide +kernel
theorem d20_27 : decode jdk_43_method_27_code 27 = .ok (.if_icmp .ne 5, 3) := by decide +kernel
theorem d20_30 : decode jdk_43_method_27_code 30 = .ok (.iload_n 3, 1) := by decide +kernel
theorem d20_31 : decode jdk_43_method_27_code 31 = .ok (.ireturn, 1) := by decide +kernel
theorem d20_32 : decode jdk_43_method_27_code 32 = .ok (.iinc 3 (-1), 3) := by decide +kernel
theorem d20_35 : decode jdk_43_method_27_code 35 = .ok (.goto (-17), 3) := by decide +kernel
theorem ef_latLast (m : MethodId) (xa : Addr) (f_ : Int32) : entryFrame m #[(.ref xa), (.int (47 : Int32)), (.int f_)] 4 = mkF m 0 #[.val (.ref xa), .val (.int (47 : Int32)), .val (.int f_), .unset] [] := by first | (simp [entryFrame, mkF, argsToLocals, Value.category]; done) | rfl
def Q_latLast (Z : State) (xa : Addr) (f_ : Int32) (ka : ClassId) (z_ : Int32) (vs : List Value) (r_ : Int32) (h0 : Heap) (n0 : Nat) (v : Option Value) (h : Heap) (L : List Loc) : Prop := v = some (.int r_) ∧ Fr n0 L ∧ h = h0
set_option maxRecDepth 65536 in
set_option maxHeartbeats 40000000 in
theorem latLast (l : Launch) (Z : State) (a0 : Array Value) (hw : ∀ d ∈ tables_1, d.before a0 Z = true) (ws : List Jvm.Cond) (xa : Addr) (f_ : Int32) (ka : ClassId) (z_ : Int32) (vs : List Value) (r_ : Int32) (h0 : Heap) (n0 : Nat) (O0 : Old Z n0 h0) (P0 : Arv Z h0 xa ka .byte z_ vs (.int 0)) (hf : f_ = (z_ - (1 : Int32))) (hl : own_last vs z_ r_) :
    MetFree l (⟨"java/lang/StringLatin1", "lastIndexOf", "([BII)I"⟩ : MethodName) (head1 (Jvm.Cond.code (⟨"java/lang/StringLatin1", "lastIndexOf", "([BII)I"⟩ : MethodName) jdk_43_method_27_code 4 (some .int) :: ws) ({ frames := 1, cells := 0, slots := 0, locals := 13 } : Room)) (fun a U => a = #[(.ref xa), (.int 47), (.int f_)] ∧ Z.Warmed39 U.vm ∧ U.heap = h0) (fun _ _ _ _ _ => True) (fun _ U o U' => ∃ v L, o = .returned v ∧ Q_latLast Z xa f_ ka z_ vs r_ h0 n0 v U'.heap L ∧ FrameEnd U o U' L ({ frames := 1, cells := 0, slots := 0, locals := 13 } : Room).cells ({ frames := 1, cells := 0, slots := 0, locals := 13 } : Room).slots) := by
  refine MetFree.of_bodySF (plainFor_of_name pn_3) hisR ?_
  intro p e s m args below meth c s₁ Bd hml0 hP hK
  obtain ⟨rfl, hZ, hh⟩ := hP
  have hx := Bd.exec
  have hby := Bd.bytes
  have hml : c.maxLocals = 4 := hml0
  have hown : s.vm.findClass "java/lang/StringLatin1" = some m.cls := findClass_of_methodNamed Bd.named
  have hnm := (name_of_methodNamed Bd.named Bd.method).1
  have hlk := BodyLoose.notSynchronized Bd
  have X0 : Stand p l e ({ frames := 1, cells := 0, slots := 0, locals := 13 } : Room) s m #[(.ref xa), (.int 47), (.int f_)] below meth c s₁ [] 0 0 := Stand.of_body Bd
  have e0 : s₁.heap = h0 := by rw [← hh, Bd.state]; rfl
  have N0 := Fr.nil n0
  refine Go.start (P := fun o U' => ∃ v L, o = .returned v ∧ Q_latLast Z xa f_ ka z_ vs r_ h0 n0 v U'.heap L ∧ FrameEnd s o U' L ({ frames := 1, cells := 0, slots := 0, locals := 13 } : Room).cells ({ frames := 1, cells := 0, slots := 0, locals := 13 } : Room).slots) (ef_latLast m xa f_) ?_
  show Go p e below _ (s₁.setTop (mkF m 0 #[.val (.ref xa), qI 47, qI f_, qU] []))
  refine Go.by (fun t k => XS.iloadN X0.here hx rfl (hb hby d20_0) rfl k) ?_
  show Go p e below _ (s₁.setTop (mkF m 1 #[.val (.ref xa), qI 47, qI f_, qU] [(.int 47)]))
  obtain ⟨_, _, ⟨T1, L1, k1, n1⟩, -, X1, ⟨Lc1, hQ1, l1, y1, z1⟩, st1⟩ := Jvm.LawKit.callS X0 hx (y := (⟨"java/lang/StringLatin1", "canEncode", "(I)Z"⟩ : MethodName)) hown (mvT hZ (hw _ (mg 96 rfl))) (mvT hZ (hw _ (mg 97 rfl))) (mvT hZ (hw _ (mg 33 rfl))) (mvT hZ (hw _ (mg 98 rfl))) (by decide) (backOf (W := 0) (canEnc l Z a0 hw []  h0 n0 O0) hZ (hw _ (mg 98 rfl)) (hw _ (mg 33 rfl)) (by decide) (by decide)) (g := (mkF m 1 #[.val (.ref xa), qI 47, qI f_, qU] [(.int 47)])) rfl (by rw [hml]; rfl) (argsL := [(.int 47)]) (rest := []) (lenOf pd_11 rfl) rfl (by show 2 * 0 + _ ≤ _; exact Nat.le_of_eq rfl) (hb hby d20_1) (fun _ _ => ⟨rfl, e0, (by decide : 0 + 0 ≤ _), (by decide : 0 + 0 ≤ _)⟩)
  dsimp only [Pt.U, Pt.locs, Pt.cells, Pt.slots] at X1 l1 y1 z1 st1 hQ1
  subst y1 z1
  obtain ⟨rfl, N1q, e1⟩ := hQ1
  have N1 : Fr n0 L1 := by rw [l1]; exact Fr.app N0 N1q
  have X1 := own_mr X1 0 0 (by decide) (by decide)
  refine Go.by st1 ?_
  show Go p e below _ (T1.setTop (mkF m 4 #[.val (.ref xa), qI 47, qI f_, qU] [(.int 1)]))
  refine Go.by (fun t k => XS.ifYes X1.here hx rfl (pc0 := 4) (pc' := 9) rfl (hb hby d20_4) rfl ((if0 _ _).trans (feq (by decide : ¬ ((1 : Int32) = (0 : Int32)))).2) (by decide) (by decide) (XS.iloadN X1.here hx rfl (hb hby d20_9) rfl (XS.aloadN X1.here hx rfl (hb hby d20_10) rfl rfl k))) ?_
  show Go p e below _ (T1.setTop (mkF m 11 #[.val (.ref xa), qI 47, qI f_, qU] [(.ref xa), (.int f_)]))
  obtain ⟨cl2, Ar2, qk2, sz2, nn2, Ha2, Gf2⟩ := id P0
  have hl2 : cl2.slots.size.toInt32 = z_ := len_of sz2 nn2
  refine Go.by (fun t k => X1.arraylength hx (by rw [e1]; exact Ar2.1) (State.isArrayOf_alike hZ.alike Ar2.2.1) (g := (mkF m 11 #[.val (.ref xa), qI 47, qI f_, qU] [(.ref xa), (.int f_)])) rfl rfl (hb hby d20_11) t (by rw [hl2]; exact k)) ?_
  show Go p e below _ (T1.setTop (mkF m 12 #[.val (.ref xa), qI 47, qI f_, qU] [(.int z_), (.int f_)]))
  refine Go.by (fun t k => XS.iconst X1.here hx rfl (hb hby d20_12) (XS.isub X1.here hx rfl (hb hby d20_13) rfl k)) ?_
  show Go p e below _ (T1.setTop (mkF m 14 #[.val (.ref xa), qI 47, qI f_, qU] [(.int (z_ - (1 : Int32))), (.int f_)]))
  rw [show T1.setTop (mkF m 14 #[.val (.ref xa), qI 47, qI f_, qU] [(.int (z_ - (1 : Int32))), (.int f_)]) = T1.setTop (mkF m 14 #[.val (.ref xa), qI 47, qI f_, qU] [(.int f_), (.int f_)]) from by rw [hf]]
  show Go p e below _ (T1.setTop (mkF m 14 #[.val (.ref xa), qI 47, qI f_, qU] [(.int f_), (.int f_)]))
  obtain ⟨_, _, ⟨T3, L3, k3, n3⟩, -, X3, ⟨Lc3, hQ3, l3, y3, z3⟩, st3⟩ := Jvm.LawKit.callS X1 hx (y := (⟨"java/lang/Math", "min", "(II)I"⟩ : MethodName)) hown (mvT hZ (hw _ (mg 99 rfl))) (mvT hZ (hw _ (mg 100 rfl))) (mvT hZ (hw _ (mg 101 rfl))) (mvT hZ (hw _ (mg 102 rfl))) (by decide) (backOf (W := 0) (min_same l Z a0 hw [] f_ f_ h0 n0 O0) hZ (hw _ (mg 102 rfl)) (hw _ (mg 101 rfl)) (by decide) (by decide)) (g := (mkF m 14 #[.val (.ref xa), qI 47, qI f_, qU] [(.int f_), (.int f_)])) rfl (by rw [hml]; rfl) (argsL := [(.int f_), (.int f_)]) (rest := []) (lenOf pd_12 rfl) rfl (by show 2 * 0 + _ ≤ _; exact Nat.le_of_eq rfl) (hb hby d20_14) (fun _ _ => ⟨rfl, e1, (by decide : 0 + 0 ≤ _), (by decide : 0 + 0 ≤ _)⟩)
  dsimp only [Pt.U, Pt.locs, Pt.cells, Pt.slots] at X3 l3 y3 z3 st3 hQ3
  subst y3 z3
  obtain ⟨rfl, N3q, e3⟩ := hQ3
  have N3 : Fr n0 L3 := by rw [l3]; exact Fr.app N1 N3q
  have X3 := own_mr X3 0 0 (by decide) (by decide)
  refine Go.by st3 ?_
  show Go p e below _ (T3.setTop (mkF m 17 #[.val (.ref xa), qI 47, qI f_, qU] [(.int f_)]))
  refine Go.by (fun t k => XS.istoreN X3.here hx rfl (hb hby d20_17) rfl (l' := #[.val (.ref xa), qI 47, qI f_, qI f_]) rfl k) ?_
  show Go p e below _ (T3.setTop (mkF m 18 #[.val (.ref xa), qI 47, qI f_, qI f_] []))
  have L18 : ∀ (k : Nat) (j_i : Int32), j_i.toInt = r_.toInt + (k : Nat) → j_i.toInt < z_.toInt → Go p e below (fun o U' => ∃ v L, o = .returned v ∧ Q_latLast Z xa f_ ka z_ vs r_ h0 n0 v U'.heap L ∧ FrameEnd s o U' L ({ frames := 1, cells := 0, slots := 0, locals := 13 } : Room).cells ({ frames := 1, cells := 0, slots := 0, locals := 13 } : Room).slots) (T3.setTop (mkF m 18 #[.val (.ref xa), qI 47, qI f_, qI j_i] [])) := by
    intro k; induction k with
    | zero =>
      intro j_i hj hk
      have ej : j_i = r_ := Int32.toInt_inj.mp (by omega)
      show Go p e below _ (T3.setTop (mkF m 18 #[.val (.ref xa), qI 47, qI f_, qI j_i] []))
      refine Go.by (fun t k => XS.iloadN X3.here hx rfl (hb hby d20_18) rfl (XS.ifNo X3.here hx rfl (hb hby d20_19) rfl ((if0 _ _).trans (flt (own_nn (by have := hl.1; omega))).1) (XS.aloadN X3.here hx rfl (hb hby d20_22) rfl rfl (XS.iloadN X3.here hx rfl (hb hby d20_23) rfl k)))) ?_
      show Go p e below _ (T3.setTop (mkF m 24 #[.val (.ref xa), qI 47, qI f_, qI j_i] [(.int j_i), (.ref xa)]))
      obtain ⟨cl4, Ar4, qk4, sz4, nn4, Ha4, Gf4⟩ := id P0
      have hin5 : ¬ (j_i < 0 ∨ cl4.slots.size ≤ (j_i).toNatClampNeg) := inb_of sz4 ⟨own_nn (by have := hl.1; omega), own_lt hk⟩
      have hat6 : cl4.slots[(j_i).toNatClampNeg]? = some (.int 47) := Has.at Ha4 hin5 (by rw [ej]; exact hl.2.1)
      refine Go.by (fun t k => X3.baloadBytes hx (j := j_i) (v := (.int 47)) (by rw [e3]; exact Ar4.1) (State.isArrayOf_alike hZ.alike Ar4.2.1) Ar4.2.2 hin5 hat6 (g := (mkF m 24 #[.val (.ref xa), qI 47, qI f_, qI j_i] [(.int j_i), (.ref xa)])) rfl rfl (hb hby d20_24) t k) ?_
      show Go p e below _ (T3.setTop (mkF m 25 #[.val (.ref xa), qI 47, qI f_, qI j_i] [(.int 47)]))
      refine Go.by (fun t k => XS.iloadN X3.here hx rfl (hb hby d20_25) rfl (XS.i2b X3.here hx rfl (hb hby d20_26) rfl (XS.icmpNo X3.here hx rfl (hb hby d20_27) rfl (teq (by decide)).2 (XS.iloadN X3.here hx rfl (hb hby d20_30) rfl k)))) ?_
      show Go p e below _ (T3.setTop (mkF m 31 #[.val (.ref xa), qI 47, qI f_, qI j_i] [(.int j_i)]))
      have hq : Q_latLast Z xa f_ ka z_ vs r_ h0 n0 (some (.int j_i)) h0 _ := ⟨(by rw [ej]), N3, rfl⟩
      exact Go.retI X3 hx Bd.returns hlk (hb hby d20_31) (by decide) (by decide) (by rw [e3]; exact hq)
    | succ k ih =>
      intro j_i hj hk
      show Go p e below _ (T3.setTop (mkF m 18 #[.val (.ref xa), qI 47, qI f_, qI j_i] []))
      refine Go.by (fun t k => XS.iloadN X3.here hx rfl (hb hby d20_18) rfl (XS.ifNo X3.here hx rfl (hb hby d20_19) rfl ((if0 _ _).trans (flt (own_nn (by have := hl.1; omega))).1) (XS.aloadN X3.here hx rfl (hb hby d20_22) rfl rfl (XS.iloadN X3.here hx rfl (hb hby d20_23) rfl k)))) ?_
      show Go p e below _ (T3.setTop (mkF m 24 #[.val (.ref xa), qI 47, qI f_, qI j_i] [(.int j_i), (.ref xa)]))
      obtain ⟨cl7, Ar7, qk7, sz7, nn7, Ha7, Gf7⟩ := id P0
      have hin8 : ¬ (j_i < 0 ∨ cl7.slots.size ≤ (j_i).toNatClampNeg) := inb_of sz7 ⟨own_nn (by have := hl.1; omega), own_lt hk⟩
      obtain ⟨bj, hbj⟩ := own_fitb (Gf7 _ (Nat.lt_of_not_le fun q => hin8 (Or.inr q)))
      have hat9 : cl7.slots[(j_i).toNatClampNeg]? = some (.int bj) := Has.at Ha7 hin8 hbj
      refine Go.by (fun t k => X3.baloadBytes hx (j := j_i) (v := (.int bj)) (by rw [e3]; exact Ar7.1) (State.isArrayOf_alike hZ.alike Ar7.2.1) Ar7.2.2 hin8 hat9 (g := (mkF m 24 #[.val (.ref xa), qI 47, qI f_, qI j_i] [(.int j_i), (.ref xa)])) rfl rfl (hb hby d20_24) t k) ?_
      show Go p e below _ (T3.setTop (mkF m 25 #[.val (.ref xa), qI 47, qI f_, qI j_i] [(.int bj)]))
      refine Go.by (fun t k => XS.iloadN X3.here hx rfl (hb hby d20_25) rfl (XS.i2b X3.here hx rfl (hb hby d20_26) rfl (XS.icmpYes X3.here hx rfl (pc0 := 27) (pc' := 32) rfl (hb hby d20_27) rfl (feq (fun q => hl.2.2 _ (own_natlt hl.1.1 (by omega)) (own_natlt (by have := hl.1; omega) hk) (hbj.trans (by rw [q]; rfl)))).2 (by decide) (by decide) (XS.iinc X3.here hx rfl (hb hby d20_32) rfl (l' := #[.val (.ref xa), qI 47, qI f_, .val (.int (j_i + (-1 : Int32)))]) rfl (XS.goto X3.here hx rfl (pc0 := 35) (pc' := 18) rfl (hb hby d20_35) (by decide) (by decide) k))))) ?_
      show Go p e below _ (T3.setTop (mkF m 18 #[.val (.ref xa), qI 47, qI f_, .val (.int (j_i + (-1 : Int32)))] []))
      exact ih _ (own_dn hj hk hl.1.1).1 (own_dn hj hk hl.1.1).2
  have hz0 : 0 < z_.toInt := by have := hl.1; omega
  exact L18 (z_.toInt - 1 - r_.toInt).toNat _ (by rw [hf, own_z1 hz0]; have := hl.1; omega) (by rw [hf, own_z1 hz0]; omega)
theorem d19_0 : decode jdk_42_method_83_code 0 = .ok (.aload_n 0, 1) := by decide +kernel
theorem d19_1 : decode jdk_42_method_83_code 1 = .ok (.invokevirtual 492, 3) := by decide +kernel
theorem d19_4 : decode jdk_42_method_83_code 4 = .ok (.ifCond .eq 15, 3) := by decide +kernel
theorem d19_7 : decode jdk_42_method_83_code 7 = .ok (.aload_n 0, 1) := by decide +kernel
theorem d19_8 : decode jdk_42_method_83_code 8 = .ok (.getfield 9, 3) := by decide +kernel
theorem d19_11 : decode jdk_42_method_83_code 11 = .ok (.iload_n 1, 1) := by decide +kernel
theorem d19_12 : decode jdk_42_method_83_code 12 = .ok (.iload_n 2, 1) := by decide +kernel
theorem d19_13 : decode jdk_42_method_83_code 13 = .ok (.invokestatic 644, 3) := by decide +kernel
theorem pd_13 : parseMethodDescriptor "([BII)I" = some ⟨[(.array .byte), .int, .int], some .int⟩ := by decide +kernel
theorem d19_16 : decode jdk_42_method_83_code 16 = .ok (.goto 12, 3) := by decide +kernel
theorem d19_28 : decode jdk_42_method_83_code 28 = .ok (.ireturn, 1) := by decide +kernel
theorem ef_strLast2 (m : MethodId) (sa : Addr) (f_ : Int32) : entryFrame m #[(.ref sa), (.int (47 : Int32)), (.int f_)] 3 = mkF m 0 #[.val (.ref sa), .val (.int (47 : Int32)), .val (.int f_)] [] := by first | (simp [entryFrame, mkF, argsToLocals, Value.category]; done) | rfl
def Q_strLast2 (Z : State) (sa : Addr) (f_ : Int32) (xa : Addr) (ka : ClassId) (z_ : Int32) (vs : List Value) (r_ : Int32) (cs : Int32) (h0 : Heap) (n0 : Nat) (v : Option Value) (h : Heap) (L : List Loc) : Prop := v = some (.int r_) ∧ Fr n0 L ∧ h = h0
set_option maxRecDepth 65536 in
set_option maxHeartbeats 40000000 in
theorem strLast2 (l : Launch) (Z : State) (a0 : Array Value) (hw : ∀ d ∈ tables_1, d.before a0 Z = true) (ws : List Jvm.Cond) (sa : Addr) (f_ : Int32) (xa : Addr) (ka : ClassId) (z_ : Int32) (vs : List Value) (r_ : Int32) (cs : Int32) (h0 : Heap) (n0 : Nat) (O0 : Old Z n0 h0) (P0 : Sta Z Z.heap "java/lang/String" "COMPACT_STRINGS" "Z" (.int cs)) (P1 : Exa Z h0 sa "java/lang/String") (P2 : Fld Z h0 sa "java/lang/String" "coder" "B" (.int 0)) (P3 : Fld Z h0 sa "java/lang/String" "value" "[B" (.ref xa)) (P4 : Arv Z h0 xa ka .byte z_ vs (.int 0)) (hcs : cs ≠ (0 : Int32)) (hf : f_ = (z_ - (1 : Int32))) (hl : own_last vs z_ r_) :
    MetFree l (⟨"java/lang/String", "lastIndexOf", "(II)I"⟩ : MethodName) (head1 (Jvm.Cond.code (⟨"java/lang/String", "lastIndexOf", "(II)I"⟩ : MethodName) jdk_42_method_83_code 3 (some .int) :: ws) ({ frames := 2, cells := 0, slots := 0, locals := 28 } : Room)) (fun a U => a = #[(.ref sa), (.int 47), (.int f_)] ∧ Z.Warmed39 U.vm ∧ U.heap = h0) (fun _ _ _ _ _ => True) (fun _ U o U' => ∃ v L, o = .returned v ∧ Q_strLast2 Z sa f_ xa ka z_ vs r_ cs h0 n0 v U'.heap L ∧ FrameEnd U o U' L ({ frames := 2, cells := 0, slots := 0, locals := 28 } : Room).cells ({ frames := 2, cells := 0, slots := 0, locals := 28 } : Room).slots) := by
  refine MetFree.of_bodySF (plainFor_of_name pn_1) hisR ?_
  intro p e s m args below meth c s₁ Bd hml0 hP hK
  obtain ⟨rfl, hZ, hh⟩ := hP
  have hx := Bd.exec
  have hby := Bd.bytes
  have hml : c.maxLocals = 3 := hml0
  have hown : s.vm.findClass "java/lang/String" = some m.cls := findClass_of_methodNamed Bd.named
  have hnm := (name_of_methodNamed Bd.named Bd.method).1
  have hlk := BodyLoose.notSynchronized Bd
  have X0 : Stand p l e ({ frames := 2, cells := 0, slots := 0, locals := 28 } : Room) s m #[(.ref sa), (.int 47), (.int f_)] below meth c s₁ [] 0 0 := Stand.of_body Bd
  have e0 : s₁.heap = h0 := by rw [← hh, Bd.state]; rfl
  have N0 := Fr.nil n0
  refine Go.start (P := fun o U' => ∃ v L, o = .returned v ∧ Q_strLast2 Z sa f_ xa ka z_ vs r_ cs h0 n0 v U'.heap L ∧ FrameEnd s o U' L ({ frames := 2, cells := 0, slots := 0, locals := 28 } : Room).cells ({ frames := 2, cells := 0, slots := 0, locals := 28 } : Room).slots) (ef_strLast2 m sa f_) ?_
  show Go p e below _ (s₁.setTop (mkF m 0 #[.val (.ref sa), qI 47, qI f_] []))
  refine Go.by (fun t k => XS.aloadN X0.here hx rfl (hb hby d19_0) rfl rfl k) ?_
  show Go p e below _ (s₁.setTop (mkF m 1 #[.val (.ref sa), qI 47, qI f_] [(.ref sa)]))
  obtain ⟨cq1, kq1, q1a, q1b, q1c⟩ := isOf hZ e0 P1
  obtain ⟨_, _, ⟨T1, L1, k1, n1⟩, -, X1, ⟨Lc1, hQ1, l1, y1, z1⟩, st1⟩ := X0.virtualBack hx (y := (⟨"java/lang/String", "isLatin1", "()Z"⟩ : MethodName)) (z := (⟨"java/lang/String", "isLatin1", "()Z"⟩ : MethodName)) hown (mvT hZ (hw _ (mg 23 rfl))) (mvT hZ (hw _ (mg 24 rfl))) (notFace_of_selects (args := #[]) (mvT hZ (hw _ (mg 26 rfl)))) (mvT hZ (hw _ (mg 26 rfl))) (mvT hZ (hw _ (mg 25 rfl))) (by decide) (backOf (W := 0) (isLat l Z a0 hw [] sa cs h0 n0 O0 P0 P2 (by first | assumption | omega | decide | simp_all : cs ≠ (0 : Int32))) hZ (hw _ (mg 27 rfl)) (hw _ (mg 11 rfl)) (by decide) (by decide)) q1a q1c (g := (mkF m 1 #[.val (.ref sa), qI 47, qI f_] [(.ref sa)])) rfl (by rw [hml]; rfl) (Steps.refl _) (argsL := []) (rest := []) (lenOf pd_2 rfl) rfl (by show 2 * 0 + _ ≤ _; exact Nat.le_of_eq rfl) (hb hby d19_1) (fun _ _ => ⟨rfl, e0, (by decide : 0 + 0 ≤ _), (by decide : 0 + 0 ≤ _)⟩)
  dsimp only [Pt.U, Pt.locs, Pt.cells, Pt.slots] at X1 l1 y1 z1 st1 hQ1
  subst y1 z1
  obtain ⟨rfl, N1q, e1⟩ := hQ1
  have N1 : Fr n0 L1 := by rw [l1]; exact Fr.app N0 N1q
  have X1 := own_mr X1 0 0 (by decide) (by decide)
  refine Go.tr st1 ?_
  show Go p e below _ (T1.setTop (mkF m 4 #[.val (.ref sa), qI 47, qI f_] [(.int 1)]))
  refine Go.by (fun t k => XS.ifNo X1.here hx rfl (hb hby d19_4) rfl ((if0 _ _).trans (feq (by decide : ¬ ((1 : Int32) = (0 : Int32)))).1) (XS.aloadN X1.here hx rfl (hb hby d19_7) rfl rfl k)) ?_
  show Go p e below _ (T1.setTop (mkF m 8 #[.val (.ref sa), qI 47, qI f_] [(.ref sa)]))
  obtain ⟨T2, X2, e2, st2⟩ := getF X1 hx hZ hown (host := "") (Or.inl (hw _ (mg 30 rfl))) Via.refl e1 P3 (g := (mkF m 8 #[.val (.ref sa), qI 47, qI f_] [(.ref sa)])) rfl rfl (hb hby d19_8)
  refine Go.by st2 ?_
  show Go p e below _ (T2.setTop (mkF m 11 #[.val (.ref sa), qI 47, qI f_] [(.ref xa)]))
  refine Go.by (fun t k => XS.iloadN X2.here hx rfl (hb hby d19_11) rfl (XS.iloadN X2.here hx rfl (hb hby d19_12) rfl k)) ?_
  show Go p e below _ (T2.setTop (mkF m 13 #[.val (.ref sa), qI 47, qI f_] [(.int f_), (.int 47), (.ref xa)]))
  obtain ⟨_, _, ⟨T3, L3, k3, n3⟩, -, X3, ⟨Lc3, hQ3, l3, y3, z3⟩, st3⟩ := Jvm.LawKit.callS X2 hx (y := (⟨"java/lang/StringLatin1", "lastIndexOf", "([BII)I"⟩ : MethodName)) hown (mvT hZ (hw _ (mg 93 rfl))) (mvT hZ (hw _ (mg 94 rfl))) (mvT hZ (hw _ (mg 33 rfl))) (mvT hZ (hw _ (mg 95 rfl))) (by decide) (backOf (W := 0) (latLast l Z a0 hw [] xa f_ ka z_ vs r_ h0 n0 O0 P4 hf hl) hZ (hw _ (mg 95 rfl)) (hw _ (mg 33 rfl)) (by decide) (by decide)) (g := (mkF m 13 #[.val (.ref sa), qI 47, qI f_] [(.int f_), (.int 47), (.ref xa)])) rfl (by rw [hml]; rfl) (argsL := [(.ref xa), (.int 47), (.int f_)]) (rest := []) (lenOf pd_13 rfl) rfl (by show 2 * 0 + _ ≤ _; exact Nat.le_of_eq rfl) (hb hby d19_13) (fun _ _ => ⟨rfl, e2, (by decide : 0 + 0 ≤ _), (by decide : 0 + 0 ≤ _)⟩)
  dsimp only [Pt.U, Pt.locs, Pt.cells, Pt.slots] at X3 l3 y3 z3 st3 hQ3
  subst y3 z3
  obtain ⟨rfl, N3q, e3⟩ := hQ3
  have N3 : Fr n0 L3 := by rw [l3]; exact Fr.app N1 N3q
  have X3 := own_mr X3 0 0 (by decide) (by decide)
  refine Go.by st3 ?_
  show Go p e below _ (T3.setTop (mkF m 16 #[.val (.ref sa), qI 47, qI f_] [(.int r_)]))
  refine Go.by (fun t k => XS.goto X3.here hx rfl (pc0 := 16) (pc' := 28) rfl (hb hby d19_16) (by decide) (by decide) k) ?_
  show Go p e below _ (T3.setTop (mkF m 28 #[.val (.ref sa), qI 47, qI f_] [(.int r_)]))
  have hq : Q_strLast2 Z sa f_ xa ka z_ vs r_ cs h0 n0 (some (.int r_)) h0 _ := ⟨rfl, N3, rfl⟩
  exact Go.retI X3 hx Bd.returns hlk (hb hby d19_28) (by decide) (by decide) (by rw [e3]; exact hq)
theorem d16_0 : decode jdk_42_method_82_code 0 = .ok (.aload_n 0, 1) := by decide +kernel
theorem d16_1 : decode jdk_42_method_82_code 1 = .ok (.iload_n 1, 1) := by decide +kernel
theorem d16_2 : decode jdk_42_method_82_code 2 = .ok (.aload_n 0, 1) := by decide +kernel
theorem d16_3 : decode jdk_42_method_82_code 3 = .ok (.invokevirtual 505, 3) := by decide +kernel
theorem pd_14 : parseMethodDescriptor "()I" = some ⟨[], some .int⟩ := by decide +kernel
theorem d16_6 : decode jdk_42_method_82_code 6 = .ok (.iconst 1, 1) := by decide +kernel
theorem d16_7 : decode jdk_42_method_82_code 7 = .ok (.isub, 1) := by decide +kernel
theorem d16_8 : decode jdk_42_method_82_code 8 = .ok (.invokevirtual 641, 3) := by decide +kernel
theorem d16_11 : decode jdk_42_method_82_code 11 = .ok (.ireturn, 1) := by decide +kernel
theorem ef_strLast (m : MethodId) (sa : Addr) : entryFrame m #[(.ref sa), (.int (47 : Int32))] 2 = mkF m 0 #[.val (.ref sa), .val (.int (47 : Int32))] [] := by first | (simp [entryFrame, mkF, argsToLocals, Value.category]; done) | rfl
def Q_strLast (Z : State) (sa : Addr) (xa : Addr) (ka : ClassId) (z_ : Int32) (vs : List Value) (r_ : Int32) (cs : Int32) (h0 : Heap) (n0 : Nat) (v : Option Value) (h : Heap) (L : List Loc) : Prop := v = some (.int r_) ∧ Fr n0 L ∧ h = h0
set_option maxRecDepth 65536 in
set_option maxHeartbeats 40000000 in
theorem strLast (l : Launch) (Z : State) (a0 : Array Value) (hw : ∀ d ∈ tables_1, d.before a0 Z = true) (ws : List Jvm.Cond) (sa : Addr) (xa : Addr) (ka : ClassId) (z_ : Int32) (vs : List Value) (r_ : Int32) (cs : Int32) (h0 : Heap) (n0 : Nat) (O0 : Old Z n0 h0) (P0 : Sta Z Z.heap "java/lang/String" "COMPACT_STRINGS" "Z" (.int cs)) (P1 : Exa Z h0 sa "java/lang/String") (P2 : Fld Z h0 sa "java/lang/String" "coder" "B" (.int 0)) (P3 : Fld Z h0 sa "java/lang/String" "value" "[B" (.ref xa)) (P4 : Arv Z h0 xa ka .byte z_ vs (.int 0)) (hcs : cs ≠ (0 : Int32)) (hl : own_last vs z_ r_) :
    MetFree l (⟨"java/lang/String", "lastIndexOf", "(I)I"⟩ : MethodName) (head1 (Jvm.Cond.code (⟨"java/lang/String", "lastIndexOf", "(I)I"⟩ : MethodName) jdk_42_method_82_code 2 (some .int) :: ws) ({ frames := 3, cells := 0, slots := 0, locals := 42 } : Room)) (fun a U => a = #[(.ref sa), (.int 47)] ∧ Z.Warmed39 U.vm ∧ U.heap = h0) (fun _ _ _ _ _ => True) (fun _ U o U' => ∃ v L, o = .returned v ∧ Q_strLast Z sa xa ka z_ vs r_ cs h0 n0 v U'.heap L ∧ FrameEnd U o U' L ({ frames := 3, cells := 0, slots := 0, locals := 42 } : Room).cells ({ frames := 3, cells := 0, slots := 0, locals := 42 } : Room).slots) := by
  refine MetFree.of_bodySF (plainFor_of_name pn_1) hisR ?_
  intro p e s m args below meth c s₁ Bd hml0 hP hK
  obtain ⟨rfl, hZ, hh⟩ := hP
  have hx := Bd.exec
  have hby := Bd.bytes
  have hml : c.maxLocals = 2 := hml0
  have hown : s.vm.findClass "java/lang/String" = some m.cls := findClass_of_methodNamed Bd.named
  have hnm := (name_of_methodNamed Bd.named Bd.method).1
  have hlk := BodyLoose.notSynchronized Bd
  have X0 : Stand p l e ({ frames := 3, cells := 0, slots := 0, locals := 42 } : Room) s m #[(.ref sa), (.int 47)] below meth c s₁ [] 0 0 := Stand.of_body Bd
  have e0 : s₁.heap = h0 := by rw [← hh, Bd.state]; rfl
  have N0 := Fr.nil n0
  refine Go.start (P := fun o U' => ∃ v L, o = .returned v ∧ Q_strLast Z sa xa ka z_ vs r_ cs h0 n0 v U'.heap L ∧ FrameEnd s o U' L ({ frames := 3, cells := 0, slots := 0, locals := 42 } : Room).cells ({ frames := 3, cells := 0, slots := 0, locals := 42 } : Room).slots) (ef_strLast m sa) ?_
  show Go p e below _ (s₁.setTop (mkF m 0 #[.val (.ref sa), qI 47] []))
  refine Go.by (fun t k => XS.aloadN X0.here hx rfl (hb hby d16_0) rfl rfl (XS.iloadN X0.here hx rfl (hb hby d16_1) rfl (XS.aloadN X0.here hx rfl (hb hby d16_2) rfl rfl k))) ?_
  show Go p e below _ (s₁.setTop (mkF m 3 #[.val (.ref sa), qI 47] [(.ref sa), (.int 47), (.ref sa)]))
  obtain ⟨cq1, kq1, q1a, q1b, q1c⟩ := isOf hZ e0 P1
  obtain ⟨_, _, ⟨T1, L1, k1, n1⟩, -, X1, ⟨Lc1, hQ1, l1, y1, z1⟩, st1⟩ := X0.virtualBack hx (y := (⟨"java/lang/String", "length", "()I"⟩ : MethodName)) (z := (⟨"java/lang/String", "length", "()I"⟩ : MethodName)) hown (mvT hZ (hw _ (mg 78 rfl))) (mvT hZ (hw _ (mg 79 rfl))) (notFace_of_selects (args := #[]) (mvT hZ (hw _ (mg 81 rfl)))) (mvT hZ (hw _ (mg 81 rfl))) (mvT hZ (hw _ (mg 80 rfl))) (by decide) (backOf (W := 2) (length l Z a0 hw [] sa xa ka z_ vs cs h0 n0 O0 P0 P1 P2 P3 P4 (by first | assumption | omega | decide | simp_all : cs ≠ (0 : Int32))) hZ (hw _ (mg 82 rfl)) (hw _ (mg 11 rfl)) (by decide) (by decide)) q1a q1c (g := (mkF m 3 #[.val (.ref sa), qI 47] [(.ref sa), (.int 47), (.ref sa)])) rfl (by rw [hml]; rfl) (Steps.refl _) (argsL := []) (rest := [(.int 47), (.ref sa)]) (lenOf pd_14 rfl) rfl (by show 2 * 0 + _ ≤ _; exact Nat.le_of_eq rfl) (hb hby d16_3) (fun _ _ => ⟨rfl, e0, (by decide : 0 + 0 ≤ _), (by decide : 0 + 0 ≤ _)⟩)
  dsimp only [Pt.U, Pt.locs, Pt.cells, Pt.slots] at X1 l1 y1 z1 st1 hQ1
  subst y1 z1
  obtain ⟨rfl, N1q, e1⟩ := hQ1
  have N1 : Fr n0 L1 := by rw [l1]; exact Fr.app N0 N1q
  have X1 := own_mr X1 0 0 (by decide) (by decide)
  refine Go.tr st1 ?_
  show Go p e below _ (T1.setTop (mkF m 6 #[.val (.ref sa), qI 47] [(.int z_), (.int 47), (.ref sa)]))
  refine Go.by (fun t k => XS.iconst X1.here hx rfl (hb hby d16_6) (XS.isub X1.here hx rfl (hb hby d16_7) rfl k)) ?_
  show Go p e below _ (T1.setTop (mkF m 8 #[.val (.ref sa), qI 47] [(.int (z_ - (1 : Int32))), (.int 47), (.ref sa)]))
  obtain ⟨cq2, kq2, q2a, q2b, q2c⟩ := isOf hZ e1 P1
  obtain ⟨_, _, ⟨T2, L2, k2, n2⟩, -, X2, ⟨Lc2, hQ2, l2, y2, z2⟩, st2⟩ := X1.virtualBack hx (y := (⟨"java/lang/String", "lastIndexOf", "(II)I"⟩ : MethodName)) (z := (⟨"java/lang/String", "lastIndexOf", "(II)I"⟩ : MethodName)) hown (mvT hZ (hw _ (mg 88 rfl))) (mvT hZ (hw _ (mg 89 rfl))) (notFace_of_selects (args := #[]) (mvT hZ (hw _ (mg 91 rfl)))) (mvT hZ (hw _ (mg 91 rfl))) (mvT hZ (hw _ (mg 90 rfl))) (by decide) (backOf (W := 0) (strLast2 l Z a0 hw [] sa (z_ - (1 : Int32)) xa ka z_ vs r_ cs h0 n0 O0 P0 P1 P2 P3 P4 (by first | assumption | omega | decide | simp_all : cs ≠ (0 : Int32)) rfl hl) hZ (hw _ (mg 92 rfl)) (hw _ (mg 11 rfl)) (by decide) (by decide)) q2a q2c (g := (mkF m 8 #[.val (.ref sa), qI 47] [(.int (z_ - (1 : Int32))), (.int 47), (.ref sa)])) rfl (by rw [hml]; rfl) (Steps.refl _) (argsL := [(.int 47), (.int (z_ - (1 : Int32)))]) (rest := []) (lenOf pd_12 rfl) rfl (by show 2 * 0 + _ ≤ _; exact Nat.le_of_eq rfl) (hb hby d16_8) (fun _ _ => ⟨rfl, e1, (by decide : 0 + 0 ≤ _), (by decide : 0 + 0 ≤ _)⟩)
  dsimp only [Pt.U, Pt.locs, Pt.cells, Pt.slots] at X2 l2 y2 z2 st2 hQ2
  subst y2 z2
  obtain ⟨rfl, N2q, e2⟩ := hQ2
  have N2 : Fr n0 L2 := by rw [l2]; exact Fr.app N1 N2q
  have X2 := own_mr X2 0 0 (by decide) (by decide)
  refine Go.tr st2 ?_
  show Go p e below _ (T2.setTop (mkF m 11 #[.val (.ref sa), qI 47] [(.int r_)]))
  have hq : Q_strLast Z sa xa ka z_ vs r_ cs h0 n0 (some (.int r_)) h0 _ := ⟨rfl, N2, rfl⟩
  exact Go.retI X2 hx Bd.returns hlk (hb hby d16_11) (by decide) (by decide) (by rw [e2]; exact hq)
theorem d25_0 : decode jdk_41_method_12_code 0 = .ok (.iload_n 0, 1) := by decide +kernel
theorem d25_1 : decode jdk_41_method_12_code 1 = .ok (.ifCond .lt 13, 3) := by decide +kernel
theorem d25_4 : decode jdk_41_method_12_code 4 = .ok (.iload_n 0, 1) := by decide +kernel
theorem d25_5 : decode jdk_41_method_12_code 5 = .ok (.iload_n 1, 1) := by decide +kernel
theorem d25_6 : decode jdk_41_method_12_code 6 = .ok (.if_icmp .gt 8, 3) := by decide +kernel
theorem d25_9 : decode jdk_41_method_12_code 9 = .ok (.iload_n 1, 1) := by decide +kernel
theorem d25_10 : decode jdk_41_method_12_code 10 = .ok (.iload_n 2, 1) := by decide +kernel
theorem d25_11 : decode jdk_41_method_12_code 11 = .ok (.if_icmp .le 11, 3) := by decide +kernel
theorem d25_22 : decode jdk_41_method_12_code 22 = .ok (.iload_n 0, 1) := by decide +kernel
theorem d25_23 : decode jdk_41_method_12_code 23 = .ok (.ireturn, 1) := by decide +kernel
theorem ef_fromTo (m : MethodId) (n_ : Int32) (z_ : Int32) (fm : Value) (h_fm : fm.isRef = true) : entryFrame m #[(.int (0 : Int32)), (.int n_), (.int z_), fm] 4 = mkF m 0 #[.val (.int (0 : Int32)), .val (.int n_), .val (.int z_), .val fm] [] := by rcases ref_cases h_fm with rfl | ⟨_, rfl⟩ <;> first | (simp [entryFrame, mkF, argsToLocals, Value.category]; done) | rfl
def Q_fromTo (Z : State) (n_ : Int32) (z_ : Int32) (fm : Value) (h0 : Heap) (n0 : Nat) (v : Option Value) (h : Heap) (L : List Loc) : Prop := v = some (.int 0) ∧ Fr n0 L ∧ h = h0
set_option maxRecDepth 65536 in
set_option maxHeartbeats 40000000 in
theorem fromTo (l : Launch) (Z : State) (a0 : Array Value) (hw : ∀ d ∈ tables_1, d.before a0 Z = true) (ws : List Jvm.Cond) (n_ : Int32) (z_ : Int32) (fm : Value) (h0 : Heap) (n0 : Nat) (O0 : Old Z n0 h0) (ha1 : ¬ n_ < (0 : Int32)) (ha2 : ¬ z_ < n_) (hfm : fm.isRef = true) :
    MetFree l (⟨"jdk/internal/util/Preconditions", "checkFromToIndex", "(IIILjava/util/function/BiFunction;)I"⟩ : MethodName) (head1 (Jvm.Cond.code (⟨"jdk/internal/util/Preconditions", "checkFromToIndex", "(IIILjava/util/function/BiFunction;)I"⟩ : MethodName) jdk_41_method_12_code 4 (some .int) :: ws) ({ frames := 0, cells := 0, slots := 0, locals := 0 } : Room)) (fun a U => a = #[(.int 0), (.int n_), (.int z_), fm] ∧ Z.Warmed39 U.vm ∧ U.heap = h0) (fun _ _ _ _ _ => True) (fun _ U o U' => ∃ v L, o = .returned v ∧ Q_fromTo Z n_ z_ fm h0 n0 v U'.heap L ∧ FrameEnd U o U' L ({ frames := 0, cells := 0, slots := 0, locals := 0 } : Room).cells ({ frames := 0, cells := 0, slots := 0, locals := 0 } : Room).slots) := by
  refine MetFree.of_bodySF (plainFor_of_name pn_2) hisR ?_
  intro p e s m args below meth c s₁ Bd hml0 hP hK
  obtain ⟨rfl, hZ, hh⟩ := hP
  have hx := Bd.exec
  have hby := Bd.bytes
  have hml : c.maxLocals = 4 := hml0
  have hown : s.vm.findClass "jdk/internal/util/Preconditions" = some m.cls := findClass_of_methodNamed Bd.named
  have hnm := (name_of_methodNamed Bd.named Bd.method).1
  have hlk := BodyLoose.notSynchronized Bd
  have X0 : Stand p l e ({ frames := 0, cells := 0, slots := 0, locals := 0 } : Room) s m #[(.int 0), (.int n_), (.int z_), fm] below meth c s₁ [] 0 0 := Stand.of_body Bd
  have e0 : s₁.heap = h0 := by rw [← hh, Bd.state]; rfl
  have N0 := Fr.nil n0
  refine Go.start (P := fun o U' => ∃ v L, o = .returned v ∧ Q_fromTo Z n_ z_ fm h0 n0 v U'.heap L ∧ FrameEnd s o U' L ({ frames := 0, cells := 0, slots := 0, locals := 0 } : Room).cells ({ frames := 0, cells := 0, slots := 0, locals := 0 } : Room).slots) (ef_fromTo m n_ z_ fm hfm) ?_
  show Go p e below _ (s₁.setTop (mkF m 0 #[qI 0, qI n_, qI z_, .val fm] []))
  refine Go.by (fun t k => XS.iloadN X0.here hx rfl (hb hby d25_0) rfl (XS.ifNo X0.here hx rfl (hb hby d25_1) rfl ((if0 _ _).trans (flt Int32.lt_irrefl).1) (XS.iloadN X0.here hx rfl (hb hby d25_4) rfl (XS.iloadN X0.here hx rfl (hb hby d25_5) rfl (XS.icmpNo X0.here hx rfl (hb hby d25_6) rfl (flt ha1).2.2.1 (XS.iloadN X0.here hx rfl (hb hby d25_9) rfl (XS.iloadN X0.here hx rfl (hb hby d25_10) rfl (XS.icmpYes X0.here hx rfl (pc0 := 11) (pc' := 22) rfl (hb hby d25_11) rfl (flt ha2).2.2.2 (by decide) (by decide) k)))))))) ?_
  show Go p e below _ (s₁.setTop (mkF m 22 #[qI 0, qI n_, qI z_, .val fm] []))
  refine Go.by (fun t k => XS.iloadN X0.here hx rfl (hb hby d25_22) rfl k) ?_
  show Go p e below _ (s₁.setTop (mkF m 23 #[qI 0, qI n_, qI z_, .val fm] [(.int 0)]))
  have hq : Q_fromTo Z n_ z_ fm h0 n0 (some (.int 0)) h0 _ := ⟨rfl, N0, rfl⟩
  exact Go.retI X0 hx Bd.returns hlk (hb hby d25_23) (by decide) (by decide) (by rw [e0]; exact hq)
theorem d24_0 : decode jdk_42_method_158_code 0 = .ok (.iload_n 0, 1) := by decide +kernel
theorem d24_1 : decode jdk_42_method_158_code 1 = .ok (.iload_n 1, 1) := by decide +kernel
theorem d24_2 : decode jdk_42_method_158_code 2 = .ok (.iload_n 2, 1) := by decide +kernel
theorem d24_3 : decode jdk_42_method_158_code 3 = .ok (.getstatic 1053, 3) := by decide +kernel
theorem d24_6 : decode jdk_42_method_158_code 6 = .ok (.invokestatic 1062, 3) := by decide +kernel
theorem pd_15 : parseMethodDescriptor "(IIILjava/util/function/BiFunction;)I" = some ⟨[.int, .int, .int, (.object "java/util/function/BiFunction")], some .int⟩ := by decide +kernel
theorem d24_9 : decode jdk_42_method_158_code 9 = .ok (.pop, 1) := by decide +kernel
theorem d24_10 : decode jdk_42_method_158_code 10 = .ok (.return_, 1) := by decide +kernel
theorem ef_bounds (m : MethodId) (n_ : Int32) (z_ : Int32) : entryFrame m #[(.int (0 : Int32)), (.int n_), (.int z_)] 3 = mkF m 0 #[.val (.int (0 : Int32)), .val (.int n_), .val (.int z_)] [] := by first | (simp [entryFrame, mkF, argsToLocals, Value.category]; done) | rfl
def Q_bounds (Z : State) (n_ : Int32) (z_ : Int32) (fm : Value) (h0 : Heap) (n0 : Nat) (v : Option Value) (h : Heap) (L : List Loc) : Prop := v = none ∧ Fr n0 L ∧ h = h0
set_option maxRecDepth 65536 in
set_option maxHeartbeats 40000000 in
theorem bounds (l : Launch) (Z : State) (a0 : Array Value) (hw : ∀ d ∈ tables_1, d.before a0 Z = true) (ws : List Jvm.Cond) (n_ : Int32) (z_ : Int32) (fm : Value) (h0 : Heap) (n0 : Nat) (O0 : Old Z n0 h0) (P0 : Sta Z Z.heap "jdk/internal/util/Preconditions" "SIOOBE_FORMATTER" "Ljava/util/function/BiFunction;" fm) (ha1 : ¬ n_ < (0 : Int32)) (ha2 : ¬ z_ < n_) (hfm : fm.isRef = true) :
    MetFree l (⟨"java/lang/String", "checkBoundsBeginEnd", "(III)V"⟩ : MethodName) (head1 (Jvm.Cond.code (⟨"java/lang/String", "checkBoundsBeginEnd", "(III)V"⟩ : MethodName) jdk_42_method_158_code 3 none :: ws) ({ frames := 1, cells := 0, slots := 0, locals := 15 } : Room)) (fun a U => a = #[(.int 0), (.int n_), (.int z_)] ∧ Z.Warmed39 U.vm ∧ U.heap = h0) (fun _ _ _ _ _ => True) (fun _ U o U' => ∃ v L, o = .returned v ∧ Q_bounds Z n_ z_ fm h0 n0 v U'.heap L ∧ FrameEnd U o U' L ({ frames := 1, cells := 0, slots := 0, locals := 15 } : Room).cells ({ frames := 1, cells := 0, slots := 0, locals := 15 } : Room).slots) := by
  refine MetFree.of_bodySF (plainFor_of_name pn_1) hisR ?_
  intro p e s m args below meth c s₁ Bd hml0 hP hK
  obtain ⟨rfl, hZ, hh⟩ := hP
  have hx := Bd.exec
  have hby := Bd.bytes
  have hml : c.maxLocals = 3 := hml0
  have hown : s.vm.findClass "java/lang/String" = some m.cls := findClass_of_methodNamed Bd.named
  have hnm := (name_of_methodNamed Bd.named Bd.method).1
  have hlk := BodyLoose.notSynchronized Bd
  have X0 : Stand p l e ({ frames := 1, cells := 0, slots := 0, locals := 15 } : Room) s m #[(.int 0), (.int n_), (.int z_)] below meth c s₁ [] 0 0 := Stand.of_body Bd
  have e0 : s₁.heap = h0 := by rw [← hh, Bd.state]; rfl
  have N0 := Fr.nil n0
  refine Go.start (P := fun o U' => ∃ v L, o = .returned v ∧ Q_bounds Z n_ z_ fm h0 n0 v U'.heap L ∧ FrameEnd s o U' L ({ frames := 1, cells := 0, slots := 0, locals := 15 } : Room).cells ({ frames := 1, cells := 0, slots := 0, locals := 15 } : Room).slots) (ef_bounds m n_ z_) ?_
  show Go p e below _ (s₁.setTop (mkF m 0 #[qI 0, qI n_, qI z_] []))
  refine Go.by (fun t k => XS.iloadN X0.here hx rfl (hb hby d24_0) rfl (XS.iloadN X0.here hx rfl (hb hby d24_1) rfl (XS.iloadN X0.here hx rfl (hb hby d24_2) rfl k))) ?_
  show Go p e below _ (s₁.setTop (mkF m 3 #[qI 0, qI n_, qI z_] [(.int z_), (.int n_), (.int 0)]))
  have F1 : Sta Z h0 "jdk/internal/util/Preconditions" "SIOOBE_FORMATTER" "Ljava/util/function/BiFunction;" fm := P0.ext O0.2
  obtain ⟨T2, X2, e2, st2⟩ := getS2 X0 hx hZ hown (host := "") (Or.inl (hw _ (mg 38 rfl))) Via.refl e0 F1 (g := (mkF m 3 #[qI 0, qI n_, qI z_] [(.int z_), (.int n_), (.int 0)])) rfl (hb hby d24_3)
  refine Go.by st2 ?_
  show Go p e below _ (T2.setTop (mkF m 6 #[qI 0, qI n_, qI z_] [fm, (.int z_), (.int n_), (.int 0)]))
  obtain ⟨_, _, ⟨T3, L3, k3, n3⟩, -, X3, ⟨Lc3, hQ3, l3, y3, z3⟩, st3⟩ := Jvm.LawKit.callS X2 hx (y := (⟨"jdk/internal/util/Preconditions", "checkFromToIndex", "(IIILjava/util/function/BiFunction;)I"⟩ : MethodName)) hown (mvT hZ (hw _ (mg 111 rfl))) (mvT hZ (hw _ (mg 112 rfl))) (mvT hZ (hw _ (mg 39 rfl))) (mvT hZ (hw _ (mg 113 rfl))) (by decide) (backOf (W := 0) (fromTo l Z a0 hw [] n_ z_ fm h0 n0 O0 (by first | assumption | omega | decide | simp_all : ¬ n_ < (0 : Int32)) (by first | assumption | omega | decide | simp_all : ¬ z_ < n_) (by first | assumption | omega | decide | simp_all : fm.isRef = true)) hZ (hw _ (mg 113 rfl)) (hw _ (mg 39 rfl)) (by decide) (by decide)) (g := (mkF m 6 #[qI 0, qI n_, qI z_] [fm, (.int z_), (.int n_), (.int 0)])) rfl (by rw [hml]; rfl) (argsL := [(.int 0), (.int n_), (.int z_), fm]) (rest := []) (lenOf pd_15 rfl) rfl (by show 2 * 0 + _ ≤ _; exact Nat.le_of_eq rfl) (hb hby d24_6) (fun _ _ => ⟨rfl, e2, (by decide : 0 + 0 ≤ _), (by decide : 0 + 0 ≤ _)⟩)
  dsimp only [Pt.U, Pt.locs, Pt.cells, Pt.slots] at X3 l3 y3 z3 st3 hQ3
  subst y3 z3
  obtain ⟨rfl, N3q, e3⟩ := hQ3
  have N3 : Fr n0 L3 := by rw [l3]; exact Fr.app N0 N3q
  have X3 := own_mr X3 0 0 (by decide) (by decide)
  refine Go.by st3 ?_
  show Go p e below _ (T3.setTop (mkF m 9 #[qI 0, qI n_, qI z_] [(.int 0)]))
  refine Go.by (fun t k => XS.pop X3.here hx rfl (hb hby d24_9) rfl rfl k) ?_
  show Go p e below _ (T3.setTop (mkF m 10 #[qI 0, qI n_, qI z_] []))
  have hq : Q_bounds Z n_ z_ fm h0 n0 none h0 _ := ⟨rfl, N3, rfl⟩
  exact Go.ret0 X3 hx Bd.returns hlk (hb hby d24_10) (by decide) (by decide) (by rw [e3]; exact hq)
theorem pn_5 : plainName "java/util/Arrays" = true := by first | (simp [plainName, overriddenIn]; done) | decide +kernel
theorem d29_0 : decode jdk_65_method_131_code 0 = .ok (.iload_n 1, 1) := by decide +kernel
theorem d29_1 : decode jdk_65_method_131_code 1 = .ok (.iload_n 0, 1) := by decide +kernel
theorem d29_2 : decode jdk_65_method_131_code 2 = .ok (.if_icmp .ge 35, 3) := by decide +kernel
theorem d29_37 : decode jdk_65_method_131_code 37 = .ok (.return_, 1) := by decide +kernel
theorem ef_checkLen (m : MethodId) (n_ : Int32) : entryFrame m #[(.int (0 : Int32)), (.int n_)] 2 = mkF m 0 #[.val (.int (0 : Int32)), .val (.int n_)] [] := by first | (simp [entryFrame, mkF, argsToLocals, Value.category]; done) | rfl
def Q_checkLen (Z : State) (n_ : Int32) (h0 : Heap) (n0 : Nat) (v : Option Value) (h : Heap) (L : List Loc) : Prop := v = none ∧ Fr n0 L ∧ h = h0
set_option maxRecDepth 65536 in
set_option maxHeartbeats 40000000 in
theorem checkLen (l : Launch) (Z : State) (a0 : Array Value) (hw : ∀ d ∈ tables_1, d.before a0 Z = true) (ws : List Jvm.Cond) (n_ : Int32) (h0 : Heap) (n0 : Nat) (O0 : Old Z n0 h0) (ha1 : ¬ n_ < (0 : Int32)) :
    MetFree l (⟨"java/util/Arrays", "checkLength", "(II)V"⟩ : MethodName) (head1 (Jvm.Cond.code (⟨"java/util/Arrays", "checkLength", "(II)V"⟩ : MethodName) jdk_65_method_131_code 2 none :: ws) ({ frames := 0, cells := 0, slots := 0, locals := 0 } : Room)) (fun a U => a = #[(.int 0), (.int n_)] ∧ Z.Warmed39 U.vm ∧ U.heap = h0) (fun _ _ _ _ _ => True) (fun _ U o U' => ∃ v L, o = .returned v ∧ Q_checkLen Z n_ h0 n0 v U'.heap L ∧ FrameEnd U o U' L ({ frames := 0, cells := 0, slots := 0, locals := 0 } : Room).cells ({ frames := 0, cells := 0, slots := 0, locals := 0 } : Room).slots) := by
  refine MetFree.of_bodySF (plainFor_of_name pn_5) hisR ?_
  intro p e s m args below meth c s₁ Bd hml0 hP hK
  obtain ⟨rfl, hZ, hh⟩ := hP
  have hx := Bd.exec
  have hby := Bd.bytes
  have hml : c.maxLocals = 2 := hml0
  have hown : s.vm.findClass "java/util/Arrays" = some m.cls := findClass_of_methodNamed Bd.named
  have hnm := (name_of_methodNamed Bd.named Bd.method).1
  have hlk := BodyLoose.notSynchronized Bd
  have X0 : Stand p l e ({ frames := 0, cells := 0, slots := 0, locals := 0 } : Room) s m #[(.int 0), (.int n_)] below meth c s₁ [] 0 0 := Stand.of_body Bd
  have e0 : s₁.heap = h0 := by rw [← hh, Bd.state]; rfl
  have N0 := Fr.nil n0
  refine Go.start (P := fun o U' => ∃ v L, o = .returned v ∧ Q_checkLen Z n_ h0 n0 v U'.heap L ∧ FrameEnd s o U' L ({ frames := 0, cells := 0, slots := 0, locals := 0 } : Room).cells ({ frames := 0, cells := 0, slots := 0, locals := 0 } : Room).slots) (ef_checkLen m n_) ?_
  show Go p e below _ (s₁.setTop (mkF m 0 #[qI 0, qI n_] []))
  refine Go.by (fun t k => XS.iloadN X0.here hx rfl (hb hby d29_0) rfl (XS.iloadN X0.here hx rfl (hb hby d29_1) rfl (XS.icmpYes X0.here hx rfl (pc0 := 2) (pc' := 37) rfl (hb hby d29_2) rfl (flt ha1).2.1 (by decide) (by decide) k))) ?_
  show Go p e below _ (s₁.setTop (mkF m 37 #[qI 0, qI n_] []))
  have hq : Q_checkLen Z n_ h0 n0 none h0 _ := ⟨rfl, N0, rfl⟩
  exact Go.ret0 X0 hx Bd.returns hlk (hb hby d29_37) (by decide) (by decide) (by rw [e0]; exact hq)
theorem d28_0 : decode jdk_65_method_133_code 0 = .ok (.iload_n 1, 1) := by decide +kernel
theorem d28_1 : decode jdk_65_method_133_code 1 = .ok (.iload_n 2, 1) := by decide +kernel
theorem d28_2 : decode jdk_65_method_133_code 2 = .ok (.invokestatic 343, 3) := by decide +kernel
theorem d28_5 : decode jdk_65_method_133_code 5 = .ok (.iload_n 2, 1) := by decide +kernel
theorem d28_6 : decode jdk_65_method_133_code 6 = .ok (.iload_n 1, 1) := by decide +kernel
theorem d28_7 : decode jdk_65_method_133_code 7 = .ok (.isub, 1) := by decide +kernel
theorem d28_8 : decode jdk_65_method_133_code 8 = .ok (.istore_n 3, 1) := by decide +kernel
theorem d28_9 : decode jdk_65_method_133_code 9 = .ok (.iload_n 3, 1) := by decide +kernel
theorem d28_10 : decode jdk_65_method_133_code 10 = .ok (.newarray .byte, 2) := by decide +kernel
theorem d28_12 : decode jdk_65_method_133_code 12 = .ok (.astore 4, 2) := by decide +kernel
theorem d28_14 : decode jdk_65_method_133_code 14 = .ok (.aload_n 0, 1) := by decide +kernel
theorem d28_15 : decode jdk_65_method_133_code 15 = .ok (.iload_n 1, 1) := by decide +kernel
theorem d28_16 : decode jdk_65_method_133_code 16 = .ok (.aload 4, 2) := by decide +kernel
theorem d28_18 : decode jdk_65_method_133_code 18 = .ok (.iconst 0, 1) := by decide +kernel
theorem d28_19 : decode jdk_65_method_133_code 19 = .ok (.aload_n 0, 1) := by decide +kernel
theorem d28_20 : decode jdk_65_method_133_code 20 = .ok (.arraylength, 1) := by decide +kernel
theorem d28_21 : decode jdk_65_method_133_code 21 = .ok (.iload_n 1, 1) := by decide +kernel
theorem d28_22 : decode jdk_65_method_133_code 22 = .ok (.isub, 1) := by decide +kernel
theorem d28_23 : decode jdk_65_method_133_code 23 = .ok (.iload_n 3, 1) := by decide +kernel
theorem d28_24 : decode jdk_65_method_133_code 24 = .ok (.invokestatic 304, 3) := by decide +kernel
theorem d28_27 : decode jdk_65_method_133_code 27 = .ok (.invokestatic 150, 3) := by decide +kernel
theorem d28_30 : decode jdk_65_method_133_code 30 = .ok (.aload 4, 2) := by decide +kernel
theorem d28_32 : decode jdk_65_method_133_code 32 = .ok (.areturn, 1) := by decide +kernel
theorem ef_copyB (m : MethodId) (xa : Addr) (n_ : Int32) : entryFrame m #[(.ref xa), (.int (0 : Int32)), (.int n_)] 5 = mkF m 0 #[.val (.ref xa), .val (.int (0 : Int32)), .val (.int n_), .unset, .unset] [] := by first | (simp [entryFrame, mkF, argsToLocals, Value.category]; done) | rfl
def Q_copyB (Z : State) (xa : Addr) (n_ : Int32) (ka : ClassId) (z_ : Int32) (vs : List Value) (h0 : Heap) (n0 : Nat) (v : Option Value) (h : Heap) (L : List Loc) : Prop := ∃ bb : Addr, ∃ kb : ClassId, v = some (.ref bb) ∧ Fr n0 L ∧ Keep h0 h [] ∧ h0.size ≤ bb ∧ Arv Z h bb kb .byte n_ (own_tk vs n_) (.int 0)
set_option maxRecDepth 65536 in
set_option maxHeartbeats 40000000 in
theorem copyB (l : Launch) (Z : State) (a0 : Array Value) (hw : ∀ d ∈ tables_1, d.before a0 Z = true) (ws : List Jvm.Cond) (xa : Addr) (n_ : Int32) (ka : ClassId) (z_ : Int32) (vs : List Value) (h0 : Heap) (n0 : Nat) (O0 : Old Z n0 h0) (P0 : Arv Z h0 xa ka .byte z_ vs (.int 0)) (hn : 0 < n_.toInt ∧ n_.toInt < z_.toInt ∧ z_.toInt ≤ 18) :
    MetFree l (⟨"java/util/Arrays", "copyOfRangeByte", "([BII)[B"⟩ : MethodName) (head1 (Jvm.Cond.code (⟨"java/util/Arrays", "copyOfRangeByte", "([BII)[B"⟩ : MethodName) jdk_65_method_133_code 5 (some (.array .byte)) :: ws) ({ frames := 1, cells := 1, slots := 18, locals := 18 } : Room)) (fun a U => a = #[(.ref xa), (.int 0), (.int n_)] ∧ Z.Warmed39 U.vm ∧ U.heap = h0) (fun _ _ _ _ _ => True) (fun _ U o U' => ∃ v L, o = .returned v ∧ Q_copyB Z xa n_ ka z_ vs h0 n0 v U'.heap L ∧ FrameEnd U o U' L ({ frames := 1, cells := 1, slots := 18, locals := 18 } : Room).cells ({ frames := 1, cells := 1, slots := 18, locals := 18 } : Room).slots) := by
  refine MetFree.of_bodySF (plainFor_of_name pn_5) hisR ?_
  intro p e s m args below meth c s₁ Bd hml0 hP hK
  obtain ⟨rfl, hZ, hh⟩ := hP
  have hx := Bd.exec
  have hby := Bd.bytes
  have hml : c.maxLocals = 5 := hml0
  have hown : s.vm.findClass "java/util/Arrays" = some m.cls := findClass_of_methodNamed Bd.named
  have hnm := (name_of_methodNamed Bd.named Bd.method).1
  have hlk := BodyLoose.notSynchronized Bd
  have X0 : Stand p l e ({ frames := 1, cells := 1, slots := 18, locals := 18 } : Room) s m #[(.ref xa), (.int 0), (.int n_)] below meth c s₁ [] 0 0 := Stand.of_body Bd
  have e0 : s₁.heap = h0 := by rw [← hh, Bd.state]; rfl
  have N0 := Fr.nil n0
  refine Go.start (P := fun o U' => ∃ v L, o = .returned v ∧ Q_copyB Z xa n_ ka z_ vs h0 n0 v U'.heap L ∧ FrameEnd s o U' L ({ frames := 1, cells := 1, slots := 18, locals := 18 } : Room).cells ({ frames := 1, cells := 1, slots := 18, locals := 18 } : Room).slots) (ef_copyB m xa n_) ?_
  show Go p e below _ (s₁.setTop (mkF m 0 #[.val (.ref xa), qI 0, qI n_, qU, qU] []))
  refine Go.by (fun t k => XS.iloadN X0.here hx rfl (hb hby d28_0) rfl (XS.iloadN X0.here hx rfl (hb hby d28_1) rfl k)) ?_
  show Go p e below _ (s₁.setTop (mkF m 2 #[.val (.ref xa), qI 0, qI n_, qU, qU] [(.int n_), (.int 0)]))
  obtain ⟨_, _, ⟨T1, L1, k1, n1⟩, -, X1, ⟨Lc1, hQ1, l1, y1, z1⟩, st1⟩ := Jvm.LawKit.callS X0 hx (y := (⟨"java/util/Arrays", "checkLength", "(II)V"⟩ : MethodName)) hown (mvT hZ (hw _ (mg 125 rfl))) (mvT hZ (hw _ (mg 126 rfl))) (mvT hZ (hw _ (mg 120 rfl))) (mvT hZ (hw _ (mg 127 rfl))) (by decide) (backOf (W := 0) (checkLen l Z a0 hw [] n_ h0 n0 O0 (own_nn (by omega))) hZ (hw _ (mg 127 rfl)) (hw _ (mg 120 rfl)) (by decide) (by decide)) (g := (mkF m 2 #[.val (.ref xa), qI 0, qI n_, qU, qU] [(.int n_), (.int 0)])) rfl (by rw [hml]; rfl) (argsL := [(.int 0), (.int n_)]) (rest := []) (lenOf pd_1 rfl) rfl (by show 2 * 0 + _ ≤ _; exact Nat.le_of_eq rfl) (hb hby d28_2) (fun _ _ => ⟨rfl, e0, (by decide : 0 + 0 ≤ _), (by decide : 0 + 0 ≤ _)⟩)
  dsimp only [Pt.U, Pt.locs, Pt.cells, Pt.slots] at X1 l1 y1 z1 st1 hQ1
  subst y1 z1
  obtain ⟨rfl, N1q, e1⟩ := hQ1
  have N1 : Fr n0 L1 := by rw [l1]; exact Fr.app N0 N1q
  have X1 := own_mr X1 0 0 (by decide) (by decide)
  refine Go.by st1 ?_
  show Go p e below _ (T1.setTop (mkF m 5 #[.val (.ref xa), qI 0, qI n_, qU, qU] []))
  refine Go.by (fun t k => XS.iloadN X1.here hx rfl (hb hby d28_5) rfl (XS.iloadN X1.here hx rfl (hb hby d28_6) rfl (XS.isub X1.here hx rfl (hb hby d28_7) rfl k))) ?_
  show Go p e below _ (T1.setTop (mkF m 8 #[.val (.ref xa), qI 0, qI n_, qU, qU] [(.int (n_ - (0 : Int32)))]))
  rw [show T1.setTop (mkF m 8 #[.val (.ref xa), qI 0, qI n_, qU, qU] [(.int (n_ - (0 : Int32)))]) = T1.setTop (mkF m 8 #[.val (.ref xa), qI 0, qI n_, qU, qU] [(.int n_)]) from by rw [own_sub0]]
  show Go p e below _ (T1.setTop (mkF m 8 #[.val (.ref xa), qI 0, qI n_, qU, qU] [(.int n_)]))
  refine Go.by (fun t k => XS.istoreN X1.here hx rfl (hb hby d28_8) rfl (l' := #[.val (.ref xa), qI 0, qI n_, qI n_, qU]) rfl (XS.iloadN X1.here hx rfl (hb hby d28_9) rfl k)) ?_
  show Go p e below _ (T1.setTop (mkF m 10 #[.val (.ref xa), qI 0, qI n_, qI n_, qU] [(.int n_)]))
  obtain ⟨T2, h2, k2, X2, e2, E2, A2, Q2, st2⟩ := newPE X1 hx hZ (hw _ (mg 13 rfl)) e1 (g := (mkF m 10 #[.val (.ref xa), qI 0, qI n_, qI n_, qU] [(.int n_)])) rfl (hb hby d28_10) rfl (own_nn (by omega)) (cap := 18) (by have := own_nat (show 0 ≤ n_.toInt by omega); omega) (by decide) (by decide) (by decide) (ad := "[B") (by decide)
  obtain ⟨b2, g2⟩ : ∃ z, z = h0.size := ⟨_, rfl⟩
  rw [← g2] at A2 Q2 st2
  have gl2 : h0.size ≤ b2 := Nat.le_of_eq g2.symm
  have ge2 : n0 ≤ b2 := Nat.le_trans (own_old_size O0) gl2
  have sz2 : h0.size ≤ b2 := Nat.le_trans (Keep.refl h0 []).1 gl2
  have ne3 : xa ≠ b2 := Nat.ne_of_lt (Nat.lt_of_lt_of_le P0.lt gl2)
  have F4 : Arv Z h2 b2 k2 .byte n_ [] (.int 0) := Arv.new A2 (own_nn (by omega))
  refine Go.by st2 ?_
  show Go p e below _ (T2.setTop (mkF m 12 #[.val (.ref xa), qI 0, qI n_, qI n_, qU] [(.ref b2)]))
  refine Go.by (fun t k => XS.astore X2.here hx rfl (hb hby d28_12) rfl rfl (l' := #[.val (.ref xa), qI 0, qI n_, qI n_, .val (.ref b2)]) rfl (XS.aloadN X2.here hx rfl (hb hby d28_14) rfl rfl (XS.iloadN X2.here hx rfl (hb hby d28_15) rfl (XS.aload X2.here hx rfl (hb hby d28_16) rfl rfl (XS.iconst X2.here hx rfl (hb hby d28_18) (XS.aloadN X2.here hx rfl (hb hby d28_19) rfl rfl k)))))) ?_
  show Go p e below _ (T2.setTop (mkF m 20 #[.val (.ref xa), qI 0, qI n_, qI n_, .val (.ref b2)] [(.ref xa), (.int 0), (.ref b2), (.int 0), (.ref xa)]))
  have F5 : Arv Z h2 xa ka .byte z_ vs (.int 0) := (P0.ext E2)
  obtain ⟨cl6, Ar6, qk6, sz6, nn6, Ha6, Gf6⟩ := id F5
  have hl6 : cl6.slots.size.toInt32 = z_ := len_of sz6 nn6
  refine Go.by (fun t k => X2.arraylength hx (by rw [e2]; exact Ar6.1) (State.isArrayOf_alike hZ.alike Ar6.2.1) (g := (mkF m 20 #[.val (.ref xa), qI 0, qI n_, qI n_, .val (.ref b2)] [(.ref xa), (.int 0), (.ref b2), (.int 0), (.ref xa)])) rfl rfl (hb hby d28_20) t (by rw [hl6]; exact k)) ?_
  show Go p e below _ (T2.setTop (mkF m 21 #[.val (.ref xa), qI 0, qI n_, qI n_, .val (.ref b2)] [(.int z_), (.int 0), (.ref b2), (.int 0), (.ref xa)]))
  refine Go.by (fun t k => XS.iloadN X2.here hx rfl (hb hby d28_21) rfl (XS.isub X2.here hx rfl (hb hby d28_22) rfl k)) ?_
  show Go p e below _ (T2.setTop (mkF m 23 #[.val (.ref xa), qI 0, qI n_, qI n_, .val (.ref b2)] [(.int (z_ - (0 : Int32))), (.int 0), (.ref b2), (.int 0), (.ref xa)]))
  rw [show T2.setTop (mkF m 23 #[.val (.ref xa), qI 0, qI n_, qI n_, .val (.ref b2)] [(.int (z_ - (0 : Int32))), (.int 0), (.ref b2), (.int 0), (.ref xa)]) = T2.setTop (mkF m 23 #[.val (.ref xa), qI 0, qI n_, qI n_, .val (.ref b2)] [(.int z_), (.int 0), (.ref b2), (.int 0), (.ref xa)]) from by rw [own_sub0]]
  show Go p e below _ (T2.setTop (mkF m 23 #[.val (.ref xa), qI 0, qI n_, qI n_, .val (.ref b2)] [(.int z_), (.int 0), (.ref b2), (.int 0), (.ref xa)]))
  refine Go.by (fun t k => XS.iloadN X2.here hx rfl (hb hby d28_23) rfl k) ?_
  show Go p e below _ (T2.setTop (mkF m 24 #[.val (.ref xa), qI 0, qI n_, qI n_, .val (.ref b2)] [(.int n_), (.int z_), (.int 0), (.ref b2), (.int 0), (.ref xa)]))
  have F8 : Old Z n0 h2 := (O0.ext E2)
  have F9 : Keep h0 h2 [] := ((Keep.refl h0 []).ext E2)
  obtain ⟨_, _, ⟨T7, L7, k7, n7⟩, -, X7, ⟨Lc7, hQ7, l7, y7, z7⟩, st7⟩ := Jvm.LawKit.callS X2 hx (y := (⟨"java/lang/Math", "min", "(II)I"⟩ : MethodName)) hown (mvT hZ (hw _ (mg 128 rfl))) (mvT hZ (hw _ (mg 100 rfl))) (mvT hZ (hw _ (mg 101 rfl))) (mvT hZ (hw _ (mg 102 rfl))) (by decide) (backOf (W := 4) (min_r l Z a0 hw [] z_ n_ h2 n0 F8 (own_lt hn.2.1)) hZ (hw _ (mg 102 rfl)) (hw _ (mg 101 rfl)) (by decide) (by decide)) (g := (mkF m 24 #[.val (.ref xa), qI 0, qI n_, qI n_, .val (.ref b2)] [(.int n_), (.int z_), (.int 0), (.ref b2), (.int 0), (.ref xa)])) rfl (by rw [hml]; rfl) (argsL := [(.int z_), (.int n_)]) (rest := [(.int 0), (.ref b2), (.int 0), (.ref xa)]) (lenOf pd_12 rfl) rfl (by show 2 * 0 + _ ≤ _; exact Nat.le_of_eq rfl) (hb hby d28_24) (fun _ _ => ⟨rfl, e2, (by decide : 1 + 0 ≤ _), (by decide : 18 + 0 ≤ _)⟩)
  dsimp only [Pt.U, Pt.locs, Pt.cells, Pt.slots] at X7 l7 y7 z7 st7 hQ7
  subst y7 z7
  obtain ⟨rfl, N7q, e7⟩ := hQ7
  have N7 : Fr n0 L7 := by rw [l7]; exact Fr.app N1 N7q
  have X7 := own_mr X7 1 18 (by decide) (by decide)
  refine Go.by st7 ?_
  show Go p e below _ (T7.setTop (mkF m 27 #[.val (.ref xa), qI 0, qI n_, qI n_, .val (.ref b2)] [(.int n_), (.int 0), (.ref b2), (.int 0), (.ref xa)]))
  have B10 := Arv.pad F4 (own_rep (n := n_.toNatClampNeg))
  obtain ⟨T10, h10, L10, X10, e10, N10, K10, V10, st10⟩ := cpA X7 hx hZ hown (hw _ (mg 129 rfl)) (hw _ (mg 132 rfl)) (hw _ (mg 130 rfl)) (hw _ (mg 131 rfl)) e7 F5 B10 (Or.inl ⟨rfl, rfl⟩) (sp := (0 : Int32)) (dp := (0 : Int32)) (nn := n_) (by decide) (by decide) (own_nn (by omega)) (by have := own_natle (show 0 ≤ n_.toInt by omega) (Int.le_of_lt hn.2.1); have e0 : (0 : Int32).toNatClampNeg = 0 := rfl; omega) (by have e0 : (0 : Int32).toNatClampNeg = 0 := rfl; omega) rfl (by rw [List.length_replicate]; have e0 : (0 : Int32).toNatClampNeg = 0 := rfl; omega) N7 ge2 (g := (mkF m 27 #[.val (.ref xa), qI 0, qI n_, qI n_, .val (.ref b2)] [(.int n_), (.int 0), (.ref b2), (.int 0), (.ref xa)])) rfl (by rw [hml]; rfl) rfl (hb hby d28_27) (by decide) (W := 0) (by show 2 * 0 + _ ≤ _; exact Nat.le_of_eq rfl) (by decide)
  have F11 : Arv Z h10 b2 k2 .byte n_ (own_tk vs n_) (.int 0) := Arv.pad V10 (fun i => by simp [own_tk])
  refine Go.by st10 ?_
  show Go p e below _ (T10.setTop (mkF m 30 #[.val (.ref xa), qI 0, qI n_, qI n_, .val (.ref b2)] []))
  refine Go.by (fun t k => XS.aload X10.here hx rfl (hb hby d28_30) rfl rfl k) ?_
  show Go p e below _ (T10.setTop (mkF m 32 #[.val (.ref xa), qI 0, qI n_, qI n_, .val (.ref b2)] [(.ref b2)]))
  have F12 : Keep h0 h10 [] := (F9.trans K10 (allS (Or.inr sz2) all0))
  have hq : Q_copyB Z xa n_ ka z_ vs h0 n0 (some (.ref b2)) h10 _ := ⟨b2, k2, rfl, N10, F12, sz2, F11⟩
  exact Go.retA X10 hx Bd.returns rfl rfl hlk (hb hby d28_32) (by decide) (by decide) (by rw [e10]; exact hq)
theorem d27_0 : decode jdk_65_method_132_code 0 = .ok (.iload_n 1, 1) := by decide +kernel
theorem d27_1 : decode jdk_65_method_132_code 1 = .ok (.ifCond .ne 9, 3) := by decide +kernel
theorem d27_4 : decode jdk_65_method_132_code 4 = .ok (.iload_n 2, 1) := by decide +kernel
theorem d27_5 : decode jdk_65_method_132_code 5 = .ok (.aload_n 0, 1) := by decide +kernel
theorem d27_6 : decode jdk_65_method_132_code 6 = .ok (.arraylength, 1) := by decide +kernel
theorem d27_7 : decode jdk_65_method_132_code 7 = .ok (.if_icmp .eq 10, 3) := by decide +kernel
theorem d27_10 : decode jdk_65_method_132_code 10 = .ok (.aload_n 0, 1) := by decide +kernel
theorem d27_11 : decode jdk_65_method_132_code 11 = .ok (.iload_n 1, 1) := by decide +kernel
theorem d27_12 : decode jdk_65_method_132_code 12 = .ok (.iload_n 2, 1) := by decide +kernel
theorem d27_13 : decode jdk_65_method_132_code 13 = .ok (.invokestatic 339, 3) := by decide +kernel
theorem pd_16 : parseMethodDescriptor "([BII)[B" = some ⟨[(.array .byte), .int, .int], some (.array .byte)⟩ := by decide +kernel
theorem d27_16 : decode jdk_65_method_132_code 16 = .ok (.areturn, 1) := by decide +kernel
theorem ef_copyR (m : MethodId) (xa : Addr) (n_ : Int32) : entryFrame m #[(.ref xa), (.int (0 : Int32)), (.int n_)] 3 = mkF m 0 #[.val (.ref xa), .val (.int (0 : Int32)), .val (.int n_)] [] := by first | (simp [entryFrame, mkF, argsToLocals, Value.category]; done) | rfl
def Q_copyR (Z : State) (xa : Addr) (n_ : Int32) (ka : ClassId) (z_ : Int32) (vs : List Value) (h0 : Heap) (n0 : Nat) (v : Option Value) (h : Heap) (L : List Loc) : Prop := ∃ bb : Addr, ∃ kb : ClassId, v = some (.ref bb) ∧ Fr n0 L ∧ Keep h0 h [] ∧ h0.size ≤ bb ∧ Arv Z h bb kb .byte n_ (own_tk vs n_) (.int 0)
set_option maxRecDepth 65536 in
set_option maxHeartbeats 40000000 in
theorem copyR (l : Launch) (Z : State) (a0 : Array Value) (hw : ∀ d ∈ tables_1, d.before a0 Z = true) (ws : List Jvm.Cond) (xa : Addr) (n_ : Int32) (ka : ClassId) (z_ : Int32) (vs : List Value) (h0 : Heap) (n0 : Nat) (O0 : Old Z n0 h0) (P0 : Arv Z h0 xa ka .byte z_ vs (.int 0)) (hn : 0 < n_.toInt ∧ n_.toInt < z_.toInt ∧ z_.toInt ≤ 18) :
    MetFree l (⟨"java/util/Arrays", "copyOfRange", "([BII)[B"⟩ : MethodName) (head1 (Jvm.Cond.code (⟨"java/util/Arrays", "copyOfRange", "([BII)[B"⟩ : MethodName) jdk_65_method_132_code 3 (some (.array .byte)) :: ws) ({ frames := 2, cells := 1, slots := 18, locals := 34 } : Room)) (fun a U => a = #[(.ref xa), (.int 0), (.int n_)] ∧ Z.Warmed39 U.vm ∧ U.heap = h0) (fun _ _ _ _ _ => True) (fun _ U o U' => ∃ v L, o = .returned v ∧ Q_copyR Z xa n_ ka z_ vs h0 n0 v U'.heap L ∧ FrameEnd U o U' L ({ frames := 2, cells := 1, slots := 18, locals := 34 } : Room).cells ({ frames := 2, cells := 1, slots := 18, locals := 34 } : Room).slots) := by
  refine MetFree.of_bodySF (plainFor_of_name pn_5) hisR ?_
  intro p e s m args below meth c s₁ Bd hml0 hP hK
  obtain ⟨rfl, hZ, hh⟩ := hP
  have hx := Bd.exec
  have hby := Bd.bytes
  have hml : c.maxLocals = 3 := hml0
  have hown : s.vm.findClass "java/util/Arrays" = some m.cls := findClass_of_methodNamed Bd.named
  have hnm := (name_of_methodNamed Bd.named Bd.method).1
  have hlk := BodyLoose.notSynchronized Bd
  have X0 : Stand p l e ({ frames := 2, cells := 1, slots := 18, locals := 34 } : Room) s m #[(.ref xa), (.int 0), (.int n_)] below meth c s₁ [] 0 0 := Stand.of_body Bd
  have e0 : s₁.heap = h0 := by rw [← hh, Bd.state]; rfl
  have N0 := Fr.nil n0
  refine Go.start (P := fun o U' => ∃ v L, o = .returned v ∧ Q_copyR Z xa n_ ka z_ vs h0 n0 v U'.heap L ∧ FrameEnd s o U' L ({ frames := 2, cells := 1, slots := 18, locals := 34 } : Room).cells ({ frames := 2, cells := 1, slots := 18, locals := 34 } : Room).slots) (ef_copyR m xa n_) ?_
  show Go p e below _ (s₁.setTop (mkF m 0 #[.val (.ref xa), qI 0, qI n_] []))
  refine Go.by (fun t k => XS.iloadN X0.here hx rfl (hb hby d27_0) rfl (XS.ifNo X0.here hx rfl (hb hby d27_1) rfl ((if0 _ _).trans (teq rfl).2) (XS.iloadN X0.here hx rfl (hb hby d27_4) rfl (XS.aloadN X0.here hx rfl (hb hby d27_5) rfl rfl k)))) ?_
  show Go p e below _ (s₁.setTop (mkF m 6 #[.val (.ref xa), qI 0, qI n_] [(.ref xa), (.int n_)]))
  obtain ⟨cl1, Ar1, qk1, sz1, nn1, Ha1, Gf1⟩ := id P0
  have hl1 : cl1.slots.size.toInt32 = z_ := len_of sz1 nn1
  refine Go.by (fun t k => X0.arraylength hx (by rw [e0]; exact Ar1.1) (State.isArrayOf_alike hZ.alike Ar1.2.1) (g := (mkF m 6 #[.val (.ref xa), qI 0, qI n_] [(.ref xa), (.int n_)])) rfl rfl (hb hby d27_6) t (by rw [hl1]; exact k)) ?_
  show Go p e below _ (s₁.setTop (mkF m 7 #[.val (.ref xa), qI 0, qI n_] [(.int z_), (.int n_)]))
  refine Go.by (fun t k => XS.icmpNo X0.here hx rfl (hb hby d27_7) rfl (feq (own_neI (by omega))).1 (XS.aloadN X0.here hx rfl (hb hby d27_10) rfl rfl (XS.iloadN X0.here hx rfl (hb hby d27_11) rfl (XS.iloadN X0.here hx rfl (hb hby d27_12) rfl k)))) ?_
  show Go p e below _ (s₁.setTop (mkF m 13 #[.val (.ref xa), qI 0, qI n_] [(.int n_), (.int 0), (.ref xa)]))
  obtain ⟨_, _, ⟨T2, L2, k2, n2⟩, -, X2, ⟨Lc2, hQ2, l2, y2, z2⟩, st2⟩ := Jvm.LawKit.callS X0 hx (y := (⟨"java/util/Arrays", "copyOfRangeByte", "([BII)[B"⟩ : MethodName)) hown (mvT hZ (hw _ (mg 122 rfl))) (mvT hZ (hw _ (mg 123 rfl))) (mvT hZ (hw _ (mg 120 rfl))) (mvT hZ (hw _ (mg 124 rfl))) (by decide) (backOf (W := 0) (copyB l Z a0 hw [] xa n_ ka z_ vs h0 n0 O0 P0 hn) hZ (hw _ (mg 124 rfl)) (hw _ (mg 120 rfl)) (by decide) (by decide)) (g := (mkF m 13 #[.val (.ref xa), qI 0, qI n_] [(.int n_), (.int 0), (.ref xa)])) rfl (by rw [hml]; rfl) (argsL := [(.ref xa), (.int 0), (.int n_)]) (rest := []) (lenOf pd_16 rfl) rfl (by show 2 * 0 + _ ≤ _; exact Nat.le_of_eq rfl) (hb hby d27_13) (fun _ _ => ⟨rfl, e0, (by decide : 0 + 1 ≤ _), (by decide : 0 + 18 ≤ _)⟩)
  dsimp only [Pt.U, Pt.locs, Pt.cells, Pt.slots] at X2 l2 y2 z2 st2 hQ2
  subst y2 z2
  obtain ⟨bb_2, kb_2, rfl, N2q, K2, fz2_bb, F2_0⟩ := hQ2
  have N2 : Fr n0 L2 := by rw [l2]; exact Fr.app N0 N2q
  have X2 := own_mr X2 1 18 (by decide) (by decide)
  have ge_bb_2 : n0 ≤ bb_2 := Nat.le_trans (own_old_size O0) fz2_bb
  have sz_bb_2 : h0.size ≤ bb_2 := Nat.le_trans (Keep.refl h0 []).1 fz2_bb
  have ne3 : xa ≠ bb_2 := Nat.ne_of_lt (Nat.lt_of_lt_of_le P0.lt fz2_bb)
  refine Go.by st2 ?_
  show Go p e below _ (T2.setTop (mkF m 16 #[.val (.ref xa), qI 0, qI n_] [(.ref bb_2)]))
  have F4 : Keep h0 T2.heap [] := ((Keep.refl h0 []).trans K2 all0)
  have hq : Q_copyR Z xa n_ ka z_ vs h0 n0 (some (.ref bb_2)) T2.heap _ := ⟨bb_2, kb_2, rfl, N2, F4, sz_bb_2, F2_0⟩
  exact Go.retA X2 hx Bd.returns rfl rfl hlk (hb hby d27_16) (by decide) (by decide) hq
theorem d30_0 : decode jdk_42_method_151_code 0 = .ok (.aload_n 0, 1) := by decide +kernel
theorem d30_1 : decode jdk_42_method_151_code 1 = .ok (.invokespecial 1, 3) := by decide +kernel
theorem d30_4 : decode jdk_42_method_151_code 4 = .ok (.aload_n 0, 1) := by decide +kernel
theorem d30_5 : decode jdk_42_method_151_code 5 = .ok (.aload_n 1, 1) := by decide +kernel
theorem d30_6 : decode jdk_42_method_151_code 6 = .ok (.putfield 9, 3) := by decide +kernel
theorem d30_9 : decode jdk_42_method_151_code 9 = .ok (.aload_n 0, 1) := by decide +kernel
theorem d30_10 : decode jdk_42_method_151_code 10 = .ok (.iload_n 2, 1) := by decide +kernel
theorem d30_11 : decode jdk_42_method_151_code 11 = .ok (.putfield 15, 3) := by decide +kernel
theorem d30_14 : decode jdk_42_method_151_code 14 = .ok (.return_, 1) := by decide +kernel
theorem ef_initBB (m : MethodId) (ob : Addr) (ba : Addr) : entryFrame m #[(.ref ob), (.ref ba), (.int (0 : Int32))] 3 = mkF m 0 #[.val (.ref ob), .val (.ref ba), .val (.int (0 : Int32))] [] := by first | (simp [entryFrame, mkF, argsToLocals, Value.category]; done) | rfl
def Q_initBB (Z : State) (ob : Addr) (ba : Addr) (h0 : Heap) (n0 : Nat) (v : Option Value) (h : Heap) (L : List Loc) : Prop := v = none ∧ Fr n0 L ∧ Keep h0 h [ob] ∧ Exa Z h ob "java/lang/String" ∧ Fld Z h ob "java/lang/String" "coder" "B" (.int 0) ∧ Fld Z h ob "java/lang/String" "value" "[B" (.ref ba)
set_option maxRecDepth 65536 in
set_option maxHeartbeats 40000000 in
theorem initBB (l : Launch) (Z : State) (a0 : Array Value) (hw : ∀ d ∈ tables_1, d.before a0 Z = true) (ws : List Jvm.Cond) (ob : Addr) (ba : Addr) (h0 : Heap) (n0 : Nat) (O0 : Old Z n0 h0) (P0 : Exa Z h0 ob "java/lang/String") (P1 : Fld Z h0 ob "java/lang/String" "value" "[B" .null) (P2 : Fld Z h0 ob "java/lang/String" "coder" "B" (.int 0)) (gob : n0 ≤ ob) :
    MetFree l (⟨"java/lang/String", "<init>", "([BB)V"⟩ : MethodName) (head1 (Jvm.Cond.code (⟨"java/lang/String", "<init>", "([BB)V"⟩ : MethodName) jdk_42_method_151_code 3 none :: ws) ({ frames := 1, cells := 0, slots := 0, locals := 12 } : Room)) (fun a U => a = #[(.ref ob), (.ref ba), (.int 0)] ∧ Z.Warmed39 U.vm ∧ U.heap = h0) (fun _ _ _ _ _ => True) (fun _ U o U' => ∃ v L, o = .returned v ∧ Q_initBB Z ob ba h0 n0 v U'.heap L ∧ FrameEnd U o U' L ({ frames := 1, cells := 0, slots := 0, locals := 12 } : Room).cells ({ frames := 1, cells := 0, slots := 0, locals := 12 } : Room).slots) := by
  refine MetFree.of_bodySF (plainFor_of_name pn_1) hisR ?_
  intro p e s m args below meth c s₁ Bd hml0 hP hK
  obtain ⟨rfl, hZ, hh⟩ := hP
  have hx := Bd.exec
  have hby := Bd.bytes
  have hml : c.maxLocals = 3 := hml0
  have hown : s.vm.findClass "java/lang/String" = some m.cls := findClass_of_methodNamed Bd.named
  have hnm := (name_of_methodNamed Bd.named Bd.method).1
  have hlk := BodyLoose.notSynchronized Bd
  have X0 : Stand p l e ({ frames := 1, cells := 0, slots := 0, locals := 12 } : Room) s m #[(.ref ob), (.ref ba), (.int 0)] below meth c s₁ [] 0 0 := Stand.of_body Bd
  have e0 : s₁.heap = h0 := by rw [← hh, Bd.state]; rfl
  have N0 := Fr.nil n0
  refine Go.start (P := fun o U' => ∃ v L, o = .returned v ∧ Q_initBB Z ob ba h0 n0 v U'.heap L ∧ FrameEnd s o U' L ({ frames := 1, cells := 0, slots := 0, locals := 12 } : Room).cells ({ frames := 1, cells := 0, slots := 0, locals := 12 } : Room).slots) (ef_initBB m ob ba) ?_
  show Go p e below _ (s₁.setTop (mkF m 0 #[.val (.ref ob), .val (.ref ba), qI 0] []))
  refine Go.by (fun t k => XS.aloadN X0.here hx rfl (hb hby d30_0) rfl rfl k) ?_
  show Go p e below _ (s₁.setTop (mkF m 1 #[.val (.ref ob), .val (.ref ba), qI 0] [(.ref ob)]))
  obtain ⟨T1, X1, e1, st1⟩ := initO X0 hx hZ hown (hw _ (mg 55 rfl)) (hw _ (mg 56 rfl)) (hw _ (mg 57 rfl)) e0 (g := (mkF m 1 #[.val (.ref ob), .val (.ref ba), qI 0] [(.ref ob)])) rfl (by rw [hml]; rfl) rfl (hb hby d30_1) (by decide) (W := 0) (by show 2 * 0 + _ ≤ _; exact Nat.le_of_eq rfl) (by decide)
  refine Go.by st1 ?_
  show Go p e below _ (T1.setTop (mkF m 4 #[.val (.ref ob), .val (.ref ba), qI 0] []))
  refine Go.by (fun t k => XS.aloadN X1.here hx rfl (hb hby d30_4) rfl rfl (XS.aloadN X1.here hx rfl (hb hby d30_5) rfl rfl k)) ?_
  show Go p e below _ (T1.setTop (mkF m 6 #[.val (.ref ob), .val (.ref ba), qI 0] [(.ref ba), (.ref ob)]))
  obtain ⟨T2, h2, X2, e2, W2, st2⟩ := putF X1 hx hZ hown (host := "") (Or.inl (hw _ (mg 30 rfl))) Via.refl e1 P1 P0 (Or.inr ⟨(hw _ (mg 14 rfl)), rfl, hnm⟩) (hw _ (mg 12 rfl)) (ty := (.array .byte)) (by decide) rfl rfl (g := (mkF m 6 #[.val (.ref ob), .val (.ref ba), qI 0] [(.ref ba), (.ref ob)])) rfl rfl (hb hby d30_6)
  have N2 := Fr.snoc X2 N0 gob
  have F3 : Fld Z h2 ob "java/lang/String" "value" "[B" (.ref ba) := P1.same W2
  refine Go.by st2 ?_
  show Go p e below _ (T2.setTop (mkF m 9 #[.val (.ref ob), .val (.ref ba), qI 0] []))
  refine Go.by (fun t k => XS.aloadN X2.here hx rfl (hb hby d30_9) rfl rfl (XS.iloadN X2.here hx rfl (hb hby d30_10) rfl k)) ?_
  show Go p e below _ (T2.setTop (mkF m 11 #[.val (.ref ob), .val (.ref ba), qI 0] [(.int 0), (.ref ob)]))
  have F4 : Fld Z h2 ob "java/lang/String" "coder" "B" (.int 0) := (P2.other W2 (Or.inr (slot_ne (Or.inr (hw _ (mg 15 rfl))) (Or.inr (hw _ (mg 14 rfl))) (by decide) (t := .byte) (t' := (.array .byte)) (by decide) (by decide))))
  have F5 : Exa Z h2 ob "java/lang/String" := (P0.wr W2)
  obtain ⟨T6, h6, X6, e6, W6, st6⟩ := putFN X2 hx hZ hown (hw _ (mg 29 rfl)) Via.refl e2 F4 F5 (Or.inr ⟨(hw _ (mg 15 rfl)), rfl, hnm⟩) (hw _ (mg 12 rfl)) (ty := .byte) (v' := (.int 0)) (by decide) rfl rfl (g := (mkF m 11 #[.val (.ref ob), .val (.ref ba), qI 0] [(.int 0), (.ref ob)])) rfl rfl (hb hby d30_11)
  have N6 := Fr.snoc X6 N2 gob
  have F7 : Fld Z h6 ob "java/lang/String" "coder" "B" (.int 0) := F4.same W6
  refine Go.by st6 ?_
  show Go p e below _ (T6.setTop (mkF m 14 #[.val (.ref ob), .val (.ref ba), qI 0] []))
  have F8 : Keep h0 h6 [ob] := (((Keep.refl h0 [ob]).wr W2 (Or.inl (List.mem_of_getElem? (i := 0) rfl))).wr W6 (Or.inl (List.mem_of_getElem? (i := 0) rfl)))
  have F9 : Exa Z h6 ob "java/lang/String" := (F5.wr W6)
  have F10 : Fld Z h6 ob "java/lang/String" "value" "[B" (.ref ba) := (F3.other W6 (Or.inr (slot_ne (Or.inr (hw _ (mg 14 rfl))) (Or.inr (hw _ (mg 15 rfl))) (by decide) (t := (.array .byte)) (t' := .byte) (by decide) (by decide))))
  have hq : Q_initBB Z ob ba h0 n0 none h6 _ := ⟨rfl, N6, F8, F9, F7, F10⟩
  exact Go.ret0 X6 hx Bd.returns hlk (hb hby d30_14) (by decide) (by decide) (by rw [e6]; exact hq)
theorem d26_0 : decode jdk_43_method_47_code 0 = .ok (.iload_n 2, 1) := by decide +kernel
theorem d26_1 : decode jdk_43_method_47_code 1 = .ok (.ifCond .ne 6, 3) := by decide +kernel
theorem d26_4 : decode jdk_43_method_47_code 4 = .ok (.ldc 151, 2) := by decide +kernel
theorem d26_6 : decode jdk_43_method_47_code 6 = .ok (.areturn, 1) := by decide +kernel
theorem ef_newS_0 (m : MethodId) (xa : Addr) : entryFrame m #[(.ref xa), (.int (0 : Int32)), (.int (0 : Int32))] 3 = mkF m 0 #[.val (.ref xa), .val (.int (0 : Int32)), .val (.int (0 : Int32))] [] := by first | (simp [entryFrame, mkF, argsToLocals, Value.category]; done) | rfl
def Q_newS_0 (Z : State) (xa : Addr) (h0 : Heap) (n0 : Nat) (v : Option Value) (h : Heap) (L : List Loc) : Prop := ∃ sb : Addr, ∃ xb : Addr, ∃ kb : ClassId, v = some (.ref sb) ∧ Fr n0 L ∧ Keep h0 h [] ∧ Exa Z h sb "java/lang/String" ∧ Fld Z h sb "java/lang/String" "coder" "B" (.int 0) ∧ Fld Z h sb "java/lang/String" "value" "[B" (.ref xb) ∧ Arv Z h xb kb .byte (0 : Int32) [] (.int 0)
set_option maxRecDepth 65536 in
set_option maxHeartbeats 40000000 in
theorem newS_0 (l : Launch) (Z : State) (a0 : Array Value) (hw : ∀ d ∈ tables_1, d.before a0 Z = true) (ws : List Jvm.Cond) (xa : Addr) (h0 : Heap) (n0 : Nat) (O0 : Old Z n0 h0) :
    MetFree l (⟨"java/lang/StringLatin1", "newString", "([BII)Ljava/lang/String;"⟩ : MethodName) (head1 (Jvm.Cond.code (⟨"java/lang/StringLatin1", "newString", "([BII)Ljava/lang/String;"⟩ : MethodName) jdk_43_method_47_code 3 (some (.object "java/lang/String")) :: ws) ({ frames := 0, cells := 2, slots := 4, locals := 0 } : Room)) (fun a U => a = #[(.ref xa), (.int 0), (.int 0)] ∧ Z.Warmed39 U.vm ∧ U.heap = h0 ∧ CHv Z own_EL U.vm h0) (fun _ _ _ _ _ => True) (fun _ U o U' => ∃ v L, o = .returned v ∧ Q_newS_0 Z xa h0 n0 v U'.heap L ∧ CHr Z own_EL U.vm U.heap U'.vm U'.heap ∧ ReturnedEndW U o U' L ({ frames := 0, cells := 2, slots := 4, locals := 0 } : Room).cells ({ frames := 0, cells := 2, slots := 4, locals := 0 } : Room).slots) := by
  refine MetFree.of_bodySF (plainFor_of_name pn_3) hisR ?_
  intro p e s m args below meth c s₁ Bd hml0 hP hK
  obtain ⟨rfl, hZ, hh, hCH⟩ := hP
  have hx := Bd.exec
  have hby := Bd.bytes
  have hml : c.maxLocals = 3 := hml0
  have hown : s.vm.findClass "java/lang/StringLatin1" = some m.cls := findClass_of_methodNamed Bd.named
  have hnm := (name_of_methodNamed Bd.named Bd.method).1
  have hlk := BodyLoose.notSynchronized Bd
  have X0 : Stand p l e ({ frames := 0, cells := 2, slots := 4, locals := 0 } : Room) (s.setVm s.vm) m #[(.ref xa), (.int 0), (.int 0)] below meth c s₁ [] 0 0 := Stand.of_body Bd
  have e0 : s₁.heap = h0 := by rw [← hh, Bd.state]; rfl
  have N0 := Fr.nil n0
  have hS : s.Since s.vm h0.size := (State.WarmedH.refl s).since _
  have hk0 : h0.size ≤ h0.size := Nat.le_refl _
  have wS : ∀ a ∈ Bundle.stringAtoms, a.before a0 Z = true := fun a q => hw a (own_sA a q)
  have hEL : EW Z a0 own_EL := own_EW hw
  have hR0 : CHr Z own_EL s.vm h0 s.vm h0 := CHr.refl hCH
  refine Go.start (P := fun o U' => ∃ v L, o = .returned v ∧ Q_newS_0 Z xa h0 n0 v U'.heap L ∧ CHr Z own_EL s.vm s.heap U'.vm U'.heap ∧ ReturnedEndW s o U' L ({ frames := 0, cells := 2, slots := 4, locals := 0 } : Room).cells ({ frames := 0, cells := 2, slots := 4, locals := 0 } : Room).slots) (ef_newS_0 m xa) ?_
  show Go p e below _ (s₁.setTop (mkF m 0 #[.val (.ref xa), qI 0, qI 0] []))
  refine Go.by (fun t k => XS.iloadN X0.here hx rfl (hb hby d26_0) rfl (XS.ifNo X0.here hx rfl (hb hby d26_1) rfl ((if0 _ _).trans (teq rfl).2) k)) ?_
  show Go p e below _ (s₁.setTop (mkF m 4 #[.val (.ref xa), qI 0, qI 0] []))
  obtain ⟨a1, T1, h1, k1, d1, kd1, X1, e1, E1, hS, hk1, hZ, hown, F1_e, F1_c, F1_v, F1_a, -, -, C1, -, ns1, st1⟩ := ldcCH X0 hx hZ hown (hw _ (mg 138 rfl)) wS e0 hS hk0 hEL (List.mem_of_getElem? (i := 3) rfl) hR0.1 (vs := []) (z := (0 : Int32)) ⟨by decide, rfl⟩ (by decide) rfl (g := (mkF m 4 #[.val (.ref xa), qI 0, qI 0] [])) rfl (hb hby d26_4) (n := 0) (by decide) (by decide) (by decide) (by decide)
  have A1 := hR0.trans C1
  refine Go.by st1 ?_
  show Go p e below _ (T1.setTop (mkF m 6 #[.val (.ref xa), qI 0, qI 0] [(.ref a1)]))
  have F2 : Keep h0 h1 [] := ((Keep.refl h0 []).ext E1)
  have hq : Q_newS_0 Z xa h0 n0 (some (.ref a1)) h1 _ := ⟨a1, d1, kd1, rfl, N0, F2, F1_e, F1_c, F1_v, F1_a⟩
  exact Go.retAH hS (by rw [e1]; exact hk1) (own_chEnd X1 e1 hZ hEL A1 hh) X1 hx Bd.returns rfl rfl hlk (hb hby d26_6) (by decide) (by decide) (by rw [e1]; exact hq)
theorem d26_7 : decode jdk_43_method_47_code 7 = .ok (.new 1, 3) := by decide +kernel
theorem d26_10 : decode jdk_43_method_47_code 10 = .ok (.dup, 1) := by decide +kernel
theorem d26_11 : decode jdk_43_method_47_code 11 = .ok (.aload_n 0, 1) := by decide +kernel
theorem d26_12 : decode jdk_43_method_47_code 12 = .ok (.iload_n 1, 1) := by decide +kernel
theorem d26_13 : decode jdk_43_method_47_code 13 = .ok (.iload_n 1, 1) := by decide +kernel
theorem d26_14 : decode jdk_43_method_47_code 14 = .ok (.iload_n 2, 1) := by decide +kernel
theorem d26_15 : decode jdk_43_method_47_code 15 = .ok (.iadd, 1) := by decide +kernel
theorem d26_16 : decode jdk_43_method_47_code 16 = .ok (.invokestatic 232, 3) := by decide +kernel
theorem d26_19 : decode jdk_43_method_47_code 19 = .ok (.iconst 0, 1) := by decide +kernel
theorem d26_20 : decode jdk_43_method_47_code 20 = .ok (.invokespecial 112, 3) := by decide +kernel
theorem pd_17 : parseMethodDescriptor "([BB)V" = some ⟨[(.array .byte), .byte], none⟩ := by decide +kernel
theorem d26_23 : decode jdk_43_method_47_code 23 = .ok (.areturn, 1) := by decide +kernel
theorem ef_newS_p (m : MethodId) (xa : Addr) (n_ : Int32) : entryFrame m #[(.ref xa), (.int (0 : Int32)), (.int n_)] 3 = mkF m 0 #[.val (.ref xa), .val (.int (0 : Int32)), .val (.int n_)] [] := by first | (simp [entryFrame, mkF, argsToLocals, Value.category]; done) | rfl
def Q_newS_p (Z : State) (xa : Addr) (n_ : Int32) (ka : ClassId) (z_ : Int32) (vs : List Value) (h0 : Heap) (n0 : Nat) (v : Option Value) (h : Heap) (L : List Loc) : Prop := ∃ sb : Addr, ∃ xb : Addr, ∃ kb : ClassId, v = some (.ref sb) ∧ Fr n0 L ∧ Keep h0 h [] ∧ h0.size ≤ sb ∧ h0.size ≤ xb ∧ Exa Z h sb "java/lang/String" ∧ Fld Z h sb "java/lang/String" "coder" "B" (.int 0) ∧ Fld Z h sb "java/lang/String" "value" "[B" (.ref xb) ∧ Arv Z h xb kb .byte n_ (own_tk vs n_) (.int 0)
set_option maxRecDepth 65536 in
set_option maxHeartbeats 40000000 in
theorem newS_p (l : Launch) (Z : State) (a0 : Array Value) (hw : ∀ d ∈ tables_1, d.before a0 Z = true) (ws : List Jvm.Cond) (xa : Addr) (n_ : Int32) (ka : ClassId) (z_ : Int32) (vs : List Value) (h0 : Heap) (n0 : Nat) (O0 : Old Z n0 h0) (P0 : Arv Z h0 xa ka .byte z_ vs (.int 0)) (hn : 0 < n_.toInt ∧ n_.toInt < z_.toInt ∧ z_.toInt ≤ 18) :
    MetFree l (⟨"java/lang/StringLatin1", "newString", "([BII)Ljava/lang/String;"⟩ : MethodName) (head1 (Jvm.Cond.code (⟨"java/lang/StringLatin1", "newString", "([BII)Ljava/lang/String;"⟩ : MethodName) jdk_43_method_47_code 3 (some (.object "java/lang/String")) :: ws) ({ frames := 3, cells := 2, slots := 22, locals := 50 } : Room)) (fun a U => a = #[(.ref xa), (.int 0), (.int n_)] ∧ Z.Warmed39 U.vm ∧ U.heap = h0) (fun _ _ _ _ _ => True) (fun _ U o U' => ∃ v L, o = .returned v ∧ Q_newS_p Z xa n_ ka z_ vs h0 n0 v U'.heap L ∧ FrameEnd U o U' L ({ frames := 3, cells := 2, slots := 22, locals := 50 } : Room).cells ({ frames := 3, cells := 2, slots := 22, locals := 50 } : Room).slots) := by
  refine MetFree.of_bodySF (plainFor_of_name pn_3) hisR ?_
  intro p e s m args below meth c s₁ Bd hml0 hP hK
  obtain ⟨rfl, hZ, hh⟩ := hP
  have hx := Bd.exec
  have hby := Bd.bytes
  have hml : c.maxLocals = 3 := hml0
  have hown : s.vm.findClass "java/lang/StringLatin1" = some m.cls := findClass_of_methodNamed Bd.named
  have hnm := (name_of_methodNamed Bd.named Bd.method).1
  have hlk := BodyLoose.notSynchronized Bd
  have X0 : Stand p l e ({ frames := 3, cells := 2, slots := 22, locals := 50 } : Room) s m #[(.ref xa), (.int 0), (.int n_)] below meth c s₁ [] 0 0 := Stand.of_body Bd
  have e0 : s₁.heap = h0 := by rw [← hh, Bd.state]; rfl
  have N0 := Fr.nil n0
  refine Go.start (P := fun o U' => ∃ v L, o = .returned v ∧ Q_newS_p Z xa n_ ka z_ vs h0 n0 v U'.heap L ∧ FrameEnd s o U' L ({ frames := 3, cells := 2, slots := 22, locals := 50 } : Room).cells ({ frames := 3, cells := 2, slots := 22, locals := 50 } : Room).slots) (ef_newS_p m xa n_) ?_
  show Go p e below _ (s₁.setTop (mkF m 0 #[.val (.ref xa), qI 0, qI n_] []))
  refine Go.by (fun t k => XS.iloadN X0.here hx rfl (hb hby d26_0) rfl (XS.ifYes X0.here hx rfl (pc0 := 1) (pc' := 7) rfl (hb hby d26_1) rfl ((if0 _ _).trans (feq (own_neI (by have e0 : (0 : Int32).toInt = 0 := rfl; omega))).2) (by decide) (by decide) k)) ?_
  show Go p e below _ (s₁.setTop (mkF m 7 #[.val (.ref xa), qI 0, qI n_] []))
  obtain ⟨T1, h1, X1, e1, E1, A1, D1, -, st1⟩ := newO X0 hx hZ hown (hw _ (mg 117 rfl)) (hw _ (mg 12 rfl)) (hw _ (mg 11 rfl)) e0 (g := (mkF m 7 #[.val (.ref xa), qI 0, qI n_] [])) rfl (hb hby d26_7) (by decide) (by decide)
  obtain ⟨b1, g1⟩ : ∃ z, z = h0.size := ⟨_, rfl⟩
  rw [← g1] at A1 D1 st1
  have gl1 : h0.size ≤ b1 := Nat.le_of_eq g1.symm
  have ge1 : n0 ≤ b1 := Nat.le_trans (own_old_size O0) gl1
  have sz1 : h0.size ≤ b1 := Nat.le_trans (Keep.refl h0 []).1 gl1
  have ne2 : xa ≠ b1 := Nat.ne_of_lt (Nat.lt_of_lt_of_le P0.lt gl1)
  have F3 : Fld Z h1 b1 "java/lang/String" "value" "[B" .null := D1 (Or.inr (hw _ (mg 14 rfl))) (ty := (.array .byte)) (by decide)
  have F4 : Fld Z h1 b1 "java/lang/String" "coder" "B" (.int 0) := D1 (Or.inr (hw _ (mg 15 rfl))) (ty := .byte) (by decide)
  refine Go.by st1 ?_
  show Go p e below _ (T1.setTop (mkF m 10 #[.val (.ref xa), qI 0, qI n_] [(.ref b1)]))
  refine Go.by (fun t k => XS.dup X1.here hx rfl (hb hby d26_10) rfl rfl (XS.aloadN X1.here hx rfl (hb hby d26_11) rfl rfl (XS.iloadN X1.here hx rfl (hb hby d26_12) rfl (XS.iloadN X1.here hx rfl (hb hby d26_13) rfl (XS.iloadN X1.here hx rfl (hb hby d26_14) rfl (XS.iadd X1.here hx rfl (hb hby d26_15) rfl k)))))) ?_
  show Go p e below _ (T1.setTop (mkF m 16 #[.val (.ref xa), qI 0, qI n_] [(.int ((0 : Int32) + n_)), (.int 0), (.ref xa), (.ref b1), (.ref b1)]))
  rw [show T1.setTop (mkF m 16 #[.val (.ref xa), qI 0, qI n_] [(.int ((0 : Int32) + n_)), (.int 0), (.ref xa), (.ref b1), (.ref b1)]) = T1.setTop (mkF m 16 #[.val (.ref xa), qI 0, qI n_] [(.int n_), (.int 0), (.ref xa), (.ref b1), (.ref b1)]) from by rw [own_add0]]
  show Go p e below _ (T1.setTop (mkF m 16 #[.val (.ref xa), qI 0, qI n_] [(.int n_), (.int 0), (.ref xa), (.ref b1), (.ref b1)]))
  have F6 : Old Z n0 h1 := (O0.ext E1)
  have F7 : Arv Z h1 xa ka .byte z_ vs (.int 0) := (P0.ext E1)
  have F8 : Keep h0 h1 [] := ((Keep.refl h0 []).ext E1)
  obtain ⟨_, _, ⟨T5, L5, k5, n5⟩, -, X5, ⟨Lc5, hQ5, l5, y5, z5⟩, st5⟩ := Jvm.LawKit.callS X1 hx (y := (⟨"java/util/Arrays", "copyOfRange", "([BII)[B"⟩ : MethodName)) hown (mvT hZ (hw _ (mg 118 rfl))) (mvT hZ (hw _ (mg 119 rfl))) (mvT hZ (hw _ (mg 120 rfl))) (mvT hZ (hw _ (mg 121 rfl))) (by decide) (backOf (W := 2) (copyR l Z a0 hw [] xa n_ ka z_ vs h1 n0 F6 F7 hn) hZ (hw _ (mg 121 rfl)) (hw _ (mg 120 rfl)) (by decide) (by decide)) (g := (mkF m 16 #[.val (.ref xa), qI 0, qI n_] [(.int n_), (.int 0), (.ref xa), (.ref b1), (.ref b1)])) rfl (by rw [hml]; rfl) (argsL := [(.ref xa), (.int 0), (.int n_)]) (rest := [(.ref b1), (.ref b1)]) (lenOf pd_16 rfl) rfl (by show 2 * 0 + _ ≤ _; exact Nat.le_of_eq rfl) (hb hby d26_16) (fun _ _ => ⟨rfl, e1, (by decide : 1 + 1 ≤ _), (by decide : 4 + 18 ≤ _)⟩)
  dsimp only [Pt.U, Pt.locs, Pt.cells, Pt.slots] at X5 l5 y5 z5 st5 hQ5
  subst y5 z5
  obtain ⟨bb_5, kb_5, rfl, N5q, K5, fz5_bb, F5_0⟩ := hQ5
  have N5 : Fr n0 L5 := by rw [l5]; exact Fr.app N0 N5q
  have X5 := own_mr X5 2 22 (by decide) (by decide)
  have ge_bb_5 : n0 ≤ bb_5 := Nat.le_trans (own_old_size F6) fz5_bb
  have sz_bb_5 : h0.size ≤ bb_5 := Nat.le_trans F8.1 fz5_bb
  have ne9 : xa ≠ bb_5 := Nat.ne_of_lt (Nat.lt_of_lt_of_le F7.lt fz5_bb)
  have ne10 : b1 ≠ bb_5 := Nat.ne_of_lt (Nat.lt_of_lt_of_le A1.lt fz5_bb)
  refine Go.by st5 ?_
  show Go p e below _ (T5.setTop (mkF m 19 #[.val (.ref xa), qI 0, qI n_] [(.ref bb_5), (.ref b1), (.ref b1)]))
  refine Go.by (fun t k => XS.iconst X5.here hx rfl (hb hby d26_19) k) ?_
  show Go p e below _ (T5.setTop (mkF m 20 #[.val (.ref xa), qI 0, qI n_] [(.int 0), (.ref bb_5), (.ref b1), (.ref b1)]))
  have F12 : Old Z n0 T5.heap := (F6.keep K5 all0)
  have F13 : Exa Z T5.heap b1 "java/lang/String" := (A1.keep K5)
  have F14 : Fld Z T5.heap b1 "java/lang/String" "value" "[B" .null := (F3.keep K5 nin0)
  have F15 : Fld Z T5.heap b1 "java/lang/String" "coder" "B" (.int 0) := (F4.keep K5 nin0)
  have F16 : Keep h0 T5.heap [] := (F8.trans K5 all0)
  obtain ⟨_, _, ⟨T11, L11, k11, n11⟩, -, X11, ⟨Lc11, hQ11, l11, y11, z11⟩, st11⟩ := X5.specialBack hx (y := (⟨"java/lang/String", "<init>", "([BB)V"⟩ : MethodName)) rfl hown (mvT hZ (hw _ (mg 133 rfl))) (mvT hZ (hw _ (mg 134 rfl))) (mvT hZ (hw _ (mg 135 rfl))) (by decide) (backOf (W := 1) (initBB l Z a0 hw [] b1 bb_5 T5.heap n0 F12 F13 F14 F15 ge1) hZ (hw _ (mg 135 rfl)) (hw _ (mg 11 rfl)) (by decide) (by decide)) (g := (mkF m 20 #[.val (.ref xa), qI 0, qI n_] [(.int 0), (.ref bb_5), (.ref b1), (.ref b1)])) rfl (by rw [hml]; rfl) (Steps.refl _) (a := b1) (argsL := [(.ref bb_5), (.int 0)]) (rest := [(.ref b1)]) (lenOf pd_17 rfl) rfl (by show 2 * 0 + _ ≤ _; exact Nat.le_of_eq rfl) (hb hby d26_20) (fun _ _ => ⟨rfl, rfl, (by decide : 2 + 0 ≤ _), (by decide : 22 + 0 ≤ _)⟩)
  dsimp only [Pt.U, Pt.locs, Pt.cells, Pt.slots] at X11 l11 y11 z11 st11 hQ11
  subst y11 z11
  obtain ⟨rfl, N11q, K11, F11_0, F11_1, F11_2⟩ := hQ11
  have N11 : Fr n0 L11 := by rw [l11]; exact Fr.app N5 N11q
  have X11 := own_mr X11 2 22 (by decide) (by decide)
  refine Go.tr st11 ?_
  show Go p e below _ (T11.setTop (mkF m 23 #[.val (.ref xa), qI 0, qI n_] [(.ref b1)]))
  have F17 : Keep h0 T11.heap [] := (F16.trans K11 (allS (Or.inr sz1) all0))
  have F18 : Arv Z T11.heap bb_5 kb_5 .byte n_ (own_tk vs n_) (.int 0) := (F5_0.keep K11 (ninS (Ne.symm ne10) nin0))
  have hq : Q_newS_p Z xa n_ ka z_ vs h0 n0 (some (.ref b1)) T11.heap _ := ⟨b1, bb_5, kb_5, rfl, N11, F17, sz1, sz_bb_5, F11_0, F11_1, F11_2, F18⟩
  exact Go.retA X11 hx Bd.returns rfl rfl hlk (hb hby d26_23) (by decide) (by decide) hq
theorem d23_0 : decode jdk_42_method_92_code 0 = .ok (.aload_n 0, 1) := by decide +kernel
theorem d23_1 : decode jdk_42_method_92_code 1 = .ok (.invokevirtual 505, 3) := by decide +kernel
theorem d23_4 : decode jdk_42_method_92_code 4 = .ok (.istore_n 3, 1) := by decide +kernel
theorem d23_5 : decode jdk_42_method_92_code 5 = .ok (.iload_n 1, 1) := by decide +kernel
theorem d23_6 : decode jdk_42_method_92_code 6 = .ok (.iload_n 2, 1) := by decide +kernel
theorem d23_7 : decode jdk_42_method_92_code 7 = .ok (.iload_n 3, 1) := by decide +kernel
theorem d23_8 : decode jdk_42_method_92_code 8 = .ok (.invokestatic 521, 3) := by decide +kernel
theorem pd_18 : parseMethodDescriptor "(III)V" = some ⟨[.int, .int, .int], none⟩ := by decide +kernel
theorem d23_11 : decode jdk_42_method_92_code 11 = .ok (.iload_n 1, 1) := by decide +kernel
theorem d23_12 : decode jdk_42_method_92_code 12 = .ok (.ifCond .ne 10, 3) := by decide +kernel
theorem d23_15 : decode jdk_42_method_92_code 15 = .ok (.iload_n 2, 1) := by decide +kernel
theorem d23_16 : decode jdk_42_method_92_code 16 = .ok (.iload_n 3, 1) := by decide +kernel
theorem d23_17 : decode jdk_42_method_92_code 17 = .ok (.if_icmp .ne 5, 3) := by decide +kernel
theorem d23_22 : decode jdk_42_method_92_code 22 = .ok (.iload_n 2, 1) := by decide +kernel
theorem d23_23 : decode jdk_42_method_92_code 23 = .ok (.iload_n 1, 1) := by decide +kernel
theorem d23_24 : decode jdk_42_method_92_code 24 = .ok (.isub, 1) := by decide +kernel
theorem d23_25 : decode jdk_42_method_92_code 25 = .ok (.istore 4, 2) := by decide +kernel
theorem d23_27 : decode jdk_42_method_92_code 27 = .ok (.aload_n 0, 1) := by decide +kernel
theorem d23_28 : decode jdk_42_method_92_code 28 = .ok (.invokevirtual 492, 3) := by decide +kernel
theorem d23_31 : decode jdk_42_method_92_code 31 = .ok (.ifCond .eq 16, 3) := by decide +kernel
theorem d23_34 : decode jdk_42_method_92_code 34 = .ok (.aload_n 0, 1) := by decide +kernel
theorem d23_35 : decode jdk_42_method_92_code 35 = .ok (.getfield 9, 3) := by decide +kernel
theorem d23_38 : decode jdk_42_method_92_code 38 = .ok (.iload_n 1, 1) := by decide +kernel
theorem d23_39 : decode jdk_42_method_92_code 39 = .ok (.iload 4, 2) := by decide +kernel
theorem d23_41 : decode jdk_42_method_92_code 41 = .ok (.invokestatic 685, 3) := by decide +kernel
theorem pd_19 : parseMethodDescriptor "([BII)Ljava/lang/String;" = some ⟨[(.array .byte), .int, .int], some (.object "java/lang/String")⟩ := by decide +kernel
theorem d23_44 : decode jdk_42_method_92_code 44 = .ok (.goto 13, 3) := by decide +kernel
theorem d23_57 : decode jdk_42_method_92_code 57 = .ok (.areturn, 1) := by decide +kernel
theorem ef_sub_0 (m : MethodId) (sa : Addr) : entryFrame m #[(.ref sa), (.int (0 : Int32)), (.int (0 : Int32))] 5 = mkF m 0 #[.val (.ref sa), .val (.int (0 : Int32)), .val (.int (0 : Int32)), .unset, .unset] [] := by first | (simp [entryFrame, mkF, argsToLocals, Value.category]; done) | rfl
def Q_sub_0 (Z : State) (sa : Addr) (xa : Addr) (ka : ClassId) (z_ : Int32) (vs : List Value) (cs : Int32) (fm : Value) (h0 : Heap) (n0 : Nat) (v : Option Value) (h : Heap) (L : List Loc) : Prop := ∃ sb : Addr, ∃ xb : Addr, ∃ kb : ClassId, v = some (.ref sb) ∧ Fr n0 L ∧ Keep h0 h [] ∧ Exa Z h sb "java/lang/String" ∧ Fld Z h sb "java/lang/String" "coder" "B" (.int 0) ∧ Fld Z h sb "java/lang/String" "value" "[B" (.ref xb) ∧ Arv Z h xb kb .byte (0 : Int32) [] (.int 0)
set_option maxRecDepth 65536 in
set_option maxHeartbeats 40000000 in
theorem sub_0 (l : Launch) (Z : State) (a0 : Array Value) (hw : ∀ d ∈ tables_1, d.before a0 Z = true) (ws : List Jvm.Cond) (sa : Addr) (xa : Addr) (ka : ClassId) (z_ : Int32) (vs : List Value) (cs : Int32) (fm : Value) (h0 : Heap) (n0 : Nat) (O0 : Old Z n0 h0) (P0 : Sta Z Z.heap "java/lang/String" "COMPACT_STRINGS" "Z" (.int cs)) (P1 : Exa Z h0 sa "java/lang/String") (P2 : Fld Z h0 sa "java/lang/String" "coder" "B" (.int 0)) (P3 : Fld Z h0 sa "java/lang/String" "value" "[B" (.ref xa)) (P4 : Arv Z h0 xa ka .byte z_ vs (.int 0)) (P5 : Sta Z Z.heap "jdk/internal/util/Preconditions" "SIOOBE_FORMATTER" "Ljava/util/function/BiFunction;" fm) (hcs : cs ≠ (0 : Int32)) (hfm : fm.isRef = true) (hz : 0 < z_.toInt) :
    MetFree l (⟨"java/lang/String", "substring", "(II)Ljava/lang/String;"⟩ : MethodName) (head1 (Jvm.Cond.code (⟨"java/lang/String", "substring", "(II)Ljava/lang/String;"⟩ : MethodName) jdk_42_method_92_code 5 (some (.object "java/lang/String")) :: ws) ({ frames := 2, cells := 2, slots := 4, locals := 29 } : Room)) (fun a U => a = #[(.ref sa), (.int 0), (.int 0)] ∧ Z.Warmed39 U.vm ∧ U.heap = h0 ∧ CHv Z own_EL U.vm h0) (fun _ _ _ _ _ => True) (fun _ U o U' => ∃ v L, o = .returned v ∧ Q_sub_0 Z sa xa ka z_ vs cs fm h0 n0 v U'.heap L ∧ CHr Z own_EL U.vm U.heap U'.vm U'.heap ∧ ReturnedEndW U o U' L ({ frames := 2, cells := 2, slots := 4, locals := 29 } : Room).cells ({ frames := 2, cells := 2, slots := 4, locals := 29 } : Room).slots) := by
  refine MetFree.of_bodySF (plainFor_of_name pn_1) hisR ?_
  intro p e s m args below meth c s₁ Bd hml0 hP hK
  obtain ⟨rfl, hZ, hh, hCH⟩ := hP
  have hx := Bd.exec
  have hby := Bd.bytes
  have hml : c.maxLocals = 5 := hml0
  have hown : s.vm.findClass "java/lang/String" = some m.cls := findClass_of_methodNamed Bd.named
  have hnm := (name_of_methodNamed Bd.named Bd.method).1
  have hlk := BodyLoose.notSynchronized Bd
  have X0 : Stand p l e ({ frames := 2, cells := 2, slots := 4, locals := 29 } : Room) (s.setVm s.vm) m #[(.ref sa), (.int 0), (.int 0)] below meth c s₁ [] 0 0 := Stand.of_body Bd
  have e0 : s₁.heap = h0 := by rw [← hh, Bd.state]; rfl
  have N0 := Fr.nil n0
  have hS : s.Since s.vm h0.size := (State.WarmedH.refl s).since _
  have hk0 : h0.size ≤ h0.size := Nat.le_refl _
  have wS : ∀ a ∈ Bundle.stringAtoms, a.before a0 Z = true := fun a q => hw a (own_sA a q)
  have hEL : EW Z a0 own_EL := own_EW hw
  have hR0 : CHr Z own_EL s.vm h0 s.vm h0 := CHr.refl hCH
  refine Go.start (P := fun o U' => ∃ v L, o = .returned v ∧ Q_sub_0 Z sa xa ka z_ vs cs fm h0 n0 v U'.heap L ∧ CHr Z own_EL s.vm s.heap U'.vm U'.heap ∧ ReturnedEndW s o U' L ({ frames := 2, cells := 2, slots := 4, locals := 29 } : Room).cells ({ frames := 2, cells := 2, slots := 4, locals := 29 } : Room).slots) (ef_sub_0 m sa) ?_
  show Go p e below _ (s₁.setTop (mkF m 0 #[.val (.ref sa), qI 0, qI 0, qU, qU] []))
  refine Go.by (fun t k => XS.aloadN X0.here hx rfl (hb hby d23_0) rfl rfl k) ?_
  show Go p e below _ (s₁.setTop (mkF m 1 #[.val (.ref sa), qI 0, qI 0, qU, qU] [(.ref sa)]))
  obtain ⟨cq1, kq1, q1a, q1b, q1c⟩ := isOf hZ e0 P1
  obtain ⟨_, _, ⟨T1, L1, k1, n1⟩, -, X1, ⟨Lc1, hQ1, l1, y1, z1⟩, st1⟩ := X0.virtualBack hx (y := (⟨"java/lang/String", "length", "()I"⟩ : MethodName)) (z := (⟨"java/lang/String", "length", "()I"⟩ : MethodName)) hown (mvT hZ (hw _ (mg 78 rfl))) (mvT hZ (hw _ (mg 79 rfl))) (notFace_of_selects (args := #[]) (mvT hZ (hw _ (mg 81 rfl)))) (mvT hZ (hw _ (mg 81 rfl))) (mvT hZ (hw _ (mg 80 rfl))) (by decide) (backOf (W := 0) (length l Z a0 hw [] sa xa ka z_ vs cs h0 n0 O0 P0 P1 P2 P3 P4 (by first | assumption | omega | decide | simp_all : cs ≠ (0 : Int32))) hZ (hw _ (mg 82 rfl)) (hw _ (mg 11 rfl)) (by decide) (by decide)) q1a q1c (g := (mkF m 1 #[.val (.ref sa), qI 0, qI 0, qU, qU] [(.ref sa)])) rfl (by rw [hml]; rfl) (Steps.refl _) (argsL := []) (rest := []) (lenOf pd_14 rfl) rfl (by show 2 * 0 + _ ≤ _; exact Nat.le_of_eq rfl) (hb hby d23_1) (fun _ _ => ⟨rfl, e0, (by decide : 0 + 0 ≤ _), (by decide : 0 + 0 ≤ _)⟩)
  dsimp only [Pt.U, Pt.locs, Pt.cells, Pt.slots] at X1 l1 y1 z1 st1 hQ1
  subst y1 z1
  obtain ⟨rfl, N1q, e1⟩ := hQ1
  have N1 : Fr n0 L1 := by rw [l1]; exact Fr.app N0 N1q
  have X1 := own_mr X1 0 0 (by decide) (by decide)
  refine Go.tr st1 ?_
  show Go p e below _ (T1.setTop (mkF m 4 #[.val (.ref sa), qI 0, qI 0, qU, qU] [(.int z_)]))
  refine Go.by (fun t k => XS.istoreN X1.here hx rfl (hb hby d23_4) rfl (l' := #[.val (.ref sa), qI 0, qI 0, qI z_, qU]) rfl (XS.iloadN X1.here hx rfl (hb hby d23_5) rfl (XS.iloadN X1.here hx rfl (hb hby d23_6) rfl (XS.iloadN X1.here hx rfl (hb hby d23_7) rfl k)))) ?_
  show Go p e below _ (T1.setTop (mkF m 8 #[.val (.ref sa), qI 0, qI 0, qI z_, qU] [(.int z_), (.int 0), (.int 0)]))
  obtain ⟨_, _, ⟨T2, L2, k2, n2⟩, -, X2, ⟨Lc2, hQ2, l2, y2, z2⟩, st2⟩ := Jvm.LawKit.callS X1 hx (y := (⟨"java/lang/String", "checkBoundsBeginEnd", "(III)V"⟩ : MethodName)) hown (mvT hZ (hw _ (mg 108 rfl))) (mvT hZ (hw _ (mg 109 rfl))) (mvT hZ (hw _ (mg 11 rfl))) (mvT hZ (hw _ (mg 110 rfl))) (by decide) (backOf (W := 0) (bounds l Z a0 hw [] (0 : Int32) z_ fm h0 n0 O0 P5 (by decide) (own_nlt (by have e0 : (0 : Int32).toInt = 0 := rfl; omega)) (by first | assumption | omega | decide | simp_all : fm.isRef = true)) hZ (hw _ (mg 110 rfl)) (hw _ (mg 11 rfl)) (by decide) (by decide)) (g := (mkF m 8 #[.val (.ref sa), qI 0, qI 0, qI z_, qU] [(.int z_), (.int 0), (.int 0)])) rfl (by rw [hml]; rfl) (argsL := [(.int 0), (.int 0), (.int z_)]) (rest := []) (lenOf pd_18 rfl) rfl (by show 2 * 0 + _ ≤ _; exact Nat.le_of_eq rfl) (hb hby d23_8) (fun _ _ => ⟨rfl, e1, (by decide : 0 + 0 ≤ _), (by decide : 0 + 0 ≤ _)⟩)
  dsimp only [Pt.U, Pt.locs, Pt.cells, Pt.slots] at X2 l2 y2 z2 st2 hQ2
  subst y2 z2
  obtain ⟨rfl, N2q, e2⟩ := hQ2
  have N2 : Fr n0 L2 := by rw [l2]; exact Fr.app N1 N2q
  have X2 := own_mr X2 0 0 (by decide) (by decide)
  refine Go.by st2 ?_
  show Go p e below _ (T2.setTop (mkF m 11 #[.val (.ref sa), qI 0, qI 0, qI z_, qU] []))
  refine Go.by (fun t k => XS.iloadN X2.here hx rfl (hb hby d23_11) rfl (XS.ifNo X2.here hx rfl (hb hby d23_12) rfl ((if0 _ _).trans (teq rfl).2) (XS.iloadN X2.here hx rfl (hb hby d23_15) rfl (XS.iloadN X2.here hx rfl (hb hby d23_16) rfl (XS.icmpYes X2.here hx rfl (pc0 := 17) (pc' := 22) rfl (hb hby d23_17) rfl (feq (own_neI (by have e0 : (0 : Int32).toInt = 0 := rfl; omega))).2 (by decide) (by decide) (XS.iloadN X2.here hx rfl (hb hby d23_22) rfl (XS.iloadN X2.here hx rfl (hb hby d23_23) rfl (XS.isub X2.here hx rfl (hb hby d23_24) rfl k)))))))) ?_
  show Go p e below _ (T2.setTop (mkF m 25 #[.val (.ref sa), qI 0, qI 0, qI z_, qU] [(.int 0)]))
  refine Go.by (fun t k => XS.istore X2.here hx rfl (hb hby d23_25) rfl (l' := #[.val (.ref sa), qI 0, qI 0, qI z_, qI 0]) rfl (XS.aloadN X2.here hx rfl (hb hby d23_27) rfl rfl k)) ?_
  show Go p e below _ (T2.setTop (mkF m 28 #[.val (.ref sa), qI 0, qI 0, qI z_, qI 0] [(.ref sa)]))
  obtain ⟨cq3, kq3, q3a, q3b, q3c⟩ := isOf hZ e2 P1
  obtain ⟨_, _, ⟨T3, L3, k3, n3⟩, -, X3, ⟨Lc3, hQ3, l3, y3, z3⟩, st3⟩ := X2.virtualBack hx (y := (⟨"java/lang/String", "isLatin1", "()Z"⟩ : MethodName)) (z := (⟨"java/lang/String", "isLatin1", "()Z"⟩ : MethodName)) hown (mvT hZ (hw _ (mg 23 rfl))) (mvT hZ (hw _ (mg 24 rfl))) (notFace_of_selects (args := #[]) (mvT hZ (hw _ (mg 26 rfl)))) (mvT hZ (hw _ (mg 26 rfl))) (mvT hZ (hw _ (mg 25 rfl))) (by decide) (backOf (W := 0) (isLat l Z a0 hw [] sa cs h0 n0 O0 P0 P2 (by first | assumption | omega | decide | simp_all : cs ≠ (0 : Int32))) hZ (hw _ (mg 27 rfl)) (hw _ (mg 11 rfl)) (by decide) (by decide)) q3a q3c (g := (mkF m 28 #[.val (.ref sa), qI 0, qI 0, qI z_, qI 0] [(.ref sa)])) rfl (by rw [hml]; rfl) (Steps.refl _) (argsL := []) (rest := []) (lenOf pd_2 rfl) rfl (by show 2 * 0 + _ ≤ _; exact Nat.le_of_eq rfl) (hb hby d23_28) (fun _ _ => ⟨rfl, e2, (by decide : 0 + 0 ≤ _), (by decide : 0 + 0 ≤ _)⟩)
  dsimp only [Pt.U, Pt.locs, Pt.cells, Pt.slots] at X3 l3 y3 z3 st3 hQ3
  subst y3 z3
  obtain ⟨rfl, N3q, e3⟩ := hQ3
  have N3 : Fr n0 L3 := by rw [l3]; exact Fr.app N2 N3q
  have X3 := own_mr X3 0 0 (by decide) (by decide)
  refine Go.tr st3 ?_
  show Go p e below _ (T3.setTop (mkF m 31 #[.val (.ref sa), qI 0, qI 0, qI z_, qI 0] [(.int 1)]))
  refine Go.by (fun t k => XS.ifNo X3.here hx rfl (hb hby d23_31) rfl ((if0 _ _).trans (feq (by decide : ¬ ((1 : Int32) = (0 : Int32)))).1) (XS.aloadN X3.here hx rfl (hb hby d23_34) rfl rfl k)) ?_
  show Go p e below _ (T3.setTop (mkF m 35 #[.val (.ref sa), qI 0, qI 0, qI z_, qI 0] [(.ref sa)]))
  obtain ⟨T4, X4, e4, st4⟩ := getF X3 hx hZ hown (host := "") (Or.inl (hw _ (mg 30 rfl))) Via.refl e3 P3 (g := (mkF m 35 #[.val (.ref sa), qI 0, qI 0, qI z_, qI 0] [(.ref sa)])) rfl rfl (hb hby d23_35)
  refine Go.by st4 ?_
  show Go p e below _ (T4.setTop (mkF m 38 #[.val (.ref sa), qI 0, qI 0, qI z_, qI 0] [(.ref xa)]))
  refine Go.by (fun t k => XS.iloadN X4.here hx rfl (hb hby d23_38) rfl (XS.iload X4.here hx rfl (hb hby d23_39) rfl k)) ?_
  show Go p e below _ (T4.setTop (mkF m 41 #[.val (.ref sa), qI 0, qI 0, qI z_, qI 0] [(.int 0), (.int 0), (.ref xa)]))
  obtain ⟨_, _, ⟨T5, L5, k5, n5⟩, -, X5, sn5, gr5, ⟨Lc5, hQ5, l5, y5, z5, C5⟩, st5⟩ := callSS X4 hx (y := (⟨"java/lang/StringLatin1", "newString", "([BII)Ljava/lang/String;"⟩ : MethodName)) hown (mvT hZ (hw _ (mg 114 rfl))) (mvT hZ (hw _ (mg 115 rfl))) (mvT hZ (hw _ (mg 33 rfl))) (mvT hZ (hw _ (mg 116 rfl))) (by decide) (backOfSH (W := 0) (newS_0 l Z a0 hw [] xa h0 n0 O0) hZ (hw _ (mg 116 rfl)) (hw _ (mg 33 rfl)) (by decide) (by decide) hEL hR0.1) (g := (mkF m 41 #[.val (.ref sa), qI 0, qI 0, qI z_, qI 0] [(.int 0), (.int 0), (.ref xa)])) rfl (by rw [hml]; rfl) (argsL := [(.ref xa), (.int 0), (.int 0)]) (rest := []) (lenOf pd_19 rfl) rfl (by show 2 * 0 + _ ≤ _; exact Nat.le_of_eq rfl) (hb hby d23_41) (fun _ _ => ⟨rfl, e4, (by decide : 0 + 2 ≤ _), (by decide : 0 + 4 ≤ _)⟩)
  dsimp only [Pt.U, Pt.locs, Pt.cells, Pt.slots] at X5 l5 y5 z5 st5 hQ5 sn5 gr5 C5
  subst y5 z5
  obtain ⟨X5, hS, hZ, hown⟩ := rebS hS (n1 := T4.heap.size) (by rw [e4]; exact hk0) X5 sn5 gr5 hZ hown
  have hk5 : T5.heap.size ≤ T5.heap.size := Nat.le_refl _
  have A5 := hR0.trans C5
  obtain ⟨sb_5, xb_5, kb_5, rfl, N5q, K5, F5_0, F5_1, F5_2, F5_3⟩ := hQ5
  have N5 : Fr n0 L5 := by rw [l5]; exact Fr.app N3 N5q
  have X5 := own_mr X5 2 4 (by decide) (by decide)
  refine Go.tr st5 ?_
  show Go p e below _ (T5.setTop (mkF m 44 #[.val (.ref sa), qI 0, qI 0, qI z_, qI 0] [(.ref sb_5)]))
  refine Go.by (fun t k => XS.goto X5.here hx rfl (pc0 := 44) (pc' := 57) rfl (hb hby d23_44) (by decide) (by decide) k) ?_
  show Go p e below _ (T5.setTop (mkF m 57 #[.val (.ref sa), qI 0, qI 0, qI z_, qI 0] [(.ref sb_5)]))
  have F6 : Keep h0 T5.heap [] := ((Keep.refl h0 []).trans K5 all0)
  have hq : Q_sub_0 Z sa xa ka z_ vs cs fm h0 n0 (some (.ref sb_5)) T5.heap _ := ⟨sb_5, xb_5, kb_5, rfl, N5, F6, F5_0, F5_1, F5_2, F5_3⟩
  exact Go.retAH hS hk5 (own_chEnd X5 rfl hZ hEL A5 hh) X5 hx Bd.returns rfl rfl hlk (hb hby d23_57) (by decide) (by decide) hq
theorem ef_sub_p (m : MethodId) (sa : Addr) (n_ : Int32) : entryFrame m #[(.ref sa), (.int (0 : Int32)), (.int n_)] 5 = mkF m 0 #[.val (.ref sa), .val (.int (0 : Int32)), .val (.int n_), .unset, .unset] [] := by first | (simp [entryFrame, mkF, argsToLocals, Value.category]; done) | rfl
def Q_sub_p (Z : State) (sa : Addr) (n_ : Int32) (xa : Addr) (ka : ClassId) (z_ : Int32) (vs : List Value) (cs : Int32) (fm : Value) (h0 : Heap) (n0 : Nat) (v : Option Value) (h : Heap) (L : List Loc) : Prop := ∃ sb : Addr, ∃ xb : Addr, ∃ kb : ClassId, v = some (.ref sb) ∧ Fr n0 L ∧ Keep h0 h [] ∧ h0.size ≤ sb ∧ h0.size ≤ xb ∧ Exa Z h sb "java/lang/String" ∧ Fld Z h sb "java/lang/String" "coder" "B" (.int 0) ∧ Fld Z h sb "java/lang/String" "value" "[B" (.ref xb) ∧ Arv Z h xb kb .byte n_ (own_tk vs n_) (.int 0)
set_option maxRecDepth 65536 in
set_option maxHeartbeats 40000000 in
theorem sub_p (l : Launch) (Z : State) (a0 : Array Value) (hw : ∀ d ∈ tables_1, d.before a0 Z = true) (ws : List Jvm.Cond) (sa : Addr) (n_ : Int32) (xa : Addr) (ka : ClassId) (z_ : Int32) (vs : List Value) (cs : Int32) (fm : Value) (h0 : Heap) (n0 : Nat) (O0 : Old Z n0 h0) (P0 : Sta Z Z.heap "java/lang/String" "COMPACT_STRINGS" "Z" (.int cs)) (P1 : Exa Z h0 sa "java/lang/String") (P2 : Fld Z h0 sa "java/lang/String" "coder" "B" (.int 0)) (P3 : Fld Z h0 sa "java/lang/String" "value" "[B" (.ref xa)) (P4 : Arv Z h0 xa ka .byte z_ vs (.int 0)) (P5 : Sta Z Z.heap "jdk/internal/util/Preconditions" "SIOOBE_FORMATTER" "Ljava/util/function/BiFunction;" fm) (hcs : cs ≠ (0 : Int32)) (hfm : fm.isRef = true) (hn : 0 < n_.toInt ∧ n_.toInt < z_.toInt ∧ z_.toInt ≤ 18) :
    MetFree l (⟨"java/lang/String", "substring", "(II)Ljava/lang/String;"⟩ : MethodName) (head1 (Jvm.Cond.code (⟨"java/lang/String", "substring", "(II)Ljava/lang/String;"⟩ : MethodName) jdk_42_method_92_code 5 (some (.object "java/lang/String")) :: ws) ({ frames := 4, cells := 2, slots := 22, locals := 64 } : Room)) (fun a U => a = #[(.ref sa), (.int 0), (.int n_)] ∧ Z.Warmed39 U.vm ∧ U.heap = h0) (fun _ _ _ _ _ => True) (fun _ U o U' => ∃ v L, o = .returned v ∧ Q_sub_p Z sa n_ xa ka z_ vs cs fm h0 n0 v U'.heap L ∧ FrameEnd U o U' L ({ frames := 4, cells := 2, slots := 22, locals := 64 } : Room).cells ({ frames := 4, cells := 2, slots := 22, locals := 64 } : Room).slots) := by
  refine MetFree.of_bodySF (plainFor_of_name pn_1) hisR ?_
  intro p e s m args below meth c s₁ Bd hml0 hP hK
  obtain ⟨rfl, hZ, hh⟩ := hP
  have hx := Bd.exec
  have hby := Bd.bytes
  have hml : c.maxLocals = 5 := hml0
  have hown : s.vm.findClass "java/lang/String" = some m.cls := findClass_of_methodNamed Bd.named
  have hnm := (name_of_methodNamed Bd.named Bd.method).1
  have hlk := BodyLoose.notSynchronized Bd
  have X0 : Stand p l e ({ frames := 4, cells := 2, slots := 22, locals := 64 } : Room) s m #[(.ref sa), (.int 0), (.int n_)] below meth c s₁ [] 0 0 := Stand.of_body Bd
  have e0 : s₁.heap = h0 := by rw [← hh, Bd.state]; rfl
  have N0 := Fr.nil n0
  refine Go.start (P := fun o U' => ∃ v L, o = .returned v ∧ Q_sub_p Z sa n_ xa ka z_ vs cs fm h0 n0 v U'.heap L ∧ FrameEnd s o U' L ({ frames := 4, cells := 2, slots := 22, locals := 64 } : Room).cells ({ frames := 4, cells := 2, slots := 22, locals := 64 } : Room).slots) (ef_sub_p m sa n_) ?_
  show Go p e below _ (s₁.setTop (mkF m 0 #[.val (.ref sa), qI 0, qI n_, qU, qU] []))
  refine Go.by (fun t k => XS.aloadN X0.here hx rfl (hb hby d23_0) rfl rfl k) ?_
  show Go p e below _ (s₁.setTop (mkF m 1 #[.val (.ref sa), qI 0, qI n_, qU, qU] [(.ref sa)]))
  obtain ⟨cq1, kq1, q1a, q1b, q1c⟩ := isOf hZ e0 P1
  obtain ⟨_, _, ⟨T1, L1, k1, n1⟩, -, X1, ⟨Lc1, hQ1, l1, y1, z1⟩, st1⟩ := X0.virtualBack hx (y := (⟨"java/lang/String", "length", "()I"⟩ : MethodName)) (z := (⟨"java/lang/String", "length", "()I"⟩ : MethodName)) hown (mvT hZ (hw _ (mg 78 rfl))) (mvT hZ (hw _ (mg 79 rfl))) (notFace_of_selects (args := #[]) (mvT hZ (hw _ (mg 81 rfl)))) (mvT hZ (hw _ (mg 81 rfl))) (mvT hZ (hw _ (mg 80 rfl))) (by decide) (backOf (W := 0) (length l Z a0 hw [] sa xa ka z_ vs cs h0 n0 O0 P0 P1 P2 P3 P4 (by first | assumption | omega | decide | simp_all : cs ≠ (0 : Int32))) hZ (hw _ (mg 82 rfl)) (hw _ (mg 11 rfl)) (by decide) (by decide)) q1a q1c (g := (mkF m 1 #[.val (.ref sa), qI 0, qI n_, qU, qU] [(.ref sa)])) rfl (by rw [hml]; rfl) (Steps.refl _) (argsL := []) (rest := []) (lenOf pd_14 rfl) rfl (by show 2 * 0 + _ ≤ _; exact Nat.le_of_eq rfl) (hb hby d23_1) (fun _ _ => ⟨rfl, e0, (by decide : 0 + 0 ≤ _), (by decide : 0 + 0 ≤ _)⟩)
  dsimp only [Pt.U, Pt.locs, Pt.cells, Pt.slots] at X1 l1 y1 z1 st1 hQ1
  subst y1 z1
  obtain ⟨rfl, N1q, e1⟩ := hQ1
  have N1 : Fr n0 L1 := by rw [l1]; exact Fr.app N0 N1q
  have X1 := own_mr X1 0 0 (by decide) (by decide)
  refine Go.tr st1 ?_
  show Go p e below _ (T1.setTop (mkF m 4 #[.val (.ref sa), qI 0, qI n_, qU, qU] [(.int z_)]))
  refine Go.by (fun t k => XS.istoreN X1.here hx rfl (hb hby d23_4) rfl (l' := #[.val (.ref sa), qI 0, qI n_, qI z_, qU]) rfl (XS.iloadN X1.here hx rfl (hb hby d23_5) rfl (XS.iloadN X1.here hx rfl (hb hby d23_6) rfl (XS.iloadN X1.here hx rfl (hb hby d23_7) rfl k)))) ?_
  show Go p e below _ (T1.setTop (mkF m 8 #[.val (.ref sa), qI 0, qI n_, qI z_, qU] [(.int z_), (.int n_), (.int 0)]))
  obtain ⟨_, _, ⟨T2, L2, k2, n2⟩, -, X2, ⟨Lc2, hQ2, l2, y2, z2⟩, st2⟩ := Jvm.LawKit.callS X1 hx (y := (⟨"java/lang/String", "checkBoundsBeginEnd", "(III)V"⟩ : MethodName)) hown (mvT hZ (hw _ (mg 108 rfl))) (mvT hZ (hw _ (mg 109 rfl))) (mvT hZ (hw _ (mg 11 rfl))) (mvT hZ (hw _ (mg 110 rfl))) (by decide) (backOf (W := 0) (bounds l Z a0 hw [] n_ z_ fm h0 n0 O0 P5 (own_nn (by omega)) (own_nlt (by omega)) (by first | assumption | omega | decide | simp_all : fm.isRef = true)) hZ (hw _ (mg 110 rfl)) (hw _ (mg 11 rfl)) (by decide) (by decide)) (g := (mkF m 8 #[.val (.ref sa), qI 0, qI n_, qI z_, qU] [(.int z_), (.int n_), (.int 0)])) rfl (by rw [hml]; rfl) (argsL := [(.int 0), (.int n_), (.int z_)]) (rest := []) (lenOf pd_18 rfl) rfl (by show 2 * 0 + _ ≤ _; exact Nat.le_of_eq rfl) (hb hby d23_8) (fun _ _ => ⟨rfl, e1, (by decide : 0 + 0 ≤ _), (by decide : 0 + 0 ≤ _)⟩)
  dsimp only [Pt.U, Pt.locs, Pt.cells, Pt.slots] at X2 l2 y2 z2 st2 hQ2
  subst y2 z2
  obtain ⟨rfl, N2q, e2⟩ := hQ2
  have N2 : Fr n0 L2 := by rw [l2]; exact Fr.app N1 N2q
  have X2 := own_mr X2 0 0 (by decide) (by decide)
  refine Go.by st2 ?_
  show Go p e below _ (T2.setTop (mkF m 11 #[.val (.ref sa), qI 0, qI n_, qI z_, qU] []))
  refine Go.by (fun t k => XS.iloadN X2.here hx rfl (hb hby d23_11) rfl (XS.ifNo X2.here hx rfl (hb hby d23_12) rfl ((if0 _ _).trans (teq rfl).2) (XS.iloadN X2.here hx rfl (hb hby d23_15) rfl (XS.iloadN X2.here hx rfl (hb hby d23_16) rfl (XS.icmpYes X2.here hx rfl (pc0 := 17) (pc' := 22) rfl (hb hby d23_17) rfl (feq (own_neI (by omega))).2 (by decide) (by decide) (XS.iloadN X2.here hx rfl (hb hby d23_22) rfl (XS.iloadN X2.here hx rfl (hb hby d23_23) rfl (XS.isub X2.here hx rfl (hb hby d23_24) rfl k)))))))) ?_
  show Go p e below _ (T2.setTop (mkF m 25 #[.val (.ref sa), qI 0, qI n_, qI z_, qU] [(.int (n_ - (0 : Int32)))]))
  rw [show T2.setTop (mkF m 25 #[.val (.ref sa), qI 0, qI n_, qI z_, qU] [(.int (n_ - (0 : Int32)))]) = T2.setTop (mkF m 25 #[.val (.ref sa), qI 0, qI n_, qI z_, qU] [(.int n_)]) from by rw [own_sub0]]
  show Go p e below _ (T2.setTop (mkF m 25 #[.val (.ref sa), qI 0, qI n_, qI z_, qU] [(.int n_)]))
  refine Go.by (fun t k => XS.istore X2.here hx rfl (hb hby d23_25) rfl (l' := #[.val (.ref sa), qI 0, qI n_, qI z_, qI n_]) rfl (XS.aloadN X2.here hx rfl (hb hby d23_27) rfl rfl k)) ?_
  show Go p e below _ (T2.setTop (mkF m 28 #[.val (.ref sa), qI 0, qI n_, qI z_, qI n_] [(.ref sa)]))
  obtain ⟨cq3, kq3, q3a, q3b, q3c⟩ := isOf hZ e2 P1
  obtain ⟨_, _, ⟨T3, L3, k3, n3⟩, -, X3, ⟨Lc3, hQ3, l3, y3, z3⟩, st3⟩ := X2.virtualBack hx (y := (⟨"java/lang/String", "isLatin1", "()Z"⟩ : MethodName)) (z := (⟨"java/lang/String", "isLatin1", "()Z"⟩ : MethodName)) hown (mvT hZ (hw _ (mg 23 rfl))) (mvT hZ (hw _ (mg 24 rfl))) (notFace_of_selects (args := #[]) (mvT hZ (hw _ (mg 26 rfl)))) (mvT hZ (hw _ (mg 26 rfl))) (mvT hZ (hw _ (mg 25 rfl))) (by decide) (backOf (W := 0) (isLat l Z a0 hw [] sa cs h0 n0 O0 P0 P2 (by first | assumption | omega | decide | simp_all : cs ≠ (0 : Int32))) hZ (hw _ (mg 27 rfl)) (hw _ (mg 11 rfl)) (by decide) (by decide)) q3a q3c (g := (mkF m 28 #[.val (.ref sa), qI 0, qI n_, qI z_, qI n_] [(.ref sa)])) rfl (by rw [hml]; rfl) (Steps.refl _) (argsL := []) (rest := []) (lenOf pd_2 rfl) rfl (by show 2 * 0 + _ ≤ _; exact Nat.le_of_eq rfl) (hb hby d23_28) (fun _ _ => ⟨rfl, e2, (by decide : 0 + 0 ≤ _), (by decide : 0 + 0 ≤ _)⟩)
  dsimp only [Pt.U, Pt.locs, Pt.cells, Pt.slots] at X3 l3 y3 z3 st3 hQ3
  subst y3 z3
  obtain ⟨rfl, N3q, e3⟩ := hQ3
  have N3 : Fr n0 L3 := by rw [l3]; exact Fr.app N2 N3q
  have X3 := own_mr X3 0 0 (by decide) (by decide)
  refine Go.tr st3 ?_
  show Go p e below _ (T3.setTop (mkF m 31 #[.val (.ref sa), qI 0, qI n_, qI z_, qI n_] [(.int 1)]))
  refine Go.by (fun t k => XS.ifNo X3.here hx rfl (hb hby d23_31) rfl ((if0 _ _).trans (feq (by decide : ¬ ((1 : Int32) = (0 : Int32)))).1) (XS.aloadN X3.here hx rfl (hb hby d23_34) rfl rfl k)) ?_
  show Go p e below _ (T3.setTop (mkF m 35 #[.val (.ref sa), qI 0, qI n_, qI z_, qI n_] [(.ref sa)]))
  obtain ⟨T4, X4, e4, st4⟩ := getF X3 hx hZ hown (host := "") (Or.inl (hw _ (mg 30 rfl))) Via.refl e3 P3 (g := (mkF m 35 #[.val (.ref sa), qI 0, qI n_, qI z_, qI n_] [(.ref sa)])) rfl rfl (hb hby d23_35)
  refine Go.by st4 ?_
  show Go p e below _ (T4.setTop (mkF m 38 #[.val (.ref sa), qI 0, qI n_, qI z_, qI n_] [(.ref xa)]))
  refine Go.by (fun t k => XS.iloadN X4.here hx rfl (hb hby d23_38) rfl (XS.iload X4.here hx rfl (hb hby d23_39) rfl k)) ?_
  show Go p e below _ (T4.setTop (mkF m 41 #[.val (.ref sa), qI 0, qI n_, qI z_, qI n_] [(.int n_), (.int 0), (.ref xa)]))
  obtain ⟨_, _, ⟨T5, L5, k5, n5⟩, -, X5, ⟨Lc5, hQ5, l5, y5, z5⟩, st5⟩ := Jvm.LawKit.callS X4 hx (y := (⟨"java/lang/StringLatin1", "newString", "([BII)Ljava/lang/String;"⟩ : MethodName)) hown (mvT hZ (hw _ (mg 114 rfl))) (mvT hZ (hw _ (mg 115 rfl))) (mvT hZ (hw _ (mg 33 rfl))) (mvT hZ (hw _ (mg 116 rfl))) (by decide) (backOf (W := 0) (newS_p l Z a0 hw [] xa n_ ka z_ vs h0 n0 O0 P4 hn) hZ (hw _ (mg 116 rfl)) (hw _ (mg 33 rfl)) (by decide) (by decide)) (g := (mkF m 41 #[.val (.ref sa), qI 0, qI n_, qI z_, qI n_] [(.int n_), (.int 0), (.ref xa)])) rfl (by rw [hml]; rfl) (argsL := [(.ref xa), (.int 0), (.int n_)]) (rest := []) (lenOf pd_19 rfl) rfl (by show 2 * 0 + _ ≤ _; exact Nat.le_of_eq rfl) (hb hby d23_41) (fun _ _ => ⟨rfl, e4, (by decide : 0 + 2 ≤ _), (by decide : 0 + 22 ≤ _)⟩)
  dsimp only [Pt.U, Pt.locs, Pt.cells, Pt.slots] at X5 l5 y5 z5 st5 hQ5
  subst y5 z5
  obtain ⟨sb_5, xb_5, kb_5, rfl, N5q, K5, fz5_sb, fz5_xb, F5_0, F5_1, F5_2, F5_3⟩ := hQ5
  have N5 : Fr n0 L5 := by rw [l5]; exact Fr.app N3 N5q
  have X5 := own_mr X5 2 22 (by decide) (by decide)
  have ge_sb_5 : n0 ≤ sb_5 := Nat.le_trans (own_old_size O0) fz5_sb
  have sz_sb_5 : h0.size ≤ sb_5 := Nat.le_trans (Keep.refl h0 []).1 fz5_sb
  have ne6 : sa ≠ sb_5 := Nat.ne_of_lt (Nat.lt_of_lt_of_le P1.lt fz5_sb)
  have ne7 : xa ≠ sb_5 := Nat.ne_of_lt (Nat.lt_of_lt_of_le P4.lt fz5_sb)
  have ge_xb_5 : n0 ≤ xb_5 := Nat.le_trans (own_old_size O0) fz5_xb
  have sz_xb_5 : h0.size ≤ xb_5 := Nat.le_trans (Keep.refl h0 []).1 fz5_xb
  have ne8 : sa ≠ xb_5 := Nat.ne_of_lt (Nat.lt_of_lt_of_le P1.lt fz5_xb)
  have ne9 : xa ≠ xb_5 := Nat.ne_of_lt (Nat.lt_of_lt_of_le P4.lt fz5_xb)
  refine Go.by st5 ?_
  show Go p e below _ (T5.setTop (mkF m 44 #[.val (.ref sa), qI 0, qI n_, qI z_, qI n_] [(.ref sb_5)]))
  refine Go.by (fun t k => XS.goto X5.here hx rfl (pc0 := 44) (pc' := 57) rfl (hb hby d23_44) (by decide) (by decide) k) ?_
  show Go p e below _ (T5.setTop (mkF m 57 #[.val (.ref sa), qI 0, qI n_, qI z_, qI n_] [(.ref sb_5)]))
  have F10 : Keep h0 T5.heap [] := ((Keep.refl h0 []).trans K5 all0)
  have hq : Q_sub_p Z sa n_ xa ka z_ vs cs fm h0 n0 (some (.ref sb_5)) T5.heap _ := ⟨sb_5, xb_5, kb_5, rfl, N5, F10, sz_sb_5, sz_xb_5, F5_0, F5_1, F5_2, F5_3⟩
  exact Go.retA X5 hx Bd.returns rfl rfl hlk (hb hby d23_57) (by decide) (by decide) hq
theorem pn_6 : plainName "com/example/bare_lock/barelock/zookeeper/LockPaths" = true := by first | (simp [plainName, overriddenIn]; done) | decide +kernel
theorem d15_0 : decode prog_11_method_4_code 0 = .ok (.aload_n 0, 1) := by decide +kernel
theorem d15_1 : decode prog_11_method_4_code 1 = .ok (.iconst 0, 1) := by decide +kernel
theorem d15_2 : decode prog_11_method_4_code 2 = .ok (.aload_n 0, 1) := by decide +kernel
theorem d15_3 : decode prog_11_method_4_code 3 = .ok (.bipush 47, 2) := by decide +kernel
theorem d15_5 : decode prog_11_method_4_code 5 = .ok (.invokevirtual 28, 3) := by decide +kernel
theorem pd_20 : parseMethodDescriptor "(I)I" = some ⟨[.int], some .int⟩ := by decide +kernel
theorem d15_8 : decode prog_11_method_4_code 8 = .ok (.invokevirtual 34, 3) := by decide +kernel
theorem pd_21 : parseMethodDescriptor "(II)Ljava/lang/String;" = some ⟨[.int, .int], some (.object "java/lang/String")⟩ := by decide +kernel
theorem d15_11 : decode prog_11_method_4_code 11 = .ok (.astore_n 1, 1) := by decide +kernel
theorem d15_12 : decode prog_11_method_4_code 12 = .ok (.aload_n 1, 1) := by decide +kernel
theorem d15_13 : decode prog_11_method_4_code 13 = .ok (.iconst 0, 1) := by decide +kernel
theorem d15_14 : decode prog_11_method_4_code 14 = .ok (.aload_n 1, 1) := by decide +kernel
theorem d15_15 : decode prog_11_method_4_code 15 = .ok (.bipush 47, 2) := by decide +kernel
theorem d15_17 : decode prog_11_method_4_code 17 = .ok (.invokevirtual 28, 3) := by decide +kernel
theorem d15_20 : decode prog_11_method_4_code 20 = .ok (.ldc 38, 2) := by decide +kernel
theorem d15_22 : decode prog_11_method_4_code 22 = .ok (.invokevirtual 40, 3) := by decide +kernel
theorem d15_25 : decode prog_11_method_4_code 25 = .ok (.isub, 1) := by decide +kernel
theorem d15_26 : decode prog_11_method_4_code 26 = .ok (.invokevirtual 34, 3) := by decide +kernel
theorem d15_29 : decode prog_11_method_4_code 29 = .ok (.areturn, 1) := by decide +kernel
theorem ef_chroot_0 (m : MethodId) (sa : Addr) : entryFrame m #[(.ref sa)] 2 = mkF m 0 #[.val (.ref sa), .unset] [] := by first | (simp [entryFrame, mkF, argsToLocals, Value.category]; done) | rfl
def Q_chroot_0 (Z : State) (sa : Addr) (xa : Addr) (ka : ClassId) (vs : List Value) (r1 : Int32) (r2 : Int32) (cs : Int32) (fm : Value) (h0 : Heap) (n0 : Nat) (v : Option Value) (h : Heap) (L : List Loc) : Prop := ∃ sb : Addr, ∃ xb : Addr, ∃ kb : ClassId, v = some (.ref sb) ∧ Fr n0 L ∧ Keep h0 h [] ∧ Exa Z h sb "java/lang/String" ∧ Fld Z h sb "java/lang/String" "coder" "B" (.int 0) ∧ Fld Z h sb "java/lang/String" "value" "[B" (.ref xb) ∧ Arv Z h xb kb .byte (0 : Int32) [] (.int 0)
set_option maxRecDepth 65536 in
set_option maxHeartbeats 40000000 in
theorem chroot_0 (l : Launch) (Z : State) (a0 : Array Value) (hw : ∀ d ∈ tables_1, d.before a0 Z = true) (ws : List Jvm.Cond) (sa : Addr) (xa : Addr) (ka : ClassId) (vs : List Value) (r1 : Int32) (r2 : Int32) (cs : Int32) (fm : Value) (h0 : Heap) (n0 : Nat) (O0 : Old Z n0 h0) (P0 : Sta Z Z.heap "java/lang/String" "COMPACT_STRINGS" "Z" (.int cs)) (P1 : Exa Z h0 sa "java/lang/String") (P2 : Fld Z h0 sa "java/lang/String" "coder" "B" (.int 0)) (P3 : Fld Z h0 sa "java/lang/String" "value" "[B" (.ref xa)) (P4 : Arv Z h0 xa ka .byte (18 : Int32) vs (.int 0)) (P5 : Sta Z Z.heap "jdk/internal/util/Preconditions" "SIOOBE_FORMATTER" "Ljava/util/function/BiFunction;" fm) (hcs : cs ≠ (0 : Int32)) (hfm : fm.isRef = true) (hla1 : own_last vs (18 : Int32) r1) (hla2 : own_last (own_tk vs r1) r1 r2) (her2 : (r2 - (10 : Int32)) = (0 : Int32)) :
    MetFree l (⟨"com/example/bare_lock/barelock/zookeeper/LockPaths", "chroot", "(Ljava/lang/String;)Ljava/lang/String;"⟩ : MethodName) (head1 (Jvm.Cond.code (⟨"com/example/bare_lock/barelock/zookeeper/LockPaths", "chroot", "(Ljava/lang/String;)Ljava/lang/String;"⟩ : MethodName) prog_11_method_4_code 2 (some (.object "java/lang/String")) :: ws) ({ frames := 5, cells := 6, slots := 70, locals := 80 } : Room)) (fun a U => a = #[(.ref sa)] ∧ Z.Warmed39 U.vm ∧ U.heap = h0 ∧ CHv Z own_EL U.vm h0) (fun _ _ _ _ _ => True) (fun _ U o U' => ∃ v L, o = .returned v ∧ Q_chroot_0 Z sa xa ka vs r1 r2 cs fm h0 n0 v U'.heap L ∧ CHr Z own_EL U.vm U.heap U'.vm U'.heap ∧ ReturnedEndW U o U' L ({ frames := 5, cells := 6, slots := 70, locals := 80 } : Room).cells ({ frames := 5, cells := 6, slots := 70, locals := 80 } : Room).slots) := by
  refine MetFree.of_bodySF (plainFor_of_name pn_6) hisR ?_
  intro p e s m args below meth c s₁ Bd hml0 hP hK
  obtain ⟨rfl, hZ, hh, hCH⟩ := hP
  have hx := Bd.exec
  have hby := Bd.bytes
  have hml : c.maxLocals = 2 := hml0
  have hown : s.vm.findClass "com/example/bare_lock/barelock/zookeeper/LockPaths" = some m.cls := findClass_of_methodNamed Bd.named
  have hnm := (name_of_methodNamed Bd.named Bd.method).1
  have hlk := BodyLoose.notSynchronized Bd
  have X0 : Stand p l e ({ frames := 5, cells := 6, slots := 70, locals := 80 } : Room) (s.setVm s.vm) m #[(.ref sa)] below meth c s₁ [] 0 0 := Stand.of_body Bd
  have e0 : s₁.heap = h0 := by rw [← hh, Bd.state]; rfl
  have N0 := Fr.nil n0
  have hS : s.Since s.vm h0.size := (State.WarmedH.refl s).since _
  have hk0 : h0.size ≤ h0.size := Nat.le_refl _
  have wS : ∀ a ∈ Bundle.stringAtoms, a.before a0 Z = true := fun a q => hw a (own_sA a q)
  have hEL : EW Z a0 own_EL := own_EW hw
  have hR0 : CHr Z own_EL s.vm h0 s.vm h0 := CHr.refl hCH
  refine Go.start (P := fun o U' => ∃ v L, o = .returned v ∧ Q_chroot_0 Z sa xa ka vs r1 r2 cs fm h0 n0 v U'.heap L ∧ CHr Z own_EL s.vm s.heap U'.vm U'.heap ∧ ReturnedEndW s o U' L ({ frames := 5, cells := 6, slots := 70, locals := 80 } : Room).cells ({ frames := 5, cells := 6, slots := 70, locals := 80 } : Room).slots) (ef_chroot_0 m sa) ?_
  show Go p e below _ (s₁.setTop (mkF m 0 #[.val (.ref sa), qU] []))
  refine Go.by (fun t k => XS.aloadN X0.here hx rfl (hb hby d15_0) rfl rfl (XS.iconst X0.here hx rfl (hb hby d15_1) (XS.aloadN X0.here hx rfl (hb hby d15_2) rfl rfl (XS.bipush X0.here hx rfl (hb hby d15_3) k)))) ?_
  show Go p e below _ (s₁.setTop (mkF m 5 #[.val (.ref sa), qU] [(.int 47), (.ref sa), (.int 0), (.ref sa)]))
  obtain ⟨cq1, kq1, q1a, q1b, q1c⟩ := isOf hZ e0 P1
  obtain ⟨_, _, ⟨T1, L1, k1, n1⟩, -, X1, ⟨Lc1, hQ1, l1, y1, z1⟩, st1⟩ := X0.virtualBack hx (y := (⟨"java/lang/String", "lastIndexOf", "(I)I"⟩ : MethodName)) (z := (⟨"java/lang/String", "lastIndexOf", "(I)I"⟩ : MethodName)) hown (mvT hZ (hw _ (mg 73 rfl))) (mvT hZ (hw _ (mg 74 rfl))) (notFace_of_selects (args := #[]) (mvT hZ (hw _ (mg 76 rfl)))) (mvT hZ (hw _ (mg 76 rfl))) (mvT hZ (hw _ (mg 75 rfl))) (by decide) (backOf (W := 2) (strLast l Z a0 hw [] sa xa ka (18 : Int32) vs r1 cs h0 n0 O0 P0 P1 P2 P3 P4 (by first | assumption | omega | decide | simp_all : cs ≠ (0 : Int32)) hla1) hZ (hw _ (mg 77 rfl)) (hw _ (mg 11 rfl)) (by decide) (by decide)) q1a q1c (g := (mkF m 5 #[.val (.ref sa), qU] [(.int 47), (.ref sa), (.int 0), (.ref sa)])) rfl (by rw [hml]; rfl) (Steps.refl _) (argsL := [(.int 47)]) (rest := [(.int 0), (.ref sa)]) (lenOf pd_20 rfl) rfl (by show 2 * 0 + _ ≤ _; exact Nat.le_of_eq rfl) (hb hby d15_5) (fun _ _ => ⟨rfl, e0, (by decide : 0 + 0 ≤ _), (by decide : 0 + 0 ≤ _)⟩)
  dsimp only [Pt.U, Pt.locs, Pt.cells, Pt.slots] at X1 l1 y1 z1 st1 hQ1
  subst y1 z1
  obtain ⟨rfl, N1q, e1⟩ := hQ1
  have N1 : Fr n0 L1 := by rw [l1]; exact Fr.app N0 N1q
  have X1 := own_mr X1 0 0 (by decide) (by decide)
  refine Go.tr st1 ?_
  show Go p e below _ (T1.setTop (mkF m 8 #[.val (.ref sa), qU] [(.int r1), (.int 0), (.ref sa)]))
  obtain ⟨cq2, kq2, q2a, q2b, q2c⟩ := isOf hZ e1 P1
  obtain ⟨_, _, ⟨T2, L2, k2, n2⟩, -, X2, ⟨Lc2, hQ2, l2, y2, z2⟩, st2⟩ := X1.virtualBack hx (y := (⟨"java/lang/String", "substring", "(II)Ljava/lang/String;"⟩ : MethodName)) (z := (⟨"java/lang/String", "substring", "(II)Ljava/lang/String;"⟩ : MethodName)) hown (mvT hZ (hw _ (mg 103 rfl))) (mvT hZ (hw _ (mg 104 rfl))) (notFace_of_selects (args := #[]) (mvT hZ (hw _ (mg 106 rfl)))) (mvT hZ (hw _ (mg 106 rfl))) (mvT hZ (hw _ (mg 105 rfl))) (by decide) (backOf (W := 0) (sub_p l Z a0 hw [] sa r1 xa ka (18 : Int32) vs cs fm h0 n0 O0 P0 P1 P2 P3 P4 P5 (by first | assumption | omega | decide | simp_all : cs ≠ (0 : Int32)) (by first | assumption | omega | decide | simp_all : fm.isRef = true) (by have := hla1.1; have := hla2.1; have e : (18 : Int32).toInt = 18 := rfl; omega)) hZ (hw _ (mg 107 rfl)) (hw _ (mg 11 rfl)) (by decide) (by decide)) q2a q2c (g := (mkF m 8 #[.val (.ref sa), qU] [(.int r1), (.int 0), (.ref sa)])) rfl (by rw [hml]; rfl) (Steps.refl _) (argsL := [(.int 0), (.int r1)]) (rest := []) (lenOf pd_21 rfl) rfl (by show 2 * 0 + _ ≤ _; exact Nat.le_of_eq rfl) (hb hby d15_8) (fun _ _ => ⟨rfl, e1, (by decide : 0 + 2 ≤ _), (by decide : 0 + 22 ≤ _)⟩)
  dsimp only [Pt.U, Pt.locs, Pt.cells, Pt.slots] at X2 l2 y2 z2 st2 hQ2
  subst y2 z2
  obtain ⟨sb_2, xb_2, kb_2, rfl, N2q, K2, fz2_sb, fz2_xb, F2_0, F2_1, F2_2, F2_3⟩ := hQ2
  have N2 : Fr n0 L2 := by rw [l2]; exact Fr.app N1 N2q
  have X2 := own_mr X2 2 22 (by decide) (by decide)
  have ge_sb_2 : n0 ≤ sb_2 := Nat.le_trans (own_old_size O0) fz2_sb
  have sz_sb_2 : h0.size ≤ sb_2 := Nat.le_trans (Keep.refl h0 []).1 fz2_sb
  have ne3 : sa ≠ sb_2 := Nat.ne_of_lt (Nat.lt_of_lt_of_le P1.lt fz2_sb)
  have ne4 : xa ≠ sb_2 := Nat.ne_of_lt (Nat.lt_of_lt_of_le P4.lt fz2_sb)
  have ge_xb_2 : n0 ≤ xb_2 := Nat.le_trans (own_old_size O0) fz2_xb
  have sz_xb_2 : h0.size ≤ xb_2 := Nat.le_trans (Keep.refl h0 []).1 fz2_xb
  have ne5 : sa ≠ xb_2 := Nat.ne_of_lt (Nat.lt_of_lt_of_le P1.lt fz2_xb)
  have ne6 : xa ≠ xb_2 := Nat.ne_of_lt (Nat.lt_of_lt_of_le P4.lt fz2_xb)
  refine Go.tr st2 ?_
  show Go p e below _ (T2.setTop (mkF m 11 #[.val (.ref sa), qU] [(.ref sb_2)]))
  refine Go.by (fun t k => XS.astoreN X2.here hx rfl (hb hby d15_11) rfl rfl (l' := #[.val (.ref sa), .val (.ref sb_2)]) rfl (XS.aloadN X2.here hx rfl (hb hby d15_12) rfl rfl (XS.iconst X2.here hx rfl (hb hby d15_13) (XS.aloadN X2.here hx rfl (hb hby d15_14) rfl rfl (XS.bipush X2.here hx rfl (hb hby d15_15) k))))) ?_
  show Go p e below _ (T2.setTop (mkF m 17 #[.val (.ref sa), .val (.ref sb_2)] [(.int 47), (.ref sb_2), (.int 0), (.ref sb_2)]))
  have F8 : Old Z n0 T2.heap := (O0.keep K2 all0)
  have F9 : Keep h0 T2.heap [] := ((Keep.refl h0 []).trans K2 all0)
  obtain ⟨cq7, kq7, q7a, q7b, q7c⟩ := isOf hZ rfl F2_0
  obtain ⟨_, _, ⟨T7, L7, k7, n7⟩, -, X7, ⟨Lc7, hQ7, l7, y7, z7⟩, st7⟩ := X2.virtualBack hx (y := (⟨"java/lang/String", "lastIndexOf", "(I)I"⟩ : MethodName)) (z := (⟨"java/lang/String", "lastIndexOf", "(I)I"⟩ : MethodName)) hown (mvT hZ (hw _ (mg 73 rfl))) (mvT hZ (hw _ (mg 74 rfl))) (notFace_of_selects (args := #[]) (mvT hZ (hw _ (mg 76 rfl)))) (mvT hZ (hw _ (mg 76 rfl))) (mvT hZ (hw _ (mg 75 rfl))) (by decide) (backOf (W := 2) (strLast l Z a0 hw [] sb_2 xb_2 kb_2 r1 (own_tk vs r1) r2 cs T2.heap n0 F8 P0 F2_0 F2_1 F2_2 F2_3 (by first | assumption | omega | decide | simp_all : cs ≠ (0 : Int32)) hla2) hZ (hw _ (mg 77 rfl)) (hw _ (mg 11 rfl)) (by decide) (by decide)) q7a q7c (g := (mkF m 17 #[.val (.ref sa), .val (.ref sb_2)] [(.int 47), (.ref sb_2), (.int 0), (.ref sb_2)])) rfl (by rw [hml]; rfl) (Steps.refl _) (argsL := [(.int 47)]) (rest := [(.int 0), (.ref sb_2)]) (lenOf pd_20 rfl) rfl (by show 2 * 0 + _ ≤ _; exact Nat.le_of_eq rfl) (hb hby d15_17) (fun _ _ => ⟨rfl, rfl, (by decide : 2 + 0 ≤ _), (by decide : 22 + 0 ≤ _)⟩)
  dsimp only [Pt.U, Pt.locs, Pt.cells, Pt.slots] at X7 l7 y7 z7 st7 hQ7
  subst y7 z7
  obtain ⟨rfl, N7q, e7⟩ := hQ7
  have N7 : Fr n0 L7 := by rw [l7]; exact Fr.app N2 N7q
  have X7 := own_mr X7 2 22 (by decide) (by decide)
  refine Go.tr st7 ?_
  show Go p e below _ (T7.setTop (mkF m 20 #[.val (.ref sa), .val (.ref sb_2)] [(.int r2), (.int 0), (.ref sb_2)]))
  have F10 : h0.size ≤ T2.heap.size := (Nat.le_trans hk0 K2.1)
  have F11 : CHr Z own_EL s.vm h0 s.vm T2.heap := (own_chK hR0 K2 sf0)
  obtain ⟨a12, T12, h12, k12, d12, kd12, X12, e12, E12, hS, hk12, hZ, hown, F12_e, F12_c, F12_v, F12_a, -, -, C12, -, ns12, st12⟩ := ldcCH X7 hx hZ hown (hw _ (mg 136 rfl)) wS e7 hS F10 hEL (List.mem_of_getElem? (i := 0) rfl) F11.1 (vs := [(.int 47), (.int 98), (.int 97), (.int 114), (.int 101), (.int 45), (.int 108), (.int 111), (.int 99), (.int 107)]) (z := (10 : Int32)) ⟨by decide, rfl⟩ (by decide) rfl (g := (mkF m 20 #[.val (.ref sa), .val (.ref sb_2)] [(.int r2), (.int 0), (.ref sb_2)])) rfl (hb hby d15_20) (n := 40) (by decide) (by decide) (by decide) (by decide)
  have A12 := F11.trans C12
  refine Go.by st12 ?_
  show Go p e below _ (T12.setTop (mkF m 22 #[.val (.ref sa), .val (.ref sb_2)] [(.ref a12), (.int r2), (.int 0), (.ref sb_2)]))
  have F14 : Old Z n0 h12 := (F8.ext E12)
  have F15 : Keep h0 h12 [] := (F9.ext E12)
  obtain ⟨cq13, kq13, q13a, q13b, q13c⟩ := isOf hZ e12 F12_e
  obtain ⟨_, _, ⟨T13, L13, k13, n13⟩, -, X13, ⟨Lc13, hQ13, l13, y13, z13⟩, st13⟩ := X12.virtualBack hx (y := (⟨"java/lang/String", "length", "()I"⟩ : MethodName)) (z := (⟨"java/lang/String", "length", "()I"⟩ : MethodName)) hown (mvT hZ (hw _ (mg 137 rfl))) (mvT hZ (hw _ (mg 79 rfl))) (notFace_of_selects (args := #[]) (mvT hZ (hw _ (mg 81 rfl)))) (mvT hZ (hw _ (mg 81 rfl))) (mvT hZ (hw _ (mg 80 rfl))) (by decide) (backOf (W := 3) (length l Z a0 hw [] a12 d12 kd12 (10 : Int32) ([(.int 47), (.int 98), (.int 97), (.int 114), (.int 101), (.int 45), (.int 108), (.int 111), (.int 99), (.int 107)]) cs h12 n0 F14 P0 F12_e F12_c F12_v F12_a (by first | assumption | omega | decide | simp_all : cs ≠ (0 : Int32))) hZ (hw _ (mg 82 rfl)) (hw _ (mg 11 rfl)) (by decide) (by decide)) q13a q13c (g := (mkF m 22 #[.val (.ref sa), .val (.ref sb_2)] [(.ref a12), (.int r2), (.int 0), (.ref sb_2)])) rfl (by rw [hml]; rfl) (Steps.refl _) (argsL := []) (rest := [(.int r2), (.int 0), (.ref sb_2)]) (lenOf pd_14 rfl) rfl (by show 2 * 0 + _ ≤ _; exact Nat.le_of_eq rfl) (hb hby d15_22) (fun _ _ => ⟨rfl, e12, (by decide : 4 + 0 ≤ _), (by decide : 66 + 0 ≤ _)⟩)
  dsimp only [Pt.U, Pt.locs, Pt.cells, Pt.slots] at X13 l13 y13 z13 st13 hQ13
  subst y13 z13
  obtain ⟨rfl, N13q, e13⟩ := hQ13
  have N13 : Fr n0 L13 := by rw [l13]; exact Fr.app N7 N13q
  have X13 := own_mr X13 4 66 (by decide) (by decide)
  refine Go.tr st13 ?_
  show Go p e below _ (T13.setTop (mkF m 25 #[.val (.ref sa), .val (.ref sb_2)] [(.int 10), (.int r2), (.int 0), (.ref sb_2)]))
  refine Go.by (fun t k => XS.isub X13.here hx rfl (hb hby d15_25) rfl k) ?_
  show Go p e below _ (T13.setTop (mkF m 26 #[.val (.ref sa), .val (.ref sb_2)] [(.int (r2 - (10 : Int32))), (.int 0), (.ref sb_2)]))
  rw [show T13.setTop (mkF m 26 #[.val (.ref sa), .val (.ref sb_2)] [(.int (r2 - (10 : Int32))), (.int 0), (.ref sb_2)]) = T13.setTop (mkF m 26 #[.val (.ref sa), .val (.ref sb_2)] [(.int 0), (.int 0), (.ref sb_2)]) from by rw [her2]]
  show Go p e below _ (T13.setTop (mkF m 26 #[.val (.ref sa), .val (.ref sb_2)] [(.int 0), (.int 0), (.ref sb_2)]))
  have F17 : Exa Z h12 sb_2 "java/lang/String" := (F2_0.ext E12)
  have F18 : Fld Z h12 sb_2 "java/lang/String" "coder" "B" (.int 0) := (F2_1.ext E12)
  have F19 : Fld Z h12 sb_2 "java/lang/String" "value" "[B" (.ref xb_2) := (F2_2.ext E12)
  have F20 : Arv Z h12 xb_2 kb_2 .byte r1 (own_tk vs r1) (.int 0) := (F2_3.ext E12)
  obtain ⟨cq16, kq16, q16a, q16b, q16c⟩ := isOf hZ e13 F17
  obtain ⟨_, _, ⟨T16, L16, k16, n16⟩, -, X16, sn16, gr16, ⟨Lc16, hQ16, l16, y16, z16, C16⟩, st16⟩ := X13.virtualBackS hx (y := (⟨"java/lang/String", "substring", "(II)Ljava/lang/String;"⟩ : MethodName)) (z := (⟨"java/lang/String", "substring", "(II)Ljava/lang/String;"⟩ : MethodName)) hown (mvT hZ (hw _ (mg 103 rfl))) (mvT hZ (hw _ (mg 104 rfl))) (notFace_of_selects (args := #[]) (mvT hZ (hw _ (mg 106 rfl)))) (mvT hZ (hw _ (mg 106 rfl))) (mvT hZ (hw _ (mg 105 rfl))) (by decide) (backOfSH (W := 0) (sub_0 l Z a0 hw [] sb_2 xb_2 kb_2 r1 (own_tk vs r1) cs fm h12 n0 F14 P0 F17 F18 F19 F20 P5 (by first | assumption | omega | decide | simp_all : cs ≠ (0 : Int32)) (by first | assumption | omega | decide | simp_all : fm.isRef = true) (by have := hla2.1; omega)) hZ (hw _ (mg 107 rfl)) (hw _ (mg 11 rfl)) (by decide) (by decide) hEL A12.1) q16a q16c (g := (mkF m 26 #[.val (.ref sa), .val (.ref sb_2)] [(.int 0), (.int 0), (.ref sb_2)])) rfl (by rw [hml]; rfl) (Steps.refl _) (argsL := [(.int 0), (.int 0)]) (rest := []) (lenOf pd_21 rfl) rfl (by show 2 * 0 + _ ≤ _; exact Nat.le_of_eq rfl) (hb hby d15_26) (fun _ _ => ⟨rfl, e13, (by decide : 4 + 2 ≤ _), (by decide : 66 + 4 ≤ _)⟩)
  dsimp only [Pt.U, Pt.locs, Pt.cells, Pt.slots] at X16 l16 y16 z16 st16 hQ16 sn16 gr16 C16
  subst y16 z16
  obtain ⟨X16, hS, hZ, hown⟩ := rebS hS (n1 := T13.heap.size) (by rw [e13]; exact hk12) X16 sn16 gr16 hZ hown
  have hk16 : T16.heap.size ≤ T16.heap.size := Nat.le_refl _
  have A16 := A12.trans C16
  obtain ⟨sb_16, xb_16, kb_16, rfl, N16q, K16, F16_0, F16_1, F16_2, F16_3⟩ := hQ16
  have N16 : Fr n0 L16 := by rw [l16]; exact Fr.app N13 N16q
  have X16 := own_mr X16 6 70 (by decide) (by decide)
  refine Go.tr st16 ?_
  show Go p e below _ (T16.setTop (mkF m 29 #[.val (.ref sa), .val (.ref sb_2)] [(.ref sb_16)]))
  have F21 : Keep h0 T16.heap [] := (F15.trans K16 all0)
  have hq : Q_chroot_0 Z sa xa ka vs r1 r2 cs fm h0 n0 (some (.ref sb_16)) T16.heap _ := ⟨sb_16, xb_16, kb_16, rfl, N16, F21, F16_0, F16_1, F16_2, F16_3⟩
  exact Go.retAH hS hk16 (own_chEnd X16 rfl hZ hEL A16 hh) X16 hx Bd.returns rfl rfl hlk (hb hby d15_29) (by decide) (by decide) hq
theorem ef_chroot_p (m : MethodId) (sa : Addr) : entryFrame m #[(.ref sa)] 2 = mkF m 0 #[.val (.ref sa), .unset] [] := by first | (simp [entryFrame, mkF, argsToLocals, Value.category]; done) | rfl
def Q_chroot_p (Z : State) (sa : Addr) (xa : Addr) (ka : ClassId) (vs : List Value) (r1 : Int32) (r2 : Int32) (n_ : Int32) (cs : Int32) (fm : Value) (h0 : Heap) (n0 : Nat) (v : Option Value) (h : Heap) (L : List Loc) : Prop := ∃ sb : Addr, ∃ xb : Addr, ∃ kb : ClassId, v = some (.ref sb) ∧ Fr n0 L ∧ Keep h0 h [] ∧ Exa Z h sb "java/lang/String" ∧ Fld Z h sb "java/lang/String" "coder" "B" (.int 0) ∧ Fld Z h sb "java/lang/String" "value" "[B" (.ref xb) ∧ Arv Z h xb kb .byte n_ (own_tk (own_tk vs r1) n_) (.int 0)
set_option maxRecDepth 65536 in
set_option maxHeartbeats 40000000 in
theorem chroot_p (l : Launch) (Z : State) (a0 : Array Value) (hw : ∀ d ∈ tables_1, d.before a0 Z = true) (ws : List Jvm.Cond) (sa : Addr) (xa : Addr) (ka : ClassId) (vs : List Value) (r1 : Int32) (r2 : Int32) (n_ : Int32) (cs : Int32) (fm : Value) (h0 : Heap) (n0 : Nat) (O0 : Old Z n0 h0) (P0 : Sta Z Z.heap "java/lang/String" "COMPACT_STRINGS" "Z" (.int cs)) (P1 : Exa Z h0 sa "java/lang/String") (P2 : Fld Z h0 sa "java/lang/String" "coder" "B" (.int 0)) (P3 : Fld Z h0 sa "java/lang/String" "value" "[B" (.ref xa)) (P4 : Arv Z h0 xa ka .byte (18 : Int32) vs (.int 0)) (P5 : Sta Z Z.heap "jdk/internal/util/Preconditions" "SIOOBE_FORMATTER" "Ljava/util/function/BiFunction;" fm) (hcs : cs ≠ (0 : Int32)) (hfm : fm.isRef = true) (hla1 : own_last vs (18 : Int32) r1) (hla2 : own_last (own_tk vs r1) r1 r2) (her2 : (r2 - (10 : Int32)) = n_) (hn : 0 < n_.toInt ∧ n_.toInt < r1.toInt) :
    MetFree l (⟨"com/example/bare_lock/barelock/zookeeper/LockPaths", "chroot", "(Ljava/lang/String;)Ljava/lang/String;"⟩ : MethodName) (head1 (Jvm.Cond.code (⟨"com/example/bare_lock/barelock/zookeeper/LockPaths", "chroot", "(Ljava/lang/String;)Ljava/lang/String;"⟩ : MethodName) prog_11_method_4_code 2 (some (.object "java/lang/String")) :: ws) ({ frames := 5, cells := 6, slots := 88, locals := 80 } : Room)) (fun a U => a = #[(.ref sa)] ∧ Z.Warmed39 U.vm ∧ U.heap = h0 ∧ CHv Z own_EL U.vm h0) (fun _ _ _ _ _ => True) (fun _ U o U' => ∃ v L, o = .returned v ∧ Q_chroot_p Z sa xa ka vs r1 r2 n_ cs fm h0 n0 v U'.heap L ∧ CHr Z own_EL U.vm U.heap U'.vm U'.heap ∧ ReturnedEndW U o U' L ({ frames := 5, cells := 6, slots := 88, locals := 80 } : Room).cells ({ frames := 5, cells := 6, slots := 88, locals := 80 } : Room).slots) := by
  refine MetFree.of_bodySF (plainFor_of_name pn_6) hisR ?_
  intro p e s m args below meth c s₁ Bd hml0 hP hK
  obtain ⟨rfl, hZ, hh, hCH⟩ := hP
  have hx := Bd.exec
  have hby := Bd.bytes
  have hml : c.maxLocals = 2 := hml0
  have hown : s.vm.findClass "com/example/bare_lock/barelock/zookeeper/LockPaths" = some m.cls := findClass_of_methodNamed Bd.named
  have hnm := (name_of_methodNamed Bd.named Bd.method).1
  have hlk := BodyLoose.notSynchronized Bd
  have X0 : Stand p l e ({ frames := 5, cells := 6, slots := 88, locals := 80 } : Room) (s.setVm s.vm) m #[(.ref sa)] below meth c s₁ [] 0 0 := Stand.of_body Bd
  have e0 : s₁.heap = h0 := by rw [← hh, Bd.state]; rfl
  have N0 := Fr.nil n0
  have hS : s.Since s.vm h0.size := (State.WarmedH.refl s).since _
  have hk0 : h0.size ≤ h0.size := Nat.le_refl _
  have wS : ∀ a ∈ Bundle.stringAtoms, a.before a0 Z = true := fun a q => hw a (own_sA a q)
  have hEL : EW Z a0 own_EL := own_EW hw
  have hR0 : CHr Z own_EL s.vm h0 s.vm h0 := CHr.refl hCH
  refine Go.start (P := fun o U' => ∃ v L, o = .returned v ∧ Q_chroot_p Z sa xa ka vs r1 r2 n_ cs fm h0 n0 v U'.heap L ∧ CHr Z own_EL s.vm s.heap U'.vm U'.heap ∧ ReturnedEndW s o U' L ({ frames := 5, cells := 6, slots := 88, locals := 80 } : Room).cells ({ frames := 5, cells := 6, slots := 88, locals := 80 } : Room).slots) (ef_chroot_p m sa) ?_
  show Go p e below _ (s₁.setTop (mkF m 0 #[.val (.ref sa), qU] []))
  refine Go.by (fun t k => XS.aloadN X0.here hx rfl (hb hby d15_0) rfl rfl (XS.iconst X0.here hx rfl (hb hby d15_1) (XS.aloadN X0.here hx rfl (hb hby d15_2) rfl rfl (XS.bipush X0.here hx rfl (hb hby d15_3) k)))) ?_
  show Go p e below _ (s₁.setTop (mkF m 5 #[.val (.ref sa), qU] [(.int 47), (.ref sa), (.int 0), (.ref sa)]))
  obtain ⟨cq1, kq1, q1a, q1b, q1c⟩ := isOf hZ e0 P1
  obtain ⟨_, _, ⟨T1, L1, k1, n1⟩, -, X1, ⟨Lc1, hQ1, l1, y1, z1⟩, st1⟩ := X0.virtualBack hx (y := (⟨"java/lang/String", "lastIndexOf", "(I)I"⟩ : MethodName)) (z := (⟨"java/lang/String", "lastIndexOf", "(I)I"⟩ : MethodName)) hown (mvT hZ (hw _ (mg 73 rfl))) (mvT hZ (hw _ (mg 74 rfl))) (notFace_of_selects (args := #[]) (mvT hZ (hw _ (mg 76 rfl)))) (mvT hZ (hw _ (mg 76 rfl))) (mvT hZ (hw _ (mg 75 rfl))) (by decide) (backOf (W := 2) (strLast l Z a0 hw [] sa xa ka (18 : Int32) vs r1 cs h0 n0 O0 P0 P1 P2 P3 P4 (by first | assumption | omega | decide | simp_all : cs ≠ (0 : Int32)) hla1) hZ (hw _ (mg 77 rfl)) (hw _ (mg 11 rfl)) (by decide) (by decide)) q1a q1c (g := (mkF m 5 #[.val (.ref sa), qU] [(.int 47), (.ref sa), (.int 0), (.ref sa)])) rfl (by rw [hml]; rfl) (Steps.refl _) (argsL := [(.int 47)]) (rest := [(.int 0), (.ref sa)]) (lenOf pd_20 rfl) rfl (by show 2 * 0 + _ ≤ _; exact Nat.le_of_eq rfl) (hb hby d15_5) (fun _ _ => ⟨rfl, e0, (by decide : 0 + 0 ≤ _), (by decide : 0 + 0 ≤ _)⟩)
  dsimp only [Pt.U, Pt.locs, Pt.cells, Pt.slots] at X1 l1 y1 z1 st1 hQ1
  subst y1 z1
  obtain ⟨rfl, N1q, e1⟩ := hQ1
  have N1 : Fr n0 L1 := by rw [l1]; exact Fr.app N0 N1q
  have X1 := own_mr X1 0 0 (by decide) (by decide)
  refine Go.tr st1 ?_
  show Go p e below _ (T1.setTop (mkF m 8 #[.val (.ref sa), qU] [(.int r1), (.int 0), (.ref sa)]))
  obtain ⟨cq2, kq2, q2a, q2b, q2c⟩ := isOf hZ e1 P1
  obtain ⟨_, _, ⟨T2, L2, k2, n2⟩, -, X2, ⟨Lc2, hQ2, l2, y2, z2⟩, st2⟩ := X1.virtualBack hx (y := (⟨"java/lang/String", "substring", "(II)Ljava/lang/String;"⟩ : MethodName)) (z := (⟨"java/lang/String", "substring", "(II)Ljava/lang/String;"⟩ : MethodName)) hown (mvT hZ (hw _ (mg 103 rfl))) (mvT hZ (hw _ (mg 104 rfl))) (notFace_of_selects (args := #[]) (mvT hZ (hw _ (mg 106 rfl)))) (mvT hZ (hw _ (mg 106 rfl))) (mvT hZ (hw _ (mg 105 rfl))) (by decide) (backOf (W := 0) (sub_p l Z a0 hw [] sa r1 xa ka (18 : Int32) vs cs fm h0 n0 O0 P0 P1 P2 P3 P4 P5 (by first | assumption | omega | decide | simp_all : cs ≠ (0 : Int32)) (by first | assumption | omega | decide | simp_all : fm.isRef = true) (by have := hla1.1; have := hla2.1; have e : (18 : Int32).toInt = 18 := rfl; omega)) hZ (hw _ (mg 107 rfl)) (hw _ (mg 11 rfl)) (by decide) (by decide)) q2a q2c (g := (mkF m 8 #[.val (.ref sa), qU] [(.int r1), (.int 0), (.ref sa)])) rfl (by rw [hml]; rfl) (Steps.refl _) (argsL := [(.int 0), (.int r1)]) (rest := []) (lenOf pd_21 rfl) rfl (by show 2 * 0 + _ ≤ _; exact Nat.le_of_eq rfl) (hb hby d15_8) (fun _ _ => ⟨rfl, e1, (by decide : 0 + 2 ≤ _), (by decide : 0 + 22 ≤ _)⟩)
  dsimp only [Pt.U, Pt.locs, Pt.cells, Pt.slots] at X2 l2 y2 z2 st2 hQ2
  subst y2 z2
  obtain ⟨sb_2, xb_2, kb_2, rfl, N2q, K2, fz2_sb, fz2_xb, F2_0, F2_1, F2_2, F2_3⟩ := hQ2
  have N2 : Fr n0 L2 := by rw [l2]; exact Fr.app N1 N2q
  have X2 := own_mr X2 2 22 (by decide) (by decide)
  have ge_sb_2 : n0 ≤ sb_2 := Nat.le_trans (own_old_size O0) fz2_sb
  have sz_sb_2 : h0.size ≤ sb_2 := Nat.le_trans (Keep.refl h0 []).1 fz2_sb
  have ne3 : sa ≠ sb_2 := Nat.ne_of_lt (Nat.lt_of_lt_of_le P1.lt fz2_sb)
  have ne4 : xa ≠ sb_2 := Nat.ne_of_lt (Nat.lt_of_lt_of_le P4.lt fz2_sb)
  have ge_xb_2 : n0 ≤ xb_2 := Nat.le_trans (own_old_size O0) fz2_xb
  have sz_xb_2 : h0.size ≤ xb_2 := Nat.le_trans (Keep.refl h0 []).1 fz2_xb
  have ne5 : sa ≠ xb_2 := Nat.ne_of_lt (Nat.lt_of_lt_of_le P1.lt fz2_xb)
  have ne6 : xa ≠ xb_2 := Nat.ne_of_lt (Nat.lt_of_lt_of_le P4.lt fz2_xb)
  refine Go.tr st2 ?_
  show Go p e below _ (T2.setTop (mkF m 11 #[.val (.ref sa), qU] [(.ref sb_2)]))
  refine Go.by (fun t k => XS.astoreN X2.here hx rfl (hb hby d15_11) rfl rfl (l' := #[.val (.ref sa), .val (.ref sb_2)]) rfl (XS.aloadN X2.here hx rfl (hb hby d15_12) rfl rfl (XS.iconst X2.here hx rfl (hb hby d15_13) (XS.aloadN X2.here hx rfl (hb hby d15_14) rfl rfl (XS.bipush X2.here hx rfl (hb hby d15_15) k))))) ?_
  show Go p e below _ (T2.setTop (mkF m 17 #[.val (.ref sa), .val (.ref sb_2)] [(.int 47), (.ref sb_2), (.int 0), (.ref sb_2)]))
  have F8 : Old Z n0 T2.heap := (O0.keep K2 all0)
  have F9 : Keep h0 T2.heap [] := ((Keep.refl h0 []).trans K2 all0)
  obtain ⟨cq7, kq7, q7a, q7b, q7c⟩ := isOf hZ rfl F2_0
  obtain ⟨_, _, ⟨T7, L7, k7, n7⟩, -, X7, ⟨Lc7, hQ7, l7, y7, z7⟩, st7⟩ := X2.virtualBack hx (y := (⟨"java/lang/String", "lastIndexOf", "(I)I"⟩ : MethodName)) (z := (⟨"java/lang/String", "lastIndexOf", "(I)I"⟩ : MethodName)) hown (mvT hZ (hw _ (mg 73 rfl))) (mvT hZ (hw _ (mg 74 rfl))) (notFace_of_selects (args := #[]) (mvT hZ (hw _ (mg 76 rfl)))) (mvT hZ (hw _ (mg 76 rfl))) (mvT hZ (hw _ (mg 75 rfl))) (by decide) (backOf (W := 2) (strLast l Z a0 hw [] sb_2 xb_2 kb_2 r1 (own_tk vs r1) r2 cs T2.heap n0 F8 P0 F2_0 F2_1 F2_2 F2_3 (by first | assumption | omega | decide | simp_all : cs ≠ (0 : Int32)) hla2) hZ (hw _ (mg 77 rfl)) (hw _ (mg 11 rfl)) (by decide) (by decide)) q7a q7c (g := (mkF m 17 #[.val (.ref sa), .val (.ref sb_2)] [(.int 47), (.ref sb_2), (.int 0), (.ref sb_2)])) rfl (by rw [hml]; rfl) (Steps.refl _) (argsL := [(.int 47)]) (rest := [(.int 0), (.ref sb_2)]) (lenOf pd_20 rfl) rfl (by show 2 * 0 + _ ≤ _; exact Nat.le_of_eq rfl) (hb hby d15_17) (fun _ _ => ⟨rfl, rfl, (by decide : 2 + 0 ≤ _), (by decide : 22 + 0 ≤ _)⟩)
  dsimp only [Pt.U, Pt.locs, Pt.cells, Pt.slots] at X7 l7 y7 z7 st7 hQ7
  subst y7 z7
  obtain ⟨rfl, N7q, e7⟩ := hQ7
  have N7 : Fr n0 L7 := by rw [l7]; exact Fr.app N2 N7q
  have X7 := own_mr X7 2 22 (by decide) (by decide)
  refine Go.tr st7 ?_
  show Go p e below _ (T7.setTop (mkF m 20 #[.val (.ref sa), .val (.ref sb_2)] [(.int r2), (.int 0), (.ref sb_2)]))
  have F10 : h0.size ≤ T2.heap.size := (Nat.le_trans hk0 K2.1)
  have F11 : CHr Z own_EL s.vm h0 s.vm T2.heap := (own_chK hR0 K2 sf0)
  obtain ⟨a12, T12, h12, k12, d12, kd12, X12, e12, E12, hS, hk12, hZ, hown, F12_e, F12_c, F12_v, F12_a, -, -, C12, -, ns12, st12⟩ := ldcCH X7 hx hZ hown (hw _ (mg 136 rfl)) wS e7 hS F10 hEL (List.mem_of_getElem? (i := 0) rfl) F11.1 (vs := [(.int 47), (.int 98), (.int 97), (.int 114), (.int 101), (.int 45), (.int 108), (.int 111), (.int 99), (.int 107)]) (z := (10 : Int32)) ⟨by decide, rfl⟩ (by decide) rfl (g := (mkF m 20 #[.val (.ref sa), .val (.ref sb_2)] [(.int r2), (.int 0), (.ref sb_2)])) rfl (hb hby d15_20) (n := 40) (by decide) (by decide) (by decide) (by decide)
  have A12 := F11.trans C12
  refine Go.by st12 ?_
  show Go p e below _ (T12.setTop (mkF m 22 #[.val (.ref sa), .val (.ref sb_2)] [(.ref a12), (.int r2), (.int 0), (.ref sb_2)]))
  have F14 : Old Z n0 h12 := (F8.ext E12)
  have F15 : Keep h0 h12 [] := (F9.ext E12)
  obtain ⟨cq13, kq13, q13a, q13b, q13c⟩ := isOf hZ e12 F12_e
  obtain ⟨_, _, ⟨T13, L13, k13, n13⟩, -, X13, ⟨Lc13, hQ13, l13, y13, z13⟩, st13⟩ := X12.virtualBack hx (y := (⟨"java/lang/String", "length", "()I"⟩ : MethodName)) (z := (⟨"java/lang/String", "length", "()I"⟩ : MethodName)) hown (mvT hZ (hw _ (mg 137 rfl))) (mvT hZ (hw _ (mg 79 rfl))) (notFace_of_selects (args := #[]) (mvT hZ (hw _ (mg 81 rfl)))) (mvT hZ (hw _ (mg 81 rfl))) (mvT hZ (hw _ (mg 80 rfl))) (by decide) (backOf (W := 3) (length l Z a0 hw [] a12 d12 kd12 (10 : Int32) ([(.int 47), (.int 98), (.int 97), (.int 114), (.int 101), (.int 45), (.int 108), (.int 111), (.int 99), (.int 107)]) cs h12 n0 F14 P0 F12_e F12_c F12_v F12_a (by first | assumption | omega | decide | simp_all : cs ≠ (0 : Int32))) hZ (hw _ (mg 82 rfl)) (hw _ (mg 11 rfl)) (by decide) (by decide)) q13a q13c (g := (mkF m 22 #[.val (.ref sa), .val (.ref sb_2)] [(.ref a12), (.int r2), (.int 0), (.ref sb_2)])) rfl (by rw [hml]; rfl) (Steps.refl _) (argsL := []) (rest := [(.int r2), (.int 0), (.ref sb_2)]) (lenOf pd_14 rfl) rfl (by show 2 * 0 + _ ≤ _; exact Nat.le_of_eq rfl) (hb hby d15_22) (fun _ _ => ⟨rfl, e12, (by decide : 4 + 0 ≤ _), (by decide : 66 + 0 ≤ _)⟩)
  dsimp only [Pt.U, Pt.locs, Pt.cells, Pt.slots] at X13 l13 y13 z13 st13 hQ13
  subst y13 z13
  obtain ⟨rfl, N13q, e13⟩ := hQ13
  have N13 : Fr n0 L13 := by rw [l13]; exact Fr.app N7 N13q
  have X13 := own_mr X13 4 66 (by decide) (by decide)
  refine Go.tr st13 ?_
  show Go p e below _ (T13.setTop (mkF m 25 #[.val (.ref sa), .val (.ref sb_2)] [(.int 10), (.int r2), (.int 0), (.ref sb_2)]))
  refine Go.by (fun t k => XS.isub X13.here hx rfl (hb hby d15_25) rfl k) ?_
  show Go p e below _ (T13.setTop (mkF m 26 #[.val (.ref sa), .val (.ref sb_2)] [(.int (r2 - (10 : Int32))), (.int 0), (.ref sb_2)]))
  rw [show T13.setTop (mkF m 26 #[.val (.ref sa), .val (.ref sb_2)] [(.int (r2 - (10 : Int32))), (.int 0), (.ref sb_2)]) = T13.setTop (mkF m 26 #[.val (.ref sa), .val (.ref sb_2)] [(.int n_), (.int 0), (.ref sb_2)]) from by rw [her2]]
  show Go p e below _ (T13.setTop (mkF m 26 #[.val (.ref sa), .val (.ref sb_2)] [(.int n_), (.int 0), (.ref sb_2)]))
  have F17 : Exa Z h12 sb_2 "java/lang/String" := (F2_0.ext E12)
  have F18 : Fld Z h12 sb_2 "java/lang/String" "coder" "B" (.int 0) := (F2_1.ext E12)
  have F19 : Fld Z h12 sb_2 "java/lang/String" "value" "[B" (.ref xb_2) := (F2_2.ext E12)
  have F20 : Arv Z h12 xb_2 kb_2 .byte r1 (own_tk vs r1) (.int 0) := (F2_3.ext E12)
  have F21 : Exa Z h12 sa "java/lang/String" := ((P1.keep K2).ext E12)
  have F22 : Arv Z h12 xa ka .byte (18 : Int32) vs (.int 0) := ((P4.keep K2 nin0).ext E12)
  obtain ⟨cq16, kq16, q16a, q16b, q16c⟩ := isOf hZ e13 F17
  obtain ⟨_, _, ⟨T16, L16, k16, n16⟩, -, X16, ⟨Lc16, hQ16, l16, y16, z16⟩, st16⟩ := X13.virtualBack hx (y := (⟨"java/lang/String", "substring", "(II)Ljava/lang/String;"⟩ : MethodName)) (z := (⟨"java/lang/String", "substring", "(II)Ljava/lang/String;"⟩ : MethodName)) hown (mvT hZ (hw _ (mg 103 rfl))) (mvT hZ (hw _ (mg 104 rfl))) (notFace_of_selects (args := #[]) (mvT hZ (hw _ (mg 106 rfl)))) (mvT hZ (hw _ (mg 106 rfl))) (mvT hZ (hw _ (mg 105 rfl))) (by decide) (backOf (W := 0) (sub_p l Z a0 hw [] sb_2 n_ xb_2 kb_2 r1 (own_tk vs r1) cs fm h12 n0 F14 P0 F17 F18 F19 F20 P5 (by first | assumption | omega | decide | simp_all : cs ≠ (0 : Int32)) (by first | assumption | omega | decide | simp_all : fm.isRef = true) (by have := hla1.1; have := hla2.1; have e : (18 : Int32).toInt = 18 := rfl; omega)) hZ (hw _ (mg 107 rfl)) (hw _ (mg 11 rfl)) (by decide) (by decide)) q16a q16c (g := (mkF m 26 #[.val (.ref sa), .val (.ref sb_2)] [(.int n_), (.int 0), (.ref sb_2)])) rfl (by rw [hml]; rfl) (Steps.refl _) (argsL := [(.int 0), (.int n_)]) (rest := []) (lenOf pd_21 rfl) rfl (by show 2 * 0 + _ ≤ _; exact Nat.le_of_eq rfl) (hb hby d15_26) (fun _ _ => ⟨rfl, e13, (by decide : 4 + 2 ≤ _), (by decide : 66 + 22 ≤ _)⟩)
  dsimp only [Pt.U, Pt.locs, Pt.cells, Pt.slots] at X16 l16 y16 z16 st16 hQ16
  subst y16 z16
  obtain ⟨sb_16, xb_16, kb_16, rfl, N16q, K16, fz16_sb, fz16_xb, F16_0, F16_1, F16_2, F16_3⟩ := hQ16
  have N16 : Fr n0 L16 := by rw [l16]; exact Fr.app N13 N16q
  have X16 := own_mr X16 6 88 (by decide) (by decide)
  have ge_sb_16 : n0 ≤ sb_16 := Nat.le_trans (own_old_size F14) fz16_sb
  have sz_sb_16 : h0.size ≤ sb_16 := Nat.le_trans F15.1 fz16_sb
  have ne23 : sa ≠ sb_16 := Nat.ne_of_lt (Nat.lt_of_lt_of_le F21.lt fz16_sb)
  have ne24 : xa ≠ sb_16 := Nat.ne_of_lt (Nat.lt_of_lt_of_le F22.lt fz16_sb)
  have ne25 : sb_2 ≠ sb_16 := Nat.ne_of_lt (Nat.lt_of_lt_of_le F17.lt fz16_sb)
  have ne26 : xb_2 ≠ sb_16 := Nat.ne_of_lt (Nat.lt_of_lt_of_le F20.lt fz16_sb)
  have ne27 : a12 ≠ sb_16 := Nat.ne_of_lt (Nat.lt_of_lt_of_le F12_e.lt fz16_sb)
  have ne28 : d12 ≠ sb_16 := Nat.ne_of_lt (Nat.lt_of_lt_of_le F12_a.lt fz16_sb)
  have ge_xb_16 : n0 ≤ xb_16 := Nat.le_trans (own_old_size F14) fz16_xb
  have sz_xb_16 : h0.size ≤ xb_16 := Nat.le_trans F15.1 fz16_xb
  have ne29 : sa ≠ xb_16 := Nat.ne_of_lt (Nat.lt_of_lt_of_le F21.lt fz16_xb)
  have ne30 : xa ≠ xb_16 := Nat.ne_of_lt (Nat.lt_of_lt_of_le F22.lt fz16_xb)
  have ne31 : sb_2 ≠ xb_16 := Nat.ne_of_lt (Nat.lt_of_lt_of_le F17.lt fz16_xb)
  have ne32 : xb_2 ≠ xb_16 := Nat.ne_of_lt (Nat.lt_of_lt_of_le F20.lt fz16_xb)
  have ne33 : a12 ≠ xb_16 := Nat.ne_of_lt (Nat.lt_of_lt_of_le F12_e.lt fz16_xb)
  have ne34 : d12 ≠ xb_16 := Nat.ne_of_lt (Nat.lt_of_lt_of_le F12_a.lt fz16_xb)
  refine Go.tr st16 ?_
  show Go p e below _ (T16.setTop (mkF m 29 #[.val (.ref sa), .val (.ref sb_2)] [(.ref sb_16)]))
  have F35 : Keep h0 T16.heap [] := (F15.trans K16 all0)
  have hq : Q_chroot_p Z sa xa ka vs r1 r2 n_ cs fm h0 n0 (some (.ref sb_16)) T16.heap _ := ⟨sb_16, xb_16, kb_16, rfl, N16, F35, F16_0, F16_1, F16_2, F16_3⟩
  have F36 : CHr Z own_EL s.vm h0 T12.vm T16.heap := (own_chK A12 K16 sf0)
  have F37 : k12 ≤ T16.heap.size := (Nat.le_trans hk12 K16.1)
  exact Go.retAH hS F37 (own_chEnd X16 rfl hZ hEL F36 hh) X16 hx Bd.returns rfl rfl hlk (hb hby d15_29) (by decide) (by decide) hq
theorem d32_0 : decode jdk_43_method_13_code 0 = .ok (.aload_n 0, 1) := by decide +kernel
theorem d32_1 : decode jdk_43_method_13_code 1 = .ok (.arraylength, 1) := by decide +kernel
theorem d32_2 : decode jdk_43_method_13_code 2 = .ok (.aload_n 1, 1) := by decide +kernel
theorem d32_3 : decode jdk_43_method_13_code 3 = .ok (.arraylength, 1) := by decide +kernel
theorem d32_4 : decode jdk_43_method_13_code 4 = .ok (.if_icmp .ne 30, 3) := by decide +kernel
theorem d32_7 : decode jdk_43_method_13_code 7 = .ok (.iconst 0, 1) := by decide +kernel
theorem d32_8 : decode jdk_43_method_13_code 8 = .ok (.istore_n 2, 1) := by decide +kernel
theorem d32_9 : decode jdk_43_method_13_code 9 = .ok (.iload_n 2, 1) := by decide +kernel
theorem d32_10 : decode jdk_43_method_13_code 10 = .ok (.aload_n 0, 1) := by decide +kernel
theorem d32_11 : decode jdk_43_method_13_code 11 = .ok (.arraylength, 1) := by decide +kernel
theorem d32_12 : decode jdk_43_method_13_code 12 = .ok (.if_icmp .ge 20, 3) := by decide +kernel
theorem d32_32 : decode jdk_43_method_13_code 32 = .ok (.iconst 1, 1) := by decide +kernel
theorem d32_33 : decode jdk_43_method_13_code 33 = .ok (.ireturn, 1) := by decide +kernel
theorem d32_15 : decode jdk_43_method_13_code 15 = .ok (.aload_n 0, 1) := by decide +kernel
theorem d32_16 : decode jdk_43_method_13_code 16 = .ok (.iload_n 2, 1) := by decide +kernel
theorem d32_17 : decode jdk_43_method_13_code 17 = .ok (.baload, 1) := by decide +kernel
theorem d32_18 : decode jdk_43_method_13_code 18 = .ok (.aload_n 1, 1) := by decide +kernel
theorem d32_19 : decode jdk_43_method_13_code 19 = .ok (.iload_n 2, 1) := by decide +kernel
theorem d32_20 : decode jdk_43_method_13_code 20 = .ok (.baload, 1) := by decide +kernel
theorem d32_21 : decode jdk_43_method_13_code 21 = .ok (.if_icmp .eq 5, 3) := by decide +kernel
theorem d32_26 : decode jdk_43_method_13_code 26 = .ok (.iinc 2 1, 3) := by decide +kernel
theorem d32_29 : decode jdk_43_method_13_code 29 = .ok (.goto (-20), 3) := by decide +kernel
theorem ef_lat_eq (m : MethodId) (xa : Addr) (xb : Addr) : entryFrame m #[(.ref xa), (.ref xb)] 3 = mkF m 0 #[.val (.ref xa), .val (.ref xb), .unset] [] := by first | (simp [entryFrame, mkF, argsToLocals, Value.category]; done) | rfl
def Q_lat_eq (Z : State) (xa : Addr) (xb : Addr) (ka : ClassId) (kb : ClassId) (zz : Int32) (vs : List Value) (h0 : Heap) (n0 : Nat) (v : Option Value) (h : Heap) (L : List Loc) : Prop := v = some (.int 1) ∧ Fr n0 L ∧ h = h0
set_option maxRecDepth 65536 in
set_option maxHeartbeats 40000000 in
theorem lat_eq (l : Launch) (Z : State) (a0 : Array Value) (hw : ∀ d ∈ tables_1, d.before a0 Z = true) (ws : List Jvm.Cond) (xa : Addr) (xb : Addr) (ka : ClassId) (kb : ClassId) (zz : Int32) (vs : List Value) (h0 : Heap) (n0 : Nat) (O0 : Old Z n0 h0) (P0 : Arv Z h0 xa ka .byte zz vs (.int 0)) (P1 : Arv Z h0 xb kb .byte zz vs (.int 0)) :
    MetFree l (⟨"java/lang/StringLatin1", "equals", "([B[B)Z"⟩ : MethodName) (head1 (Jvm.Cond.code (⟨"java/lang/StringLatin1", "equals", "([B[B)Z"⟩ : MethodName) jdk_43_method_13_code 3 (some .boolean) :: ws) ({ frames := 0, cells := 0, slots := 0, locals := 0 } : Room)) (fun a U => a = #[(.ref xa), (.ref xb)] ∧ Z.Warmed39 U.vm ∧ U.heap = h0) (fun _ _ _ _ _ => True) (fun _ U o U' => ∃ v L, o = .returned v ∧ Q_lat_eq Z xa xb ka kb zz vs h0 n0 v U'.heap L ∧ FrameEnd U o U' L ({ frames := 0, cells := 0, slots := 0, locals := 0 } : Room).cells ({ frames := 0, cells := 0, slots := 0, locals := 0 } : Room).slots) := by
  refine MetFree.of_bodySF (plainFor_of_name pn_3) hisR ?_
  intro p e s m args below meth c s₁ Bd hml0 hP hK
  obtain ⟨rfl, hZ, hh⟩ := hP
  have hx := Bd.exec
  have hby := Bd.bytes
  have hml : c.maxLocals = 3 := hml0
  have hown : s.vm.findClass "java/lang/StringLatin1" = some m.cls := findClass_of_methodNamed Bd.named
  have hnm := (name_of_methodNamed Bd.named Bd.method).1
  have hlk := BodyLoose.notSynchronized Bd
  have X0 : Stand p l e ({ frames := 0, cells := 0, slots := 0, locals := 0 } : Room) s m #[(.ref xa), (.ref xb)] below meth c s₁ [] 0 0 := Stand.of_body Bd
  have e0 : s₁.heap = h0 := by rw [← hh, Bd.state]; rfl
  have N0 := Fr.nil n0
  refine Go.start (P := fun o U' => ∃ v L, o = .returned v ∧ Q_lat_eq Z xa xb ka kb zz vs h0 n0 v U'.heap L ∧ FrameEnd s o U' L ({ frames := 0, cells := 0, slots := 0, locals := 0 } : Room).cells ({ frames := 0, cells := 0, slots := 0, locals := 0 } : Room).slots) (ef_lat_eq m xa xb) ?_
  show Go p e below _ (s₁.setTop (mkF m 0 #[.val (.ref xa), .val (.ref xb), qU] []))
  refine Go.by (fun t k => XS.aloadN X0.here hx rfl (hb hby d32_0) rfl rfl k) ?_
  show Go p e below _ (s₁.setTop (mkF m 1 #[.val (.ref xa), .val (.ref xb), qU] [(.ref xa)]))
  obtain ⟨cl1, Ar1, qk1, sz1, nn1, Ha1, Gf1⟩ := id P0
  have hl1 : cl1.slots.size.toInt32 = zz := len_of sz1 nn1
  refine Go.by (fun t k => X0.arraylength hx (by rw [e0]; exact Ar1.1) (State.isArrayOf_alike hZ.alike Ar1.2.1) (g := (mkF m 1 #[.val (.ref xa), .val (.ref xb), qU] [(.ref xa)])) rfl rfl (hb hby d32_1) t (by rw [hl1]; exact k)) ?_
  show Go p e below _ (s₁.setTop (mkF m 2 #[.val (.ref xa), .val (.ref xb), qU] [(.int zz)]))
  refine Go.by (fun t k => XS.aloadN X0.here hx rfl (hb hby d32_2) rfl rfl k) ?_
  show Go p e below _ (s₁.setTop (mkF m 3 #[.val (.ref xa), .val (.ref xb), qU] [(.ref xb), (.int zz)]))
  obtain ⟨cl2, Ar2, qk2, sz2, nn2, Ha2, Gf2⟩ := id P1
  have hl2 : cl2.slots.size.toInt32 = zz := len_of sz2 nn2
  refine Go.by (fun t k => X0.arraylength hx (by rw [e0]; exact Ar2.1) (State.isArrayOf_alike hZ.alike Ar2.2.1) (g := (mkF m 3 #[.val (.ref xa), .val (.ref xb), qU] [(.ref xb), (.int zz)])) rfl rfl (hb hby d32_3) t (by rw [hl2]; exact k)) ?_
  show Go p e below _ (s₁.setTop (mkF m 4 #[.val (.ref xa), .val (.ref xb), qU] [(.int zz), (.int zz)]))
  refine Go.by (fun t k => XS.icmpNo X0.here hx rfl (hb hby d32_4) rfl (teq rfl).2 (XS.iconst X0.here hx rfl (hb hby d32_7) (XS.istoreN X0.here hx rfl (hb hby d32_8) rfl (l' := #[.val (.ref xa), .val (.ref xb), qI 0]) rfl k))) ?_
  show Go p e below _ (s₁.setTop (mkF m 9 #[.val (.ref xa), .val (.ref xb), qI 0] []))
  obtain ⟨cl3, Ar3, qk3, sz3, nn3, Ha3, Gf3⟩ := id P0
  have L9 : ∀ (k : Nat) (j_i : Int32), 0 ≤ j_i.toInt → j_i.toInt + (k : Nat) = zz.toInt → Go p e below (fun o U' => ∃ v L, o = .returned v ∧ Q_lat_eq Z xa xb ka kb zz vs h0 n0 v U'.heap L ∧ FrameEnd s o U' L ({ frames := 0, cells := 0, slots := 0, locals := 0 } : Room).cells ({ frames := 0, cells := 0, slots := 0, locals := 0 } : Room).slots) (s₁.setTop (mkF m 9 #[.val (.ref xa), .val (.ref xb), qI j_i] [])) := by
    intro k; induction k with
    | zero =>
      intro j_i hj hk
      show Go p e below _ (s₁.setTop (mkF m 9 #[.val (.ref xa), .val (.ref xb), qI j_i] []))
      refine Go.by (fun t k => XS.iloadN X0.here hx rfl (hb hby d32_9) rfl (XS.aloadN X0.here hx rfl (hb hby d32_10) rfl rfl k)) ?_
      show Go p e below _ (s₁.setTop (mkF m 11 #[.val (.ref xa), .val (.ref xb), qI j_i] [(.ref xa), (.int j_i)]))
      obtain ⟨cl4, Ar4, qk4, sz4, nn4, Ha4, Gf4⟩ := id P0
      have hl4 : cl4.slots.size.toInt32 = zz := len_of sz4 nn4
      refine Go.by (fun t k => X0.arraylength hx (by rw [e0]; exact Ar4.1) (State.isArrayOf_alike hZ.alike Ar4.2.1) (g := (mkF m 11 #[.val (.ref xa), .val (.ref xb), qI j_i] [(.ref xa), (.int j_i)])) rfl rfl (hb hby d32_11) t (by rw [hl4]; exact k)) ?_
      show Go p e below _ (s₁.setTop (mkF m 12 #[.val (.ref xa), .val (.ref xb), qI j_i] [(.int zz), (.int j_i)]))
      refine Go.by (fun t k => XS.icmpYes X0.here hx rfl (pc0 := 12) (pc' := 32) rfl (hb hby d32_12) rfl (flt (own_ltF hk)).2.1 (by decide) (by decide) (XS.iconst X0.here hx rfl (hb hby d32_32) k)) ?_
      show Go p e below _ (s₁.setTop (mkF m 33 #[.val (.ref xa), .val (.ref xb), qI j_i] [(.int 1)]))
      have hq : Q_lat_eq Z xa xb ka kb zz vs h0 n0 (some (.int (nar .boolean (1 : Int32)))) h0 _ := ⟨rfl, N0, rfl⟩
      exact Go.retN X0 hx (t := .boolean) Bd.returns (by simp) hlk (hb hby d32_33) (by decide) (by decide) (by rw [e0]; exact hq)
    | succ k ih =>
      intro j_i hj hk
      show Go p e below _ (s₁.setTop (mkF m 9 #[.val (.ref xa), .val (.ref xb), qI j_i] []))
      refine Go.by (fun t k => XS.iloadN X0.here hx rfl (hb hby d32_9) rfl (XS.aloadN X0.here hx rfl (hb hby d32_10) rfl rfl k)) ?_
      show Go p e below _ (s₁.setTop (mkF m 11 #[.val (.ref xa), .val (.ref xb), qI j_i] [(.ref xa), (.int j_i)]))
      obtain ⟨cl5, Ar5, qk5, sz5, nn5, Ha5, Gf5⟩ := id P0
      have hl5 : cl5.slots.size.toInt32 = zz := len_of sz5 nn5
      refine Go.by (fun t k => X0.arraylength hx (by rw [e0]; exact Ar5.1) (State.isArrayOf_alike hZ.alike Ar5.2.1) (g := (mkF m 11 #[.val (.ref xa), .val (.ref xb), qI j_i] [(.ref xa), (.int j_i)])) rfl rfl (hb hby d32_11) t (by rw [hl5]; exact k)) ?_
      show Go p e below _ (s₁.setTop (mkF m 12 #[.val (.ref xa), .val (.ref xb), qI j_i] [(.int zz), (.int j_i)]))
      refine Go.by (fun t k => XS.icmpNo X0.here hx rfl (hb hby d32_12) rfl (tlt (own_ltT hk)).2.1 (XS.aloadN X0.here hx rfl (hb hby d32_15) rfl rfl (XS.iloadN X0.here hx rfl (hb hby d32_16) rfl k))) ?_
      show Go p e below _ (s₁.setTop (mkF m 17 #[.val (.ref xa), .val (.ref xb), qI j_i] [(.int j_i), (.ref xa)]))
      obtain ⟨cl6, Ar6, qk6, sz6, nn6, Ha6, Gf6⟩ := id P0
      have hin7 : ¬ (j_i < 0 ∨ cl6.slots.size ≤ (j_i).toNatClampNeg) := inb_of sz6 ⟨own_nn hj, own_ltT hk⟩
      obtain ⟨bj, hbj⟩ := own_fitb (Gf6 _ (Nat.lt_of_not_le fun q => hin7 (Or.inr q)))
      have hat8 : cl6.slots[(j_i).toNatClampNeg]? = some (.int bj) := Has.at Ha6 hin7 hbj
      refine Go.by (fun t k => X0.baloadBytes hx (j := j_i) (v := (.int bj)) (by rw [e0]; exact Ar6.1) (State.isArrayOf_alike hZ.alike Ar6.2.1) Ar6.2.2 hin7 hat8 (g := (mkF m 17 #[.val (.ref xa), .val (.ref xb), qI j_i] [(.int j_i), (.ref xa)])) rfl rfl (hb hby d32_17) t k) ?_
      show Go p e below _ (s₁.setTop (mkF m 18 #[.val (.ref xa), .val (.ref xb), qI j_i] [(.int bj)]))
      refine Go.by (fun t k => XS.aloadN X0.here hx rfl (hb hby d32_18) rfl rfl (XS.iloadN X0.here hx rfl (hb hby d32_19) rfl k)) ?_
      show Go p e below _ (s₁.setTop (mkF m 20 #[.val (.ref xa), .val (.ref xb), qI j_i] [(.int j_i), (.ref xb), (.int bj)]))
      obtain ⟨cl9, Ar9, qk9, sz9, nn9, Ha9, Gf9⟩ := id P1
      have hin10 : ¬ (j_i < 0 ∨ cl9.slots.size ≤ (j_i).toNatClampNeg) := inb_of sz9 ⟨own_nn hj, own_ltT hk⟩
      have hat11 : cl9.slots[(j_i).toNatClampNeg]? = some (.int bj) := Has.at Ha9 hin10 hbj
      refine Go.by (fun t k => X0.baloadBytes hx (j := j_i) (v := (.int bj)) (by rw [e0]; exact Ar9.1) (State.isArrayOf_alike hZ.alike Ar9.2.1) Ar9.2.2 hin10 hat11 (g := (mkF m 20 #[.val (.ref xa), .val (.ref xb), qI j_i] [(.int j_i), (.ref xb), (.int bj)])) rfl rfl (hb hby d32_20) t k) ?_
      show Go p e below _ (s₁.setTop (mkF m 21 #[.val (.ref xa), .val (.ref xb), qI j_i] [(.int bj), (.int bj)]))
      refine Go.by (fun t k => XS.icmpYes X0.here hx rfl (pc0 := 21) (pc' := 26) rfl (hb hby d32_21) rfl (teq rfl).1 (by decide) (by decide) (XS.iinc X0.here hx rfl (hb hby d32_26) rfl (l' := #[.val (.ref xa), .val (.ref xb), .val (.int (j_i + (1 : Int32)))]) rfl (XS.goto X0.here hx rfl (pc0 := 29) (pc' := 9) rfl (hb hby d32_29) (by decide) (by decide) k))) ?_
      show Go p e below _ (s₁.setTop (mkF m 9 #[.val (.ref xa), .val (.ref xb), .val (.int (j_i + (1 : Int32)))] []))
      exact ih _ (own_up1 hj hk).1 (own_up1 hj hk).2
  exact L9 zz.toInt.toNat _ (by decide) (by have := own_nn' nn3; have e0 : (0 : Int32).toInt = 0 := rfl; omega)
theorem d31_0 : decode jdk_42_method_66_code 0 = .ok (.aload_n 0, 1) := by decide +kernel
theorem d31_1 : decode jdk_42_method_66_code 1 = .ok (.aload_n 1, 1) := by decide +kernel
theorem d31_2 : decode jdk_42_method_66_code 2 = .ok (.if_acmp .ne 5, 3) := by decide +kernel
theorem d31_5 : decode jdk_42_method_66_code 5 = .ok (.iconst 1, 1) := by decide +kernel
theorem d31_6 : decode jdk_42_method_66_code 6 = .ok (.ireturn, 1) := by decide +kernel
theorem d31_7 : decode jdk_42_method_66_code 7 = .ok (.aload_n 1, 1) := by decide +kernel
theorem d31_8 : decode jdk_42_method_66_code 8 = .ok (.instanceof 10, 3) := by decide +kernel
theorem d31_11 : decode jdk_42_method_66_code 11 = .ok (.ifCond .eq 43, 3) := by decide +kernel
theorem d31_14 : decode jdk_42_method_66_code 14 = .ok (.aload_n 1, 1) := by decide +kernel
theorem d31_15 : decode jdk_42_method_66_code 15 = .ok (.checkcast 10, 3) := by decide +kernel
theorem d31_18 : decode jdk_42_method_66_code 18 = .ok (.astore_n 2, 1) := by decide +kernel
theorem d31_19 : decode jdk_42_method_66_code 19 = .ok (.getstatic 38, 3) := by decide +kernel
theorem d31_22 : decode jdk_42_method_66_code 22 = .ok (.ifCond .eq 14, 3) := by decide +kernel
theorem d31_25 : decode jdk_42_method_66_code 25 = .ok (.aload_n 0, 1) := by decide +kernel
theorem d31_26 : decode jdk_42_method_66_code 26 = .ok (.getfield 15, 3) := by decide +kernel
theorem d31_29 : decode jdk_42_method_66_code 29 = .ok (.aload_n 2, 1) := by decide +kernel
theorem d31_30 : decode jdk_42_method_66_code 30 = .ok (.getfield 15, 3) := by decide +kernel
theorem d31_33 : decode jdk_42_method_66_code 33 = .ok (.if_icmp .ne 21, 3) := by decide +kernel
theorem d31_36 : decode jdk_42_method_66_code 36 = .ok (.aload_n 0, 1) := by decide +kernel
theorem d31_37 : decode jdk_42_method_66_code 37 = .ok (.getfield 9, 3) := by decide +kernel
theorem d31_40 : decode jdk_42_method_66_code 40 = .ok (.aload_n 2, 1) := by decide +kernel
theorem d31_41 : decode jdk_42_method_66_code 41 = .ok (.getfield 9, 3) := by decide +kernel
theorem d31_44 : decode jdk_42_method_66_code 44 = .ok (.invokestatic 541, 3) := by decide +kernel
theorem pd_22 : parseMethodDescriptor "([B[B)Z" = some ⟨[(.array .byte), (.array .byte)], some .boolean⟩ := by decide +kernel
theorem d31_47 : decode jdk_42_method_66_code 47 = .ok (.ifCond .eq 7, 3) := by decide +kernel
theorem d31_50 : decode jdk_42_method_66_code 50 = .ok (.iconst 1, 1) := by decide +kernel
theorem d31_51 : decode jdk_42_method_66_code 51 = .ok (.goto 4, 3) := by decide +kernel
theorem d31_55 : decode jdk_42_method_66_code 55 = .ok (.ireturn, 1) := by decide +kernel
theorem ef_str_eq (m : MethodId) (sa : Addr) (sb : Addr) : entryFrame m #[(.ref sa), (.ref sb)] 3 = mkF m 0 #[.val (.ref sa), .val (.ref sb), .unset] [] := by first | (simp [entryFrame, mkF, argsToLocals, Value.category]; done) | rfl
def Q_str_eq (Z : State) (sa : Addr) (sb : Addr) (xa : Addr) (xb : Addr) (ka : ClassId) (kb : ClassId) (zz : Int32) (vs : List Value) (cs : Int32) (h0 : Heap) (n0 : Nat) (v : Option Value) (h : Heap) (L : List Loc) : Prop := v = some (.int 1) ∧ Fr n0 L ∧ h = h0
set_option maxRecDepth 65536 in
set_option maxHeartbeats 40000000 in
theorem str_eq (l : Launch) (Z : State) (a0 : Array Value) (hw : ∀ d ∈ tables_1, d.before a0 Z = true) (ws : List Jvm.Cond) (sa : Addr) (sb : Addr) (xa : Addr) (xb : Addr) (ka : ClassId) (kb : ClassId) (zz : Int32) (vs : List Value) (cs : Int32) (h0 : Heap) (n0 : Nat) (O0 : Old Z n0 h0) (P0 : Sta Z Z.heap "java/lang/String" "COMPACT_STRINGS" "Z" (.int cs)) (P1 : Exa Z h0 sa "java/lang/String") (P2 : Fld Z h0 sa "java/lang/String" "coder" "B" (.int 0)) (P3 : Fld Z h0 sa "java/lang/String" "value" "[B" (.ref xa)) (P4 : Arv Z h0 xa ka .byte zz vs (.int 0)) (P5 : Exa Z h0 sb "java/lang/String") (P6 : Fld Z h0 sb "java/lang/String" "coder" "B" (.int 0)) (P7 : Fld Z h0 sb "java/lang/String" "value" "[B" (.ref xb)) (P8 : Arv Z h0 xb kb .byte zz vs (.int 0)) (hcs : cs ≠ (0 : Int32)) :
    MetFree l (⟨"java/lang/String", "equals", "(Ljava/lang/Object;)Z"⟩ : MethodName) (head1 (Jvm.Cond.code (⟨"java/lang/String", "equals", "(Ljava/lang/Object;)Z"⟩ : MethodName) jdk_42_method_66_code 3 (some .boolean) :: ws) ({ frames := 1, cells := 0, slots := 0, locals := 14 } : Room)) (fun a U => a = #[(.ref sa), (.ref sb)] ∧ Z.Warmed39 U.vm ∧ U.heap = h0) (fun _ _ _ _ _ => True) (fun _ U o U' => ∃ v L, o = .returned v ∧ Q_str_eq Z sa sb xa xb ka kb zz vs cs h0 n0 v U'.heap L ∧ FrameEnd U o U' L ({ frames := 1, cells := 0, slots := 0, locals := 14 } : Room).cells ({ frames := 1, cells := 0, slots := 0, locals := 14 } : Room).slots) := by
  refine MetFree.of_bodySF (plainFor_of_name pn_1) hisR ?_
  intro p e s m args below meth c s₁ Bd hml0 hP hK
  obtain ⟨rfl, hZ, hh⟩ := hP
  have hx := Bd.exec
  have hby := Bd.bytes
  have hml : c.maxLocals = 3 := hml0
  have hown : s.vm.findClass "java/lang/String" = some m.cls := findClass_of_methodNamed Bd.named
  have hnm := (name_of_methodNamed Bd.named Bd.method).1
  have hlk := BodyLoose.notSynchronized Bd
  have X0 : Stand p l e ({ frames := 1, cells := 0, slots := 0, locals := 14 } : Room) s m #[(.ref sa), (.ref sb)] below meth c s₁ [] 0 0 := Stand.of_body Bd
  have e0 : s₁.heap = h0 := by rw [← hh, Bd.state]; rfl
  have N0 := Fr.nil n0
  refine Go.start (P := fun o U' => ∃ v L, o = .returned v ∧ Q_str_eq Z sa sb xa xb ka kb zz vs cs h0 n0 v U'.heap L ∧ FrameEnd s o U' L ({ frames := 1, cells := 0, slots := 0, locals := 14 } : Room).cells ({ frames := 1, cells := 0, slots := 0, locals := 14 } : Room).slots) (ef_str_eq m sa sb) ?_
  show Go p e below _ (s₁.setTop (mkF m 0 #[.val (.ref sa), .val (.ref sb), qU] []))
  refine Go.by (fun t k => XS.aloadN X0.here hx rfl (hb hby d31_0) rfl rfl (XS.aloadN X0.here hx rfl (hb hby d31_1) rfl rfl k)) ?_
  show Go p e below _ (s₁.setTop (mkF m 2 #[.val (.ref sa), .val (.ref sb), qU] [(.ref sb), (.ref sa)]))
  by_cases ha1 : sa = sb
  · skip
    refine Go.by (fun t k => Jvm.RoadKit.acmp (g := (mkF m 2 #[.val (.ref sa), .val (.ref sb), qU] [(.ref sb), (.ref sa)])) X0 hx rfl rfl rfl (pc0 := 2) (pc' := 5) (same := true) rfl (hb hby d31_2) rfl (decide_eq_true (congrArg Value.ref ha1)) (by decide) (by decide) k) ?_
    show Go p e below _ (s₁.setTop (mkF m 5 #[.val (.ref sa), .val (.ref sb), qU] []))
    refine Go.by (fun t k => XS.iconst X0.here hx rfl (hb hby d31_5) k) ?_
    show Go p e below _ (s₁.setTop (mkF m 6 #[.val (.ref sa), .val (.ref sb), qU] [(.int 1)]))
    have hq : Q_str_eq Z sa sb xa xb ka kb zz vs cs h0 n0 (some (.int (nar .boolean (1 : Int32)))) h0 _ := ⟨rfl, N0, rfl⟩
    exact Go.retN X0 hx (t := .boolean) Bd.returns (by simp) hlk (hb hby d31_6) (by decide) (by decide) (by rw [e0]; exact hq)
  · skip
    refine Go.by (fun t k => Jvm.RoadKit.acmp (g := (mkF m 2 #[.val (.ref sa), .val (.ref sb), qU] [(.ref sb), (.ref sa)])) X0 hx rfl rfl rfl (pc0 := 2) (pc' := 7) (same := false) rfl (hb hby d31_2) rfl (decide_eq_false fun q => ha1 (Value.ref.inj q)) (by decide) (by decide) k) ?_
    show Go p e below _ (s₁.setTop (mkF m 7 #[.val (.ref sa), .val (.ref sb), qU] []))
    refine Go.by (fun t k => XS.aloadN X0.here hx rfl (hb hby d31_7) rfl rfl k) ?_
    show Go p e below _ (s₁.setTop (mkF m 8 #[.val (.ref sa), .val (.ref sb), qU] [(.ref sb)]))
    obtain ⟨T2, X2, e2, st2⟩ := instY X0 hx hZ hown (hw _ (mg 144 rfl)) e0 (Ins.self P5) (g := (mkF m 8 #[.val (.ref sa), .val (.ref sb), qU] [(.ref sb)])) rfl rfl (hb hby d31_8)
    refine Go.by st2 ?_
    show Go p e below _ (T2.setTop (mkF m 11 #[.val (.ref sa), .val (.ref sb), qU] [(.int 1)]))
    refine Go.by (fun t k => XS.ifNo X2.here hx rfl (hb hby d31_11) rfl ((if0 _ _).trans (feq (by decide : ¬ ((1 : Int32) = (0 : Int32)))).1) (XS.aloadN X2.here hx rfl (hb hby d31_14) rfl rfl k)) ?_
    show Go p e below _ (T2.setTop (mkF m 15 #[.val (.ref sa), .val (.ref sb), qU] [(.ref sb)]))
    obtain ⟨T3, X3, e3, st3⟩ := castY X2 hx hZ hown (hw _ (mg 144 rfl)) e2 (Ins.self P5) (g := (mkF m 15 #[.val (.ref sa), .val (.ref sb), qU] [(.ref sb)])) rfl rfl (hb hby d31_15)
    refine Go.by st3 ?_
    show Go p e below _ (T3.setTop (mkF m 18 #[.val (.ref sa), .val (.ref sb), qU] [(.ref sb)]))
    refine Go.by (fun t k => XS.astoreN X3.here hx rfl (hb hby d31_18) rfl rfl (l' := #[.val (.ref sa), .val (.ref sb), .val (.ref sb)]) rfl k) ?_
    show Go p e below _ (T3.setTop (mkF m 19 #[.val (.ref sa), .val (.ref sb), .val (.ref sb)] []))
    have F4 : Sta Z h0 "java/lang/String" "COMPACT_STRINGS" "Z" (.int cs) := P0.ext O0.2
    obtain ⟨T5, X5, e5, st5⟩ := getS2 X3 hx hZ hown (host := "") (Or.inl (hw _ (mg 28 rfl))) Via.refl e3 F4 (g := (mkF m 19 #[.val (.ref sa), .val (.ref sb), .val (.ref sb)] [])) rfl (hb hby d31_19)
    refine Go.by st5 ?_
    show Go p e below _ (T5.setTop (mkF m 22 #[.val (.ref sa), .val (.ref sb), .val (.ref sb)] [(.int cs)]))
    refine Go.by (fun t k => XS.ifNo X5.here hx rfl (hb hby d31_22) rfl ((if0 _ _).trans (feq hcs).1) (XS.aloadN X5.here hx rfl (hb hby d31_25) rfl rfl k)) ?_
    show Go p e below _ (T5.setTop (mkF m 26 #[.val (.ref sa), .val (.ref sb), .val (.ref sb)] [(.ref sa)]))
    obtain ⟨T6, X6, e6, st6⟩ := getF X5 hx hZ hown (host := "") (Or.inl (hw _ (mg 29 rfl))) Via.refl e5 P2 (g := (mkF m 26 #[.val (.ref sa), .val (.ref sb), .val (.ref sb)] [(.ref sa)])) rfl rfl (hb hby d31_26)
    refine Go.by st6 ?_
    show Go p e below _ (T6.setTop (mkF m 29 #[.val (.ref sa), .val (.ref sb), .val (.ref sb)] [(.int 0)]))
    refine Go.by (fun t k => XS.aloadN X6.here hx rfl (hb hby d31_29) rfl rfl k) ?_
    show Go p e below _ (T6.setTop (mkF m 30 #[.val (.ref sa), .val (.ref sb), .val (.ref sb)] [(.ref sb), (.int 0)]))
    obtain ⟨T7, X7, e7, st7⟩ := getF X6 hx hZ hown (host := "") (Or.inl (hw _ (mg 29 rfl))) Via.refl e6 P6 (g := (mkF m 30 #[.val (.ref sa), .val (.ref sb), .val (.ref sb)] [(.ref sb), (.int 0)])) rfl rfl (hb hby d31_30)
    refine Go.by st7 ?_
    show Go p e below _ (T7.setTop (mkF m 33 #[.val (.ref sa), .val (.ref sb), .val (.ref sb)] [(.int 0), (.int 0)]))
    refine Go.by (fun t k => XS.icmpNo X7.here hx rfl (hb hby d31_33) rfl (teq rfl).2 (XS.aloadN X7.here hx rfl (hb hby d31_36) rfl rfl k)) ?_
    show Go p e below _ (T7.setTop (mkF m 37 #[.val (.ref sa), .val (.ref sb), .val (.ref sb)] [(.ref sa)]))
    obtain ⟨T8, X8, e8, st8⟩ := getF X7 hx hZ hown (host := "") (Or.inl (hw _ (mg 30 rfl))) Via.refl e7 P3 (g := (mkF m 37 #[.val (.ref sa), .val (.ref sb), .val (.ref sb)] [(.ref sa)])) rfl rfl (hb hby d31_37)
    refine Go.by st8 ?_
    show Go p e below _ (T8.setTop (mkF m 40 #[.val (.ref sa), .val (.ref sb), .val (.ref sb)] [(.ref xa)]))
    refine Go.by (fun t k => XS.aloadN X8.here hx rfl (hb hby d31_40) rfl rfl k) ?_
    show Go p e below _ (T8.setTop (mkF m 41 #[.val (.ref sa), .val (.ref sb), .val (.ref sb)] [(.ref sb), (.ref xa)]))
    obtain ⟨T9, X9, e9, st9⟩ := getF X8 hx hZ hown (host := "") (Or.inl (hw _ (mg 30 rfl))) Via.refl e8 P7 (g := (mkF m 41 #[.val (.ref sa), .val (.ref sb), .val (.ref sb)] [(.ref sb), (.ref xa)])) rfl rfl (hb hby d31_41)
    refine Go.by st9 ?_
    show Go p e below _ (T9.setTop (mkF m 44 #[.val (.ref sa), .val (.ref sb), .val (.ref sb)] [(.ref xb), (.ref xa)]))
    obtain ⟨_, _, ⟨T10, L10, k10, n10⟩, -, X10, ⟨Lc10, hQ10, l10, y10, z10⟩, st10⟩ := Jvm.LawKit.callS X9 hx (y := (⟨"java/lang/StringLatin1", "equals", "([B[B)Z"⟩ : MethodName)) hown (mvT hZ (hw _ (mg 145 rfl))) (mvT hZ (hw _ (mg 146 rfl))) (mvT hZ (hw _ (mg 33 rfl))) (mvT hZ (hw _ (mg 147 rfl))) (by decide) (backOf (W := 0) (lat_eq l Z a0 hw [] xa xb ka kb zz vs h0 n0 O0 P4 P8) hZ (hw _ (mg 147 rfl)) (hw _ (mg 33 rfl)) (by decide) (by decide)) (g := (mkF m 44 #[.val (.ref sa), .val (.ref sb), .val (.ref sb)] [(.ref xb), (.ref xa)])) rfl (by rw [hml]; rfl) (argsL := [(.ref xa), (.ref xb)]) (rest := []) (lenOf pd_22 rfl) rfl (by show 2 * 0 + _ ≤ _; exact Nat.le_of_eq rfl) (hb hby d31_44) (fun _ _ => ⟨rfl, e9, (by decide : 0 + 0 ≤ _), (by decide : 0 + 0 ≤ _)⟩)
    dsimp only [Pt.U, Pt.locs, Pt.cells, Pt.slots] at X10 l10 y10 z10 st10 hQ10
    subst y10 z10
    obtain ⟨rfl, N10q, e10⟩ := hQ10
    have N10 : Fr n0 L10 := by rw [l10]; exact Fr.app N0 N10q
    have X10 := own_mr X10 0 0 (by decide) (by decide)
    refine Go.by st10 ?_
    show Go p e below _ (T10.setTop (mkF m 47 #[.val (.ref sa), .val (.ref sb), .val (.ref sb)] [(.int 1)]))
    refine Go.by (fun t k => XS.ifNo X10.here hx rfl (hb hby d31_47) rfl ((if0 _ _).trans (feq (by decide : ¬ ((1 : Int32) = (0 : Int32)))).1) (XS.iconst X10.here hx rfl (hb hby d31_50) (XS.goto X10.here hx rfl (pc0 := 51) (pc' := 55) rfl (hb hby d31_51) (by decide) (by decide) k))) ?_
    show Go p e below _ (T10.setTop (mkF m 55 #[.val (.ref sa), .val (.ref sb), .val (.ref sb)] [(.int 1)]))
    have hq : Q_str_eq Z sa sb xa xb ka kb zz vs cs h0 n0 (some (.int (nar .boolean (1 : Int32)))) h0 _ := ⟨rfl, N10, rfl⟩
    exact Go.retN X10 hx (t := .boolean) Bd.returns (by simp) hlk (hb hby d31_55) (by decide) (by decide) (by rw [e10]; exact hq)
theorem pd_23 : parseMethodDescriptor "(IIICCJ)C" = some ⟨[.int, .int, .int, .char, .char, .long], some .char⟩ := by decide +kernel
theorem pd_24 : parseMethodDescriptor "([C)V" = some ⟨[(.array .char)], none⟩ := by decide +kernel
theorem pd_25 : parseMethodDescriptor "(Ljava/lang/String;)Ljava/lang/String;" = some ⟨[(.object "java/lang/String")], some (.object "java/lang/String")⟩ := by decide +kernel
theorem pd_26 : parseMethodDescriptor "(Ljava/lang/Object;)Z" = some ⟨[(.object "java/lang/Object")], some .boolean⟩ := by decide +kernel
theorem ef_law (m : MethodId) (ia : Int32) (ib : Int32) (ip : Int64) : entryFrame m #[(.int ia), (.int ib), (.long ip)] maxLocals = mkF m 0 #[.val (.int ia), .val (.int ib), .val (.long ip), .second, .unset, .unset, .unset, .unset, .unset, .unset, .unset, .unset] [] := by first | (simp [entryFrame, mkF, argsToLocals, Value.category, maxLocals]; done) | rfl
def Q_law (Z : State) (ia : Int32) (ib : Int32) (ip : Int64) (cs : Int32) (fm : Value) (h0 : Heap) (n0 : Nat) (v : Option Value) (h : Heap) (L : List Loc) : Prop := v = some (.int 1) ∧ Fr n0 L ∧ Keep h0 h []
set_option maxRecDepth 65536 in
set_option maxHeartbeats 40000000 in
theorem law (l : Launch) (Z : State) (a0 : Array Value) (hw : ∀ d ∈ tables_1, d.before a0 Z = true) (ws : List Jvm.Cond) (ia : Int32) (ib : Int32) (ip : Int64) (cs : Int32) (fm : Value) (h0 : Heap) (n0 : Nat) (O0 : Old Z n0 h0) (P0 : Sta Z Z.heap "java/lang/String" "COMPACT_STRINGS" "Z" (.int cs)) (P1 : Sta Z Z.heap "jdk/internal/util/Preconditions" "SIOOBE_FORMATTER" "Ljava/util/function/BiFunction;" fm) (hcs : cs ≠ (0 : Int32)) (hfm : fm.isRef = true) :
    MetFree l x (head1 (Jvm.Cond.code x code maxLocals ret :: ws) room_1) (fun a U => a = #[(.int ia), (.int ib), (.long ip)] ∧ Z.Warmed39 U.vm ∧ U.heap = h0 ∧ CHv Z own_EL U.vm h0) (fun _ _ _ _ _ => True) (fun _ U o U' => ∃ v L, o = .returned v ∧ Q_law Z ia ib ip cs fm h0 n0 v U'.heap L ∧ CHr Z own_EL U.vm U.heap U'.vm U'.heap ∧ ReturnedEndW U o U' L room_1.cells room_1.slots) := by
  refine MetFree.of_bodySF (plainFor_of_name pn_0) hisR ?_
  intro p e s m args below meth c s₁ Bd hml0 hP hK
  obtain ⟨rfl, hZ, hh, hCH⟩ := hP
  have hx := Bd.exec
  have hby := Bd.bytes
  have hml : c.maxLocals = 12 := hml0
  have hown : s.vm.findClass "com/example/bare_lock/barelock/zookeeper/LockPathsChrootPinLaw" = some m.cls := findClass_of_methodNamed Bd.named
  have hnm := (name_of_methodNamed Bd.named Bd.method).1
  have hlk := BodyLoose.notSynchronized Bd
  have X0 : Stand p l e room_1 (s.setVm s.vm) m #[(.int ia), (.int ib), (.long ip)] below meth c s₁ [] 0 0 := Stand.of_body Bd
  have e0 : s₁.heap = h0 := by rw [← hh, Bd.state]; rfl
  have N0 := Fr.nil n0
  have hS : s.Since s.vm h0.size := (State.WarmedH.refl s).since _
  have hk0 : h0.size ≤ h0.size := Nat.le_refl _
  have wS : ∀ a ∈ Bundle.stringAtoms, a.before a0 Z = true := fun a q => hw a (own_sA a q)
  have hEL : EW Z a0 own_EL := own_EW hw
  have hR0 : CHr Z own_EL s.vm h0 s.vm h0 := CHr.refl hCH
  refine Go.start (P := fun o U' => ∃ v L, o = .returned v ∧ Q_law Z ia ib ip cs fm h0 n0 v U'.heap L ∧ CHr Z own_EL s.vm s.heap U'.vm U'.heap ∧ ReturnedEndW s o U' L room_1.cells room_1.slots) (ef_law m ia ib ip) ?_
  show Go p e below _ (s₁.setTop (mkF m 0 #[qI ia, qI ib, .val (.long ip), .second, qU, qU, qU, qU, qU, qU, qU, qU] []))
  refine Go.by (fun t k => XS.iconst X0.here hx rfl (hb hby at_0) (XS.iloadN X0.here hx rfl (hb hby at_1) rfl k)) ?_
  show Go p e below _ (s₁.setTop (mkF m 2 #[qI ia, qI ib, .val (.long ip), .second, qU, qU, qU, qU, qU, qU, qU, qU] [(.int ia), (.int 2)]))
  refine Go.by (fun t k => X0.ldcInt hx hown (mvT hZ (hw _ (mg 0 rfl))) (g := (mkF m 2 #[qI ia, qI ib, .val (.long ip), .second, qU, qU, qU, qU, qU, qU, qU, qU] [(.int ia), (.int 2)])) rfl (hb hby at_2) t k) ?_
  show Go p e below _ (s₁.setTop (mkF m 4 #[qI ia, qI ib, .val (.long ip), .second, qU, qU, qU, qU, qU, qU, qU, qU] [(.int 2147483647), (.int ia), (.int 2)]))
  refine Go.by (fun t k => XS.iand X0.here hx rfl (hb hby at_4) rfl (XS.iconst X0.here hx rfl (hb hby at_5) k)) ?_
  show Go p e below _ (s₁.setTop (mkF m 6 #[qI ia, qI ib, .val (.long ip), .second, qU, qU, qU, qU, qU, qU, qU, qU] [(.int 3), (.int (ia &&& (2147483647 : Int32))), (.int 2)]))
  refine Go.by (fun t k => iremM X0 hx rfl (hb hby at_6) rfl (by decide) k) ?_
  show Go p e below _ (s₁.setTop (mkF m 7 #[qI ia, qI ib, .val (.long ip), .second, qU, qU, qU, qU, qU, qU, qU, qU] [(.int ((ia &&& (2147483647 : Int32)) % (3 : Int32))), (.int 2)]))
  refine Go.by (fun t k => XS.imul X0.here hx rfl (hb hby at_7) rfl k) ?_
  show Go p e below _ (s₁.setTop (mkF m 8 #[qI ia, qI ib, .val (.long ip), .second, qU, qU, qU, qU, qU, qU, qU, qU] [(.int ((2 : Int32) * ((ia &&& (2147483647 : Int32)) % (3 : Int32))))]))
  rcases own_k3 ia with hk | hk | hk
  · skip
    rw [show s₁.setTop (mkF m 8 #[qI ia, qI ib, .val (.long ip), .second, qU, qU, qU, qU, qU, qU, qU, qU] [(.int ((2 : Int32) * ((ia &&& (2147483647 : Int32)) % (3 : Int32))))]) = s₁.setTop (mkF m 8 #[qI ia, qI ib, .val (.long ip), .second, qU, qU, qU, qU, qU, qU, qU, qU] [(.int 0)]) from by rw [hk]]
    show Go p e below _ (s₁.setTop (mkF m 8 #[qI ia, qI ib, .val (.long ip), .second, qU, qU, qU, qU, qU, qU, qU, qU] [(.int 0)]))
    refine Go.by (fun t k => XS.istore X0.here hx rfl (hb hby at_8) rfl (l' := #[qI ia, qI ib, .val (.long ip), .second, qI 0, qU, qU, qU, qU, qU, qU, qU]) rfl (XS.iconst X0.here hx rfl (hb hby at_10) (XS.iloadN X0.here hx rfl (hb hby at_11) rfl (XS.iconst X0.here hx rfl (hb hby at_12) (XS.iushr X0.here hx rfl (hb hby at_13) rfl k))))) ?_
    show Go p e below _ (s₁.setTop (mkF m 14 #[qI ia, qI ib, .val (.long ip), .second, qI 0, qU, qU, qU, qU, qU, qU, qU] [(.int ((ia.toUInt32 >>> ((4 : Int32) &&& 31).toUInt32).toInt32)), (.int 1)]))
    refine Go.by (fun t k => X0.ldcInt hx hown (mvT hZ (hw _ (mg 1 rfl))) (g := (mkF m 14 #[qI ia, qI ib, .val (.long ip), .second, qI 0, qU, qU, qU, qU, qU, qU, qU] [(.int ((ia.toUInt32 >>> ((4 : Int32) &&& 31).toUInt32).toInt32)), (.int 1)])) rfl (hb hby at_14) t k) ?_
    show Go p e below _ (s₁.setTop (mkF m 16 #[qI ia, qI ib, .val (.long ip), .second, qI 0, qU, qU, qU, qU, qU, qU, qU] [(.int 65535), (.int ((ia.toUInt32 >>> ((4 : Int32) &&& 31).toUInt32).toInt32)), (.int 1)]))
    refine Go.by (fun t k => XS.iand X0.here hx rfl (hb hby at_16) rfl (XS.iconst X0.here hx rfl (hb hby at_17) (XS.iload X0.here hx rfl (hb hby at_18) rfl (XS.isub X0.here hx rfl (hb hby at_20) rfl k)))) ?_
    show Go p e below _ (s₁.setTop (mkF m 21 #[qI ia, qI ib, .val (.long ip), .second, qI 0, qU, qU, qU, qU, qU, qU, qU] [(.int 5), (.int (((ia.toUInt32 >>> ((4 : Int32) &&& 31).toUInt32).toInt32) &&& (65535 : Int32))), (.int 1)]))
    refine Go.by (fun t k => iremM X0 hx rfl (hb hby at_21) rfl (by decide) k) ?_
    show Go p e below _ (s₁.setTop (mkF m 22 #[qI ia, qI ib, .val (.long ip), .second, qI 0, qU, qU, qU, qU, qU, qU, qU] [(.int ((((ia.toUInt32 >>> ((4 : Int32) &&& 31).toUInt32).toInt32) &&& (65535 : Int32)) % (5 : Int32))), (.int 1)]))
    refine Go.by (fun t k => XS.iadd X0.here hx rfl (hb hby at_22) rfl k) ?_
    show Go p e below _ (s₁.setTop (mkF m 23 #[qI ia, qI ib, .val (.long ip), .second, qI 0, qU, qU, qU, qU, qU, qU, qU] [(.int ((1 : Int32) + ((((ia.toUInt32 >>> ((4 : Int32) &&& 31).toUInt32).toInt32) &&& (65535 : Int32)) % (5 : Int32))))]))
    obtain ⟨ja, e_ja⟩ : ∃ q : Int32, q = ((1 : Int32) + ((((ia.toUInt32 >>> ((4 : Int32) &&& 31).toUInt32).toInt32) &&& (65535 : Int32)) % (5 : Int32))) := ⟨_, rfl⟩
    have hja : ja = (1 : Int32) ∨ ja = (2 : Int32) ∨ ja = (3 : Int32) ∨ ja = (4 : Int32) ∨ ja = (5 : Int32) := by rw [e_ja]; exact own_a5 _
    rw [show s₁.setTop (mkF m 23 #[qI ia, qI ib, .val (.long ip), .second, qI 0, qU, qU, qU, qU, qU, qU, qU] [(.int ((1 : Int32) + ((((ia.toUInt32 >>> ((4 : Int32) &&& 31).toUInt32).toInt32) &&& (65535 : Int32)) % (5 : Int32))))]) = s₁.setTop (mkF m 23 #[qI ia, qI ib, .val (.long ip), .second, qI 0, qU, qU, qU, qU, qU, qU, qU] [(.int ja)]) from by rw [e_ja]]
    show Go p e below _ (s₁.setTop (mkF m 23 #[qI ia, qI ib, .val (.long ip), .second, qI 0, qU, qU, qU, qU, qU, qU, qU] [(.int ja)]))
    refine Go.by (fun t k => XS.istore X0.here hx rfl (hb hby at_23) rfl (l' := #[qI ia, qI ib, .val (.long ip), .second, qI 0, qI ja, qU, qU, qU, qU, qU, qU]) rfl (XS.iloadN X0.here hx rfl (hb hby at_25) rfl k)) ?_
    show Go p e below _ (s₁.setTop (mkF m 26 #[qI ia, qI ib, .val (.long ip), .second, qI 0, qI ja, qU, qU, qU, qU, qU, qU] [(.int ib)]))
    obtain ⟨_, _, ⟨T1, L1, k1, n1⟩, -, X1, ⟨Lc1, hQ1, l1, y1, z1⟩, st1⟩ := Jvm.LawKit.callS X0 hx (y := (⟨"com/example/bare_lock/barelock/zookeeper/LockPathsChrootPinLaw", "chrootChar", "(I)C"⟩ : MethodName)) hown (mvT hZ (hw _ (mg 2 rfl))) (mvT hZ (hw _ (mg 3 rfl))) (mvT hZ (hw _ (mg 4 rfl))) (mvT hZ (hw _ (mg 5 rfl))) (by decide) (backOf (W := 0) (cchar l Z a0 hw [] ib h0 n0 O0) hZ (hw _ (mg 5 rfl)) (hw _ (mg 4 rfl)) (by decide) (by decide)) (g := (mkF m 26 #[qI ia, qI ib, .val (.long ip), .second, qI 0, qI ja, qU, qU, qU, qU, qU, qU] [(.int ib)])) rfl (by rw [hml]; rfl) (argsL := [(.int ib)]) (rest := []) (lenOf pd_4 rfl) rfl (by show 2 * 0 + _ ≤ _; exact Nat.le_of_eq rfl) (hb hby at_26) (fun _ _ => ⟨rfl, e0, (by decide : 0 + 0 ≤ _), (by decide : 0 + 0 ≤ _)⟩)
    dsimp only [Pt.U, Pt.locs, Pt.cells, Pt.slots] at X1 l1 y1 z1 st1 hQ1
    subst y1 z1
    obtain ⟨xc_1, rfl, N1q, e1, hxx_1⟩ := hQ1
    have N1 : Fr n0 L1 := by rw [l1]; exact Fr.app N0 N1q
    have X1 := own_mr X1 0 0 (by decide) (by decide)
    refine Go.by st1 ?_
    show Go p e below _ (T1.setTop (mkF m 29 #[qI ia, qI ib, .val (.long ip), .second, qI 0, qI ja, qU, qU, qU, qU, qU, qU] [(.int xc_1)]))
    refine Go.by (fun t k => XS.istore X1.here hx rfl (hb hby at_29) rfl (l' := #[qI ia, qI ib, .val (.long ip), .second, qI 0, qI ja, qI xc_1, qU, qU, qU, qU, qU]) rfl (XS.iloadN X1.here hx rfl (hb hby at_31) rfl (XS.bipush X1.here hx rfl (hb hby at_32) (XS.iushr X1.here hx rfl (hb hby at_34) rfl k)))) ?_
    show Go p e below _ (T1.setTop (mkF m 35 #[qI ia, qI ib, .val (.long ip), .second, qI 0, qI ja, qI xc_1, qU, qU, qU, qU, qU] [(.int ((ib.toUInt32 >>> ((8 : Int32) &&& 31).toUInt32).toInt32))]))
    obtain ⟨_, _, ⟨T2, L2, k2, n2⟩, -, X2, ⟨Lc2, hQ2, l2, y2, z2⟩, st2⟩ := Jvm.LawKit.callS X1 hx (y := (⟨"com/example/bare_lock/barelock/zookeeper/LockPathsChrootPinLaw", "chrootChar", "(I)C"⟩ : MethodName)) hown (mvT hZ (hw _ (mg 2 rfl))) (mvT hZ (hw _ (mg 3 rfl))) (mvT hZ (hw _ (mg 4 rfl))) (mvT hZ (hw _ (mg 5 rfl))) (by decide) (backOf (W := 0) (cchar l Z a0 hw [] ((ib.toUInt32 >>> ((8 : Int32) &&& 31).toUInt32).toInt32) h0 n0 O0) hZ (hw _ (mg 5 rfl)) (hw _ (mg 4 rfl)) (by decide) (by decide)) (g := (mkF m 35 #[qI ia, qI ib, .val (.long ip), .second, qI 0, qI ja, qI xc_1, qU, qU, qU, qU, qU] [(.int ((ib.toUInt32 >>> ((8 : Int32) &&& 31).toUInt32).toInt32))])) rfl (by rw [hml]; rfl) (argsL := [(.int ((ib.toUInt32 >>> ((8 : Int32) &&& 31).toUInt32).toInt32))]) (rest := []) (lenOf pd_4 rfl) rfl (by show 2 * 0 + _ ≤ _; exact Nat.le_of_eq rfl) (hb hby at_35) (fun _ _ => ⟨rfl, e1, (by decide : 0 + 0 ≤ _), (by decide : 0 + 0 ≤ _)⟩)
    dsimp only [Pt.U, Pt.locs, Pt.cells, Pt.slots] at X2 l2 y2 z2 st2 hQ2
    subst y2 z2
    obtain ⟨xc_2, rfl, N2q, e2, hxx_2⟩ := hQ2
    have N2 : Fr n0 L2 := by rw [l2]; exact Fr.app N1 N2q
    have X2 := own_mr X2 0 0 (by decide) (by decide)
    refine Go.by st2 ?_
    show Go p e below _ (T2.setTop (mkF m 38 #[qI ia, qI ib, .val (.long ip), .second, qI 0, qI ja, qI xc_1, qU, qU, qU, qU, qU] [(.int xc_2)]))
    refine Go.by (fun t k => XS.istore X2.here hx rfl (hb hby at_38) rfl (l' := #[qI ia, qI ib, .val (.long ip), .second, qI 0, qI ja, qI xc_1, qI xc_2, qU, qU, qU, qU]) rfl (XS.bipush X2.here hx rfl (hb hby at_40) k)) ?_
    show Go p e below _ (T2.setTop (mkF m 42 #[qI ia, qI ib, .val (.long ip), .second, qI 0, qI ja, qI xc_1, qI xc_2, qU, qU, qU, qU] [(.int 18)]))
    obtain ⟨T3, h3, k3, X3, e3, E3, A3, Q3, st3⟩ := newPE X2 hx hZ (hw _ (mg 6 rfl)) e2 (g := (mkF m 42 #[qI ia, qI ib, .val (.long ip), .second, qI 0, qI ja, qI xc_1, qI xc_2, qU, qU, qU, qU] [(.int 18)])) rfl (hb hby at_42) rfl (by decide) (cap := 18) (by decide) (by decide) (by decide) (by decide) (ad := "[C") (by decide)
    obtain ⟨b3, g3⟩ : ∃ z, z = h0.size := ⟨_, rfl⟩
    rw [← g3] at A3 Q3 st3
    have gl3 : h0.size ≤ b3 := Nat.le_of_eq g3.symm
    have ge3 : n0 ≤ b3 := Nat.le_trans (own_old_size O0) gl3
    have sz3 : h0.size ≤ b3 := Nat.le_trans (Keep.refl h0 []).1 gl3
    have F4 : Arv Z h3 b3 k3 .char (18 : Int32) [(.int 0), (.int 0), (.int 0), (.int 0), (.int 0), (.int 0), (.int 0), (.int 0), (.int 0), (.int 0), (.int 0), (.int 0), (.int 0), (.int 0), (.int 0), (.int 0), (.int 0), (.int 0)] (.int 0) := (Arv.new A3 (by decide)).pad (pad_rep [] (.int 0) 18)
    refine Go.by st3 ?_
    show Go p e below _ (T3.setTop (mkF m 44 #[qI ia, qI ib, .val (.long ip), .second, qI 0, qI ja, qI xc_1, qI xc_2, qU, qU, qU, qU] [(.ref b3)]))
    refine Go.by (fun t k => XS.dup X3.here hx rfl (hb hby at_44) rfl rfl (XS.iconst X3.here hx rfl (hb hby at_45) (XS.iconst X3.here hx rfl (hb hby at_46) (XS.iload X3.here hx rfl (hb hby at_47) rfl (XS.iload X3.here hx rfl (hb hby at_49) rfl (XS.iload X3.here hx rfl (hb hby at_51) rfl (XS.iload X3.here hx rfl (hb hby at_53) rfl (XS.lloadN X3.here hx rfl (hb hby at_55) rfl k)))))))) ?_
    show Go p e below _ (T3.setTop (mkF m 56 #[qI ia, qI ib, .val (.long ip), .second, qI 0, qI ja, qI xc_1, qI xc_2, qU, qU, qU, qU] [(.long ip), (.int xc_2), (.int xc_1), (.int ja), (.int 0), (.int 0), (.int 0), (.ref b3), (.ref b3)]))
    have F6 : Old Z n0 h3 := (O0.ext E3)
    have F7 : Keep h0 h3 [] := ((Keep.refl h0 []).ext E3)
    have F8 : h0.size ≤ h3.size := (Nat.le_trans hk0 E3.1)
    have F9 : CHr Z own_EL s.vm h0 s.vm h3 := (own_chE hR0 E3)
    obtain ⟨_, _, ⟨T5, L5, k5, n5⟩, -, X5, sn5, gr5, ⟨Lc5, hQ5, l5, y5, z5, C5⟩, st5⟩ := callSS X3 hx (y := (⟨"com/example/bare_lock/barelock/zookeeper/LockPathsChrootPinLaw", "at", "(IIICCJ)C"⟩ : MethodName)) hown (mvT hZ (hw _ (mg 7 rfl))) (mvT hZ (hw _ (mg 8 rfl))) (mvT hZ (hw _ (mg 4 rfl))) (mvT hZ (hw _ (mg 9 rfl))) (by decide) (backOfSH (W := 3) (at_lit l Z a0 hw [] (0 : Int32) (0 : Int32) ja xc_1 xc_2 ip (47 : Int32) cs fm h3 n0 F6 P0 P1 hcs (by decide) (by decide) (by decide) (own_gd (n := 0) (by decide) rfl) hfm) hZ (hw _ (mg 9 rfl)) (hw _ (mg 4 rfl)) (by decide) (by decide) hEL F9.1) (g := (mkF m 56 #[qI ia, qI ib, .val (.long ip), .second, qI 0, qI ja, qI xc_1, qI xc_2, qU, qU, qU, qU] [(.long ip), (.int xc_2), (.int xc_1), (.int ja), (.int 0), (.int 0), (.int 0), (.ref b3), (.ref b3)])) rfl (by rw [hml]; rfl) (argsL := [(.int 0), (.int 0), (.int ja), (.int xc_1), (.int xc_2), (.long ip)]) (rest := [(.int 0), (.ref b3), (.ref b3)]) (lenOf pd_23 rfl) rfl (by show 2 * 0 + _ ≤ _; exact Nat.le_of_eq rfl) (hb hby at_56) (fun _ _ => ⟨rfl, e3, (by decide : 1 + 2 ≤ _), (by decide : 18 + 48 ≤ _)⟩)
    dsimp only [Pt.U, Pt.locs, Pt.cells, Pt.slots] at X5 l5 y5 z5 st5 hQ5 sn5 gr5 C5
    subst y5 z5
    obtain ⟨X5, hS, hZ, hown⟩ := rebS hS (n1 := T3.heap.size) (by rw [e3]; exact F8) X5 sn5 gr5 hZ hown
    have hk5 : T5.heap.size ≤ T5.heap.size := Nat.le_refl _
    have A5 := F9.trans C5
    obtain ⟨rfl, N5q, K5⟩ := hQ5
    have N5 : Fr n0 L5 := by rw [l5]; exact Fr.app N2 N5q
    have X5 := own_mr X5 3 66 (by decide) (by decide)
    refine Go.tr st5 ?_
    show Go p e below _ (T5.setTop (mkF m 59 #[qI ia, qI ib, .val (.long ip), .second, qI 0, qI ja, qI xc_1, qI xc_2, qU, qU, qU, qU] [(.int (own_lc (47 : Int32))), (.int 0), (.ref b3), (.ref b3)]))
    rw [show T5.setTop (mkF m 59 #[qI ia, qI ib, .val (.long ip), .second, qI 0, qI ja, qI xc_1, qI xc_2, qU, qU, qU, qU] [(.int (own_lc (47 : Int32))), (.int 0), (.ref b3), (.ref b3)]) = T5.setTop (mkF m 59 #[qI ia, qI ib, .val (.long ip), .second, qI 0, qI ja, qI xc_1, qI xc_2, qU, qU, qU, qU] [(.int 47), (.int 0), (.ref b3), (.ref b3)]) from by rw [show own_lc (47 : Int32) = (47 : Int32) from by decide]]
    show Go p e below _ (T5.setTop (mkF m 59 #[qI ia, qI ib, .val (.long ip), .second, qI 0, qI ja, qI xc_1, qI xc_2, qU, qU, qU, qU] [(.int 47), (.int 0), (.ref b3), (.ref b3)]))
    have F10 : Exa Z T5.heap b3 "[C" := (Q3.keep K5)
    have F11 : Arv Z T5.heap b3 k3 .char (18 : Int32) [(.int 0), (.int 0), (.int 0), (.int 0), (.int 0), (.int 0), (.int 0), (.int 0), (.int 0), (.int 0), (.int 0), (.int 0), (.int 0), (.int 0), (.int 0), (.int 0), (.int 0), (.int 0)] (.int 0) := (F4.keep K5 nin0)
    obtain ⟨cl12, Ar12, qk12, sz12, nn12, Ha12, Gf12⟩ := id F11
    have hin13 : ¬ ((0 : Int32) < 0 ∨ cl12.slots.size ≤ ((0 : Int32)).toNatClampNeg) := inb_of sz12 ⟨by decide, by decide⟩
    obtain ⟨T14, h14, X14, e14, W14, st14⟩ := stC X5 hx hZ rfl Ar12 (j := (0 : Int32)) hin13 (g := (mkF m 59 #[qI ia, qI ib, .val (.long ip), .second, qI 0, qI ja, qI xc_1, qI xc_2, qU, qU, qU, qU] [(.int 47), (.int 0), (.ref b3), (.ref b3)])) rfl rfl (hb hby at_59)
    have N14 := Fr.snoc X14 N5 ge3
    have F15 : Arv Z h14 b3 k3 .char (18 : Int32) [(.int 47), (.int 0), (.int 0), (.int 0), (.int 0), (.int 0), (.int 0), (.int 0), (.int 0), (.int 0), (.int 0), (.int 0), (.int 0), (.int 0), (.int 0), (.int 0), (.int 0), (.int 0)] (.int 0) := Arv.set Ar12 qk12 sz12 nn12 Ha12 Gf12 (fits_nar_char _) W14 0 rfl (Nat.le_of_ble_eq_true rfl)
    refine Go.by st14 ?_
    show Go p e below _ (T14.setTop (mkF m 60 #[qI ia, qI ib, .val (.long ip), .second, qI 0, qI ja, qI xc_1, qI xc_2, qU, qU, qU, qU] [(.ref b3)]))
    refine Go.by (fun t k => XS.dup X14.here hx rfl (hb hby at_60) rfl rfl (XS.iconst X14.here hx rfl (hb hby at_61) (XS.iconst X14.here hx rfl (hb hby at_62) (XS.iload X14.here hx rfl (hb hby at_63) rfl (XS.iload X14.here hx rfl (hb hby at_65) rfl (XS.iload X14.here hx rfl (hb hby at_67) rfl (XS.iload X14.here hx rfl (hb hby at_69) rfl (XS.lloadN X14.here hx rfl (hb hby at_71) rfl k)))))))) ?_
    show Go p e below _ (T14.setTop (mkF m 72 #[qI ia, qI ib, .val (.long ip), .second, qI 0, qI ja, qI xc_1, qI xc_2, qU, qU, qU, qU] [(.long ip), (.int xc_2), (.int xc_1), (.int ja), (.int 0), (.int 1), (.int 1), (.ref b3), (.ref b3)]))
    have F17 : Old Z n0 h14 := ((F6.keep K5 all0).wr W14 ge3)
    have F18 : Keep h0 h14 [] := ((F7.trans K5 all0).wr W14 (Or.inr sz3))
    have F19 : T5.heap.size ≤ h14.size := (Nat.le_trans hk5 (Nat.le_of_eq W14.size.symm))
    have F20 : CHr Z own_EL s.vm h0 T5.vm h14 := (own_chW A5 W14 (Safe.exa hZ.alike F10 (by decide) (by decide)))
    obtain ⟨_, _, ⟨T16, L16, k16, n16⟩, -, X16, sn16, gr16, ⟨Lc16, hQ16, l16, y16, z16, C16⟩, st16⟩ := callSS X14 hx (y := (⟨"com/example/bare_lock/barelock/zookeeper/LockPathsChrootPinLaw", "at", "(IIICCJ)C"⟩ : MethodName)) hown (mvT hZ (hw _ (mg 7 rfl))) (mvT hZ (hw _ (mg 8 rfl))) (mvT hZ (hw _ (mg 4 rfl))) (mvT hZ (hw _ (mg 9 rfl))) (by decide) (backOfSH (W := 3) (at_lit l Z a0 hw [] (1 : Int32) (0 : Int32) ja xc_1 xc_2 ip (98 : Int32) cs fm h14 n0 F17 P0 P1 hcs (by decide) (by decide) (by decide) (own_gd (n := 1) (by decide) rfl) hfm) hZ (hw _ (mg 9 rfl)) (hw _ (mg 4 rfl)) (by decide) (by decide) hEL F20.1) (g := (mkF m 72 #[qI ia, qI ib, .val (.long ip), .second, qI 0, qI ja, qI xc_1, qI xc_2, qU, qU, qU, qU] [(.long ip), (.int xc_2), (.int xc_1), (.int ja), (.int 0), (.int 1), (.int 1), (.ref b3), (.ref b3)])) rfl (by rw [hml]; rfl) (argsL := [(.int 1), (.int 0), (.int ja), (.int xc_1), (.int xc_2), (.long ip)]) (rest := [(.int 1), (.ref b3), (.ref b3)]) (lenOf pd_23 rfl) rfl (by show 2 * 0 + _ ≤ _; exact Nat.le_of_eq rfl) (hb hby at_72) (fun _ _ => ⟨rfl, e14, (by decide : 3 + 2 ≤ _), (by decide : 66 + 48 ≤ _)⟩)
    dsimp only [Pt.U, Pt.locs, Pt.cells, Pt.slots] at X16 l16 y16 z16 st16 hQ16 sn16 gr16 C16
    subst y16 z16
    obtain ⟨X16, hS, hZ, hown⟩ := rebS hS (n1 := T14.heap.size) (by rw [e14]; exact F19) X16 sn16 gr16 hZ hown
    have hk16 : T16.heap.size ≤ T16.heap.size := Nat.le_refl _
    have A16 := F20.trans C16
    obtain ⟨rfl, N16q, K16⟩ := hQ16
    have N16 : Fr n0 L16 := by rw [l16]; exact Fr.app N14 N16q
    have X16 := own_mr X16 5 114 (by decide) (by decide)
    refine Go.tr st16 ?_
    show Go p e below _ (T16.setTop (mkF m 75 #[qI ia, qI ib, .val (.long ip), .second, qI 0, qI ja, qI xc_1, qI xc_2, qU, qU, qU, qU] [(.int (own_lc (98 : Int32))), (.int 1), (.ref b3), (.ref b3)]))
    rw [show T16.setTop (mkF m 75 #[qI ia, qI ib, .val (.long ip), .second, qI 0, qI ja, qI xc_1, qI xc_2, qU, qU, qU, qU] [(.int (own_lc (98 : Int32))), (.int 1), (.ref b3), (.ref b3)]) = T16.setTop (mkF m 75 #[qI ia, qI ib, .val (.long ip), .second, qI 0, qI ja, qI xc_1, qI xc_2, qU, qU, qU, qU] [(.int 98), (.int 1), (.ref b3), (.ref b3)]) from by rw [show own_lc (98 : Int32) = (98 : Int32) from by decide]]
    show Go p e below _ (T16.setTop (mkF m 75 #[qI ia, qI ib, .val (.long ip), .second, qI 0, qI ja, qI xc_1, qI xc_2, qU, qU, qU, qU] [(.int 98), (.int 1), (.ref b3), (.ref b3)]))
    have F21 : Exa Z T16.heap b3 "[C" := ((F10.wr W14).keep K16)
    have F22 : Arv Z T16.heap b3 k3 .char (18 : Int32) [(.int 47), (.int 0), (.int 0), (.int 0), (.int 0), (.int 0), (.int 0), (.int 0), (.int 0), (.int 0), (.int 0), (.int 0), (.int 0), (.int 0), (.int 0), (.int 0), (.int 0), (.int 0)] (.int 0) := (F15.keep K16 nin0)
    obtain ⟨cl23, Ar23, qk23, sz23, nn23, Ha23, Gf23⟩ := id F22
    have hin24 : ¬ ((1 : Int32) < 0 ∨ cl23.slots.size ≤ ((1 : Int32)).toNatClampNeg) := inb_of sz23 ⟨by decide, by decide⟩
    obtain ⟨T25, h25, X25, e25, W25, st25⟩ := stC X16 hx hZ rfl Ar23 (j := (1 : Int32)) hin24 (g := (mkF m 75 #[qI ia, qI ib, .val (.long ip), .second, qI 0, qI ja, qI xc_1, qI xc_2, qU, qU, qU, qU] [(.int 98), (.int 1), (.ref b3), (.ref b3)])) rfl rfl (hb hby at_75)
    have N25 := Fr.snoc X25 N16 ge3
    have F26 : Arv Z h25 b3 k3 .char (18 : Int32) [(.int 47), (.int 98), (.int 0), (.int 0), (.int 0), (.int 0), (.int 0), (.int 0), (.int 0), (.int 0), (.int 0), (.int 0), (.int 0), (.int 0), (.int 0), (.int 0), (.int 0), (.int 0)] (.int 0) := Arv.set Ar23 qk23 sz23 nn23 Ha23 Gf23 (fits_nar_char _) W25 1 rfl (Nat.le_of_ble_eq_true rfl)
    refine Go.by st25 ?_
    show Go p e below _ (T25.setTop (mkF m 76 #[qI ia, qI ib, .val (.long ip), .second, qI 0, qI ja, qI xc_1, qI xc_2, qU, qU, qU, qU] [(.ref b3)]))
    refine Go.by (fun t k => XS.dup X25.here hx rfl (hb hby at_76) rfl rfl (XS.iconst X25.here hx rfl (hb hby at_77) (XS.iconst X25.here hx rfl (hb hby at_78) (XS.iload X25.here hx rfl (hb hby at_79) rfl (XS.iload X25.here hx rfl (hb hby at_81) rfl (XS.iload X25.here hx rfl (hb hby at_83) rfl (XS.iload X25.here hx rfl (hb hby at_85) rfl (XS.lloadN X25.here hx rfl (hb hby at_87) rfl k)))))))) ?_
    show Go p e below _ (T25.setTop (mkF m 88 #[qI ia, qI ib, .val (.long ip), .second, qI 0, qI ja, qI xc_1, qI xc_2, qU, qU, qU, qU] [(.long ip), (.int xc_2), (.int xc_1), (.int ja), (.int 0), (.int 2), (.int 2), (.ref b3), (.ref b3)]))
    have F28 : Old Z n0 h25 := ((F17.keep K16 all0).wr W25 ge3)
    have F29 : Keep h0 h25 [] := ((F18.trans K16 all0).wr W25 (Or.inr sz3))
    have F30 : T16.heap.size ≤ h25.size := (Nat.le_trans hk16 (Nat.le_of_eq W25.size.symm))
    have F31 : CHr Z own_EL s.vm h0 T16.vm h25 := (own_chW A16 W25 (Safe.exa hZ.alike F21 (by decide) (by decide)))
    obtain ⟨_, _, ⟨T27, L27, k27, n27⟩, -, X27, sn27, gr27, ⟨Lc27, hQ27, l27, y27, z27, C27⟩, st27⟩ := callSS X25 hx (y := (⟨"com/example/bare_lock/barelock/zookeeper/LockPathsChrootPinLaw", "at", "(IIICCJ)C"⟩ : MethodName)) hown (mvT hZ (hw _ (mg 7 rfl))) (mvT hZ (hw _ (mg 8 rfl))) (mvT hZ (hw _ (mg 4 rfl))) (mvT hZ (hw _ (mg 9 rfl))) (by decide) (backOfSH (W := 3) (at_lit l Z a0 hw [] (2 : Int32) (0 : Int32) ja xc_1 xc_2 ip (97 : Int32) cs fm h25 n0 F28 P0 P1 hcs (by decide) (by decide) (by decide) (own_gd (n := 2) (by decide) rfl) hfm) hZ (hw _ (mg 9 rfl)) (hw _ (mg 4 rfl)) (by decide) (by decide) hEL F31.1) (g := (mkF m 88 #[qI ia, qI ib, .val (.long ip), .second, qI 0, qI ja, qI xc_1, qI xc_2, qU, qU, qU, qU] [(.long ip), (.int xc_2), (.int xc_1), (.int ja), (.int 0), (.int 2), (.int 2), (.ref b3), (.ref b3)])) rfl (by rw [hml]; rfl) (argsL := [(.int 2), (.int 0), (.int ja), (.int xc_1), (.int xc_2), (.long ip)]) (rest := [(.int 2), (.ref b3), (.ref b3)]) (lenOf pd_23 rfl) rfl (by show 2 * 0 + _ ≤ _; exact Nat.le_of_eq rfl) (hb hby at_88) (fun _ _ => ⟨rfl, e25, (by decide : 5 + 2 ≤ _), (by decide : 114 + 48 ≤ _)⟩)
    dsimp only [Pt.U, Pt.locs, Pt.cells, Pt.slots] at X27 l27 y27 z27 st27 hQ27 sn27 gr27 C27
    subst y27 z27
    obtain ⟨X27, hS, hZ, hown⟩ := rebS hS (n1 := T25.heap.size) (by rw [e25]; exact F30) X27 sn27 gr27 hZ hown
    have hk27 : T27.heap.size ≤ T27.heap.size := Nat.le_refl _
    have A27 := F31.trans C27
    obtain ⟨rfl, N27q, K27⟩ := hQ27
    have N27 : Fr n0 L27 := by rw [l27]; exact Fr.app N25 N27q
    have X27 := own_mr X27 7 162 (by decide) (by decide)
    refine Go.tr st27 ?_
    show Go p e below _ (T27.setTop (mkF m 91 #[qI ia, qI ib, .val (.long ip), .second, qI 0, qI ja, qI xc_1, qI xc_2, qU, qU, qU, qU] [(.int (own_lc (97 : Int32))), (.int 2), (.ref b3), (.ref b3)]))
    rw [show T27.setTop (mkF m 91 #[qI ia, qI ib, .val (.long ip), .second, qI 0, qI ja, qI xc_1, qI xc_2, qU, qU, qU, qU] [(.int (own_lc (97 : Int32))), (.int 2), (.ref b3), (.ref b3)]) = T27.setTop (mkF m 91 #[qI ia, qI ib, .val (.long ip), .second, qI 0, qI ja, qI xc_1, qI xc_2, qU, qU, qU, qU] [(.int 97), (.int 2), (.ref b3), (.ref b3)]) from by rw [show own_lc (97 : Int32) = (97 : Int32) from by decide]]
    show Go p e below _ (T27.setTop (mkF m 91 #[qI ia, qI ib, .val (.long ip), .second, qI 0, qI ja, qI xc_1, qI xc_2, qU, qU, qU, qU] [(.int 97), (.int 2), (.ref b3), (.ref b3)]))
    have F32 : Exa Z T27.heap b3 "[C" := ((F21.wr W25).keep K27)
    have F33 : Arv Z T27.heap b3 k3 .char (18 : Int32) [(.int 47), (.int 98), (.int 0), (.int 0), (.int 0), (.int 0), (.int 0), (.int 0), (.int 0), (.int 0), (.int 0), (.int 0), (.int 0), (.int 0), (.int 0), (.int 0), (.int 0), (.int 0)] (.int 0) := (F26.keep K27 nin0)
    obtain ⟨cl34, Ar34, qk34, sz34, nn34, Ha34, Gf34⟩ := id F33
    have hin35 : ¬ ((2 : Int32) < 0 ∨ cl34.slots.size ≤ ((2 : Int32)).toNatClampNeg) := inb_of sz34 ⟨by decide, by decide⟩
    obtain ⟨T36, h36, X36, e36, W36, st36⟩ := stC X27 hx hZ rfl Ar34 (j := (2 : Int32)) hin35 (g := (mkF m 91 #[qI ia, qI ib, .val (.long ip), .second, qI 0, qI ja, qI xc_1, qI xc_2, qU, qU, qU, qU] [(.int 97), (.int 2), (.ref b3), (.ref b3)])) rfl rfl (hb hby at_91)
    have N36 := Fr.snoc X36 N27 ge3
    have F37 : Arv Z h36 b3 k3 .char (18 : Int32) [(.int 47), (.int 98), (.int 97), (.int 0), (.int 0), (.int 0), (.int 0), (.int 0), (.int 0), (.int 0), (.int 0), (.int 0), (.int 0), (.int 0), (.int 0), (.int 0), (.int 0), (.int 0)] (.int 0) := Arv.set Ar34 qk34 sz34 nn34 Ha34 Gf34 (fits_nar_char _) W36 2 rfl (Nat.le_of_ble_eq_true rfl)
    refine Go.by st36 ?_
    show Go p e below _ (T36.setTop (mkF m 92 #[qI ia, qI ib, .val (.long ip), .second, qI 0, qI ja, qI xc_1, qI xc_2, qU, qU, qU, qU] [(.ref b3)]))
    refine Go.by (fun t k => XS.dup X36.here hx rfl (hb hby at_92) rfl rfl (XS.iconst X36.here hx rfl (hb hby at_93) (XS.iconst X36.here hx rfl (hb hby at_94) (XS.iload X36.here hx rfl (hb hby at_95) rfl (XS.iload X36.here hx rfl (hb hby at_97) rfl (XS.iload X36.here hx rfl (hb hby at_99) rfl (XS.iload X36.here hx rfl (hb hby at_101) rfl (XS.lloadN X36.here hx rfl (hb hby at_103) rfl k)))))))) ?_
    show Go p e below _ (T36.setTop (mkF m 104 #[qI ia, qI ib, .val (.long ip), .second, qI 0, qI ja, qI xc_1, qI xc_2, qU, qU, qU, qU] [(.long ip), (.int xc_2), (.int xc_1), (.int ja), (.int 0), (.int 3), (.int 3), (.ref b3), (.ref b3)]))
    have F39 : Old Z n0 h36 := ((F28.keep K27 all0).wr W36 ge3)
    have F40 : Keep h0 h36 [] := ((F29.trans K27 all0).wr W36 (Or.inr sz3))
    have F41 : T27.heap.size ≤ h36.size := (Nat.le_trans hk27 (Nat.le_of_eq W36.size.symm))
    have F42 : CHr Z own_EL s.vm h0 T27.vm h36 := (own_chW A27 W36 (Safe.exa hZ.alike F32 (by decide) (by decide)))
    obtain ⟨_, _, ⟨T38, L38, k38, n38⟩, -, X38, sn38, gr38, ⟨Lc38, hQ38, l38, y38, z38, C38⟩, st38⟩ := callSS X36 hx (y := (⟨"com/example/bare_lock/barelock/zookeeper/LockPathsChrootPinLaw", "at", "(IIICCJ)C"⟩ : MethodName)) hown (mvT hZ (hw _ (mg 7 rfl))) (mvT hZ (hw _ (mg 8 rfl))) (mvT hZ (hw _ (mg 4 rfl))) (mvT hZ (hw _ (mg 9 rfl))) (by decide) (backOfSH (W := 3) (at_lit l Z a0 hw [] (3 : Int32) (0 : Int32) ja xc_1 xc_2 ip (114 : Int32) cs fm h36 n0 F39 P0 P1 hcs (by decide) (by decide) (by decide) (own_gd (n := 3) (by decide) rfl) hfm) hZ (hw _ (mg 9 rfl)) (hw _ (mg 4 rfl)) (by decide) (by decide) hEL F42.1) (g := (mkF m 104 #[qI ia, qI ib, .val (.long ip), .second, qI 0, qI ja, qI xc_1, qI xc_2, qU, qU, qU, qU] [(.long ip), (.int xc_2), (.int xc_1), (.int ja), (.int 0), (.int 3), (.int 3), (.ref b3), (.ref b3)])) rfl (by rw [hml]; rfl) (argsL := [(.int 3), (.int 0), (.int ja), (.int xc_1), (.int xc_2), (.long ip)]) (rest := [(.int 3), (.ref b3), (.ref b3)]) (lenOf pd_23 rfl) rfl (by show 2 * 0 + _ ≤ _; exact Nat.le_of_eq rfl) (hb hby at_104) (fun _ _ => ⟨rfl, e36, (by decide : 7 + 2 ≤ _), (by decide : 162 + 48 ≤ _)⟩)
    dsimp only [Pt.U, Pt.locs, Pt.cells, Pt.slots] at X38 l38 y38 z38 st38 hQ38 sn38 gr38 C38
    subst y38 z38
    obtain ⟨X38, hS, hZ, hown⟩ := rebS hS (n1 := T36.heap.size) (by rw [e36]; exact F41) X38 sn38 gr38 hZ hown
    have hk38 : T38.heap.size ≤ T38.heap.size := Nat.le_refl _
    have A38 := F42.trans C38
    obtain ⟨rfl, N38q, K38⟩ := hQ38
    have N38 : Fr n0 L38 := by rw [l38]; exact Fr.app N36 N38q
    have X38 := own_mr X38 9 210 (by decide) (by decide)
    refine Go.tr st38 ?_
    show Go p e below _ (T38.setTop (mkF m 107 #[qI ia, qI ib, .val (.long ip), .second, qI 0, qI ja, qI xc_1, qI xc_2, qU, qU, qU, qU] [(.int (own_lc (114 : Int32))), (.int 3), (.ref b3), (.ref b3)]))
    rw [show T38.setTop (mkF m 107 #[qI ia, qI ib, .val (.long ip), .second, qI 0, qI ja, qI xc_1, qI xc_2, qU, qU, qU, qU] [(.int (own_lc (114 : Int32))), (.int 3), (.ref b3), (.ref b3)]) = T38.setTop (mkF m 107 #[qI ia, qI ib, .val (.long ip), .second, qI 0, qI ja, qI xc_1, qI xc_2, qU, qU, qU, qU] [(.int 114), (.int 3), (.ref b3), (.ref b3)]) from by rw [show own_lc (114 : Int32) = (114 : Int32) from by decide]]
    show Go p e below _ (T38.setTop (mkF m 107 #[qI ia, qI ib, .val (.long ip), .second, qI 0, qI ja, qI xc_1, qI xc_2, qU, qU, qU, qU] [(.int 114), (.int 3), (.ref b3), (.ref b3)]))
    have F43 : Exa Z T38.heap b3 "[C" := ((F32.wr W36).keep K38)
    have F44 : Arv Z T38.heap b3 k3 .char (18 : Int32) [(.int 47), (.int 98), (.int 97), (.int 0), (.int 0), (.int 0), (.int 0), (.int 0), (.int 0), (.int 0), (.int 0), (.int 0), (.int 0), (.int 0), (.int 0), (.int 0), (.int 0), (.int 0)] (.int 0) := (F37.keep K38 nin0)
    obtain ⟨cl45, Ar45, qk45, sz45, nn45, Ha45, Gf45⟩ := id F44
    have hin46 : ¬ ((3 : Int32) < 0 ∨ cl45.slots.size ≤ ((3 : Int32)).toNatClampNeg) := inb_of sz45 ⟨by decide, by decide⟩
    obtain ⟨T47, h47, X47, e47, W47, st47⟩ := stC X38 hx hZ rfl Ar45 (j := (3 : Int32)) hin46 (g := (mkF m 107 #[qI ia, qI ib, .val (.long ip), .second, qI 0, qI ja, qI xc_1, qI xc_2, qU, qU, qU, qU] [(.int 114), (.int 3), (.ref b3), (.ref b3)])) rfl rfl (hb hby at_107)
    have N47 := Fr.snoc X47 N38 ge3
    have F48 : Arv Z h47 b3 k3 .char (18 : Int32) [(.int 47), (.int 98), (.int 97), (.int 114), (.int 0), (.int 0), (.int 0), (.int 0), (.int 0), (.int 0), (.int 0), (.int 0), (.int 0), (.int 0), (.int 0), (.int 0), (.int 0), (.int 0)] (.int 0) := Arv.set Ar45 qk45 sz45 nn45 Ha45 Gf45 (fits_nar_char _) W47 3 rfl (Nat.le_of_ble_eq_true rfl)
    refine Go.by st47 ?_
    show Go p e below _ (T47.setTop (mkF m 108 #[qI ia, qI ib, .val (.long ip), .second, qI 0, qI ja, qI xc_1, qI xc_2, qU, qU, qU, qU] [(.ref b3)]))
    refine Go.by (fun t k => XS.dup X47.here hx rfl (hb hby at_108) rfl rfl (XS.iconst X47.here hx rfl (hb hby at_109) (XS.iconst X47.here hx rfl (hb hby at_110) (XS.iload X47.here hx rfl (hb hby at_111) rfl (XS.iload X47.here hx rfl (hb hby at_113) rfl (XS.iload X47.here hx rfl (hb hby at_115) rfl (XS.iload X47.here hx rfl (hb hby at_117) rfl (XS.lloadN X47.here hx rfl (hb hby at_119) rfl k)))))))) ?_
    show Go p e below _ (T47.setTop (mkF m 120 #[qI ia, qI ib, .val (.long ip), .second, qI 0, qI ja, qI xc_1, qI xc_2, qU, qU, qU, qU] [(.long ip), (.int xc_2), (.int xc_1), (.int ja), (.int 0), (.int 4), (.int 4), (.ref b3), (.ref b3)]))
    have F50 : Old Z n0 h47 := ((F39.keep K38 all0).wr W47 ge3)
    have F51 : Keep h0 h47 [] := ((F40.trans K38 all0).wr W47 (Or.inr sz3))
    have F52 : T38.heap.size ≤ h47.size := (Nat.le_trans hk38 (Nat.le_of_eq W47.size.symm))
    have F53 : CHr Z own_EL s.vm h0 T38.vm h47 := (own_chW A38 W47 (Safe.exa hZ.alike F43 (by decide) (by decide)))
    obtain ⟨_, _, ⟨T49, L49, k49, n49⟩, -, X49, sn49, gr49, ⟨Lc49, hQ49, l49, y49, z49, C49⟩, st49⟩ := callSS X47 hx (y := (⟨"com/example/bare_lock/barelock/zookeeper/LockPathsChrootPinLaw", "at", "(IIICCJ)C"⟩ : MethodName)) hown (mvT hZ (hw _ (mg 7 rfl))) (mvT hZ (hw _ (mg 8 rfl))) (mvT hZ (hw _ (mg 4 rfl))) (mvT hZ (hw _ (mg 9 rfl))) (by decide) (backOfSH (W := 3) (at_lit l Z a0 hw [] (4 : Int32) (0 : Int32) ja xc_1 xc_2 ip (101 : Int32) cs fm h47 n0 F50 P0 P1 hcs (by decide) (by decide) (by decide) (own_gd (n := 4) (by decide) rfl) hfm) hZ (hw _ (mg 9 rfl)) (hw _ (mg 4 rfl)) (by decide) (by decide) hEL F53.1) (g := (mkF m 120 #[qI ia, qI ib, .val (.long ip), .second, qI 0, qI ja, qI xc_1, qI xc_2, qU, qU, qU, qU] [(.long ip), (.int xc_2), (.int xc_1), (.int ja), (.int 0), (.int 4), (.int 4), (.ref b3), (.ref b3)])) rfl (by rw [hml]; rfl) (argsL := [(.int 4), (.int 0), (.int ja), (.int xc_1), (.int xc_2), (.long ip)]) (rest := [(.int 4), (.ref b3), (.ref b3)]) (lenOf pd_23 rfl) rfl (by show 2 * 0 + _ ≤ _; exact Nat.le_of_eq rfl) (hb hby at_120) (fun _ _ => ⟨rfl, e47, (by decide : 9 + 2 ≤ _), (by decide : 210 + 48 ≤ _)⟩)
    dsimp only [Pt.U, Pt.locs, Pt.cells, Pt.slots] at X49 l49 y49 z49 st49 hQ49 sn49 gr49 C49
    subst y49 z49
    obtain ⟨X49, hS, hZ, hown⟩ := rebS hS (n1 := T47.heap.size) (by rw [e47]; exact F52) X49 sn49 gr49 hZ hown
    have hk49 : T49.heap.size ≤ T49.heap.size := Nat.le_refl _
    have A49 := F53.trans C49
    obtain ⟨rfl, N49q, K49⟩ := hQ49
    have N49 : Fr n0 L49 := by rw [l49]; exact Fr.app N47 N49q
    have X49 := own_mr X49 11 258 (by decide) (by decide)
    refine Go.tr st49 ?_
    show Go p e below _ (T49.setTop (mkF m 123 #[qI ia, qI ib, .val (.long ip), .second, qI 0, qI ja, qI xc_1, qI xc_2, qU, qU, qU, qU] [(.int (own_lc (101 : Int32))), (.int 4), (.ref b3), (.ref b3)]))
    rw [show T49.setTop (mkF m 123 #[qI ia, qI ib, .val (.long ip), .second, qI 0, qI ja, qI xc_1, qI xc_2, qU, qU, qU, qU] [(.int (own_lc (101 : Int32))), (.int 4), (.ref b3), (.ref b3)]) = T49.setTop (mkF m 123 #[qI ia, qI ib, .val (.long ip), .second, qI 0, qI ja, qI xc_1, qI xc_2, qU, qU, qU, qU] [(.int 101), (.int 4), (.ref b3), (.ref b3)]) from by rw [show own_lc (101 : Int32) = (101 : Int32) from by decide]]
    show Go p e below _ (T49.setTop (mkF m 123 #[qI ia, qI ib, .val (.long ip), .second, qI 0, qI ja, qI xc_1, qI xc_2, qU, qU, qU, qU] [(.int 101), (.int 4), (.ref b3), (.ref b3)]))
    have F54 : Exa Z T49.heap b3 "[C" := ((F43.wr W47).keep K49)
    have F55 : Arv Z T49.heap b3 k3 .char (18 : Int32) [(.int 47), (.int 98), (.int 97), (.int 114), (.int 0), (.int 0), (.int 0), (.int 0), (.int 0), (.int 0), (.int 0), (.int 0), (.int 0), (.int 0), (.int 0), (.int 0), (.int 0), (.int 0)] (.int 0) := (F48.keep K49 nin0)
    obtain ⟨cl56, Ar56, qk56, sz56, nn56, Ha56, Gf56⟩ := id F55
    have hin57 : ¬ ((4 : Int32) < 0 ∨ cl56.slots.size ≤ ((4 : Int32)).toNatClampNeg) := inb_of sz56 ⟨by decide, by decide⟩
    obtain ⟨T58, h58, X58, e58, W58, st58⟩ := stC X49 hx hZ rfl Ar56 (j := (4 : Int32)) hin57 (g := (mkF m 123 #[qI ia, qI ib, .val (.long ip), .second, qI 0, qI ja, qI xc_1, qI xc_2, qU, qU, qU, qU] [(.int 101), (.int 4), (.ref b3), (.ref b3)])) rfl rfl (hb hby at_123)
    have N58 := Fr.snoc X58 N49 ge3
    have F59 : Arv Z h58 b3 k3 .char (18 : Int32) [(.int 47), (.int 98), (.int 97), (.int 114), (.int 101), (.int 0), (.int 0), (.int 0), (.int 0), (.int 0), (.int 0), (.int 0), (.int 0), (.int 0), (.int 0), (.int 0), (.int 0), (.int 0)] (.int 0) := Arv.set Ar56 qk56 sz56 nn56 Ha56 Gf56 (fits_nar_char _) W58 4 rfl (Nat.le_of_ble_eq_true rfl)
    refine Go.by st58 ?_
    show Go p e below _ (T58.setTop (mkF m 124 #[qI ia, qI ib, .val (.long ip), .second, qI 0, qI ja, qI xc_1, qI xc_2, qU, qU, qU, qU] [(.ref b3)]))
    refine Go.by (fun t k => XS.dup X58.here hx rfl (hb hby at_124) rfl rfl (XS.iconst X58.here hx rfl (hb hby at_125) (XS.iconst X58.here hx rfl (hb hby at_126) (XS.iload X58.here hx rfl (hb hby at_127) rfl (XS.iload X58.here hx rfl (hb hby at_129) rfl (XS.iload X58.here hx rfl (hb hby at_131) rfl (XS.iload X58.here hx rfl (hb hby at_133) rfl (XS.lloadN X58.here hx rfl (hb hby at_135) rfl k)))))))) ?_
    show Go p e below _ (T58.setTop (mkF m 136 #[qI ia, qI ib, .val (.long ip), .second, qI 0, qI ja, qI xc_1, qI xc_2, qU, qU, qU, qU] [(.long ip), (.int xc_2), (.int xc_1), (.int ja), (.int 0), (.int 5), (.int 5), (.ref b3), (.ref b3)]))
    have F61 : Old Z n0 h58 := ((F50.keep K49 all0).wr W58 ge3)
    have F62 : Keep h0 h58 [] := ((F51.trans K49 all0).wr W58 (Or.inr sz3))
    have F63 : T49.heap.size ≤ h58.size := (Nat.le_trans hk49 (Nat.le_of_eq W58.size.symm))
    have F64 : CHr Z own_EL s.vm h0 T49.vm h58 := (own_chW A49 W58 (Safe.exa hZ.alike F54 (by decide) (by decide)))
    obtain ⟨_, _, ⟨T60, L60, k60, n60⟩, -, X60, sn60, gr60, ⟨Lc60, hQ60, l60, y60, z60, C60⟩, st60⟩ := callSS X58 hx (y := (⟨"com/example/bare_lock/barelock/zookeeper/LockPathsChrootPinLaw", "at", "(IIICCJ)C"⟩ : MethodName)) hown (mvT hZ (hw _ (mg 7 rfl))) (mvT hZ (hw _ (mg 8 rfl))) (mvT hZ (hw _ (mg 4 rfl))) (mvT hZ (hw _ (mg 9 rfl))) (by decide) (backOfSH (W := 3) (at_lit l Z a0 hw [] (5 : Int32) (0 : Int32) ja xc_1 xc_2 ip (45 : Int32) cs fm h58 n0 F61 P0 P1 hcs (by decide) (by decide) (by decide) (own_gd (n := 5) (by decide) rfl) hfm) hZ (hw _ (mg 9 rfl)) (hw _ (mg 4 rfl)) (by decide) (by decide) hEL F64.1) (g := (mkF m 136 #[qI ia, qI ib, .val (.long ip), .second, qI 0, qI ja, qI xc_1, qI xc_2, qU, qU, qU, qU] [(.long ip), (.int xc_2), (.int xc_1), (.int ja), (.int 0), (.int 5), (.int 5), (.ref b3), (.ref b3)])) rfl (by rw [hml]; rfl) (argsL := [(.int 5), (.int 0), (.int ja), (.int xc_1), (.int xc_2), (.long ip)]) (rest := [(.int 5), (.ref b3), (.ref b3)]) (lenOf pd_23 rfl) rfl (by show 2 * 0 + _ ≤ _; exact Nat.le_of_eq rfl) (hb hby at_136) (fun _ _ => ⟨rfl, e58, (by decide : 11 + 2 ≤ _), (by decide : 258 + 48 ≤ _)⟩)
    dsimp only [Pt.U, Pt.locs, Pt.cells, Pt.slots] at X60 l60 y60 z60 st60 hQ60 sn60 gr60 C60
    subst y60 z60
    obtain ⟨X60, hS, hZ, hown⟩ := rebS hS (n1 := T58.heap.size) (by rw [e58]; exact F63) X60 sn60 gr60 hZ hown
    have hk60 : T60.heap.size ≤ T60.heap.size := Nat.le_refl _
    have A60 := F64.trans C60
    obtain ⟨rfl, N60q, K60⟩ := hQ60
    have N60 : Fr n0 L60 := by rw [l60]; exact Fr.app N58 N60q
    have X60 := own_mr X60 13 306 (by decide) (by decide)
    refine Go.tr st60 ?_
    show Go p e below _ (T60.setTop (mkF m 139 #[qI ia, qI ib, .val (.long ip), .second, qI 0, qI ja, qI xc_1, qI xc_2, qU, qU, qU, qU] [(.int (own_lc (45 : Int32))), (.int 5), (.ref b3), (.ref b3)]))
    rw [show T60.setTop (mkF m 139 #[qI ia, qI ib, .val (.long ip), .second, qI 0, qI ja, qI xc_1, qI xc_2, qU, qU, qU, qU] [(.int (own_lc (45 : Int32))), (.int 5), (.ref b3), (.ref b3)]) = T60.setTop (mkF m 139 #[qI ia, qI ib, .val (.long ip), .second, qI 0, qI ja, qI xc_1, qI xc_2, qU, qU, qU, qU] [(.int 45), (.int 5), (.ref b3), (.ref b3)]) from by rw [show own_lc (45 : Int32) = (45 : Int32) from by decide]]
    show Go p e below _ (T60.setTop (mkF m 139 #[qI ia, qI ib, .val (.long ip), .second, qI 0, qI ja, qI xc_1, qI xc_2, qU, qU, qU, qU] [(.int 45), (.int 5), (.ref b3), (.ref b3)]))
    have F65 : Exa Z T60.heap b3 "[C" := ((F54.wr W58).keep K60)
    have F66 : Arv Z T60.heap b3 k3 .char (18 : Int32) [(.int 47), (.int 98), (.int 97), (.int 114), (.int 101), (.int 0), (.int 0), (.int 0), (.int 0), (.int 0), (.int 0), (.int 0), (.int 0), (.int 0), (.int 0), (.int 0), (.int 0), (.int 0)] (.int 0) := (F59.keep K60 nin0)
    obtain ⟨cl67, Ar67, qk67, sz67, nn67, Ha67, Gf67⟩ := id F66
    have hin68 : ¬ ((5 : Int32) < 0 ∨ cl67.slots.size ≤ ((5 : Int32)).toNatClampNeg) := inb_of sz67 ⟨by decide, by decide⟩
    obtain ⟨T69, h69, X69, e69, W69, st69⟩ := stC X60 hx hZ rfl Ar67 (j := (5 : Int32)) hin68 (g := (mkF m 139 #[qI ia, qI ib, .val (.long ip), .second, qI 0, qI ja, qI xc_1, qI xc_2, qU, qU, qU, qU] [(.int 45), (.int 5), (.ref b3), (.ref b3)])) rfl rfl (hb hby at_139)
    have N69 := Fr.snoc X69 N60 ge3
    have F70 : Arv Z h69 b3 k3 .char (18 : Int32) [(.int 47), (.int 98), (.int 97), (.int 114), (.int 101), (.int 45), (.int 0), (.int 0), (.int 0), (.int 0), (.int 0), (.int 0), (.int 0), (.int 0), (.int 0), (.int 0), (.int 0), (.int 0)] (.int 0) := Arv.set Ar67 qk67 sz67 nn67 Ha67 Gf67 (fits_nar_char _) W69 5 rfl (Nat.le_of_ble_eq_true rfl)
    refine Go.by st69 ?_
    show Go p e below _ (T69.setTop (mkF m 140 #[qI ia, qI ib, .val (.long ip), .second, qI 0, qI ja, qI xc_1, qI xc_2, qU, qU, qU, qU] [(.ref b3)]))
    refine Go.by (fun t k => XS.dup X69.here hx rfl (hb hby at_140) rfl rfl (XS.bipush X69.here hx rfl (hb hby at_141) (XS.bipush X69.here hx rfl (hb hby at_143) (XS.iload X69.here hx rfl (hb hby at_145) rfl (XS.iload X69.here hx rfl (hb hby at_147) rfl (XS.iload X69.here hx rfl (hb hby at_149) rfl (XS.iload X69.here hx rfl (hb hby at_151) rfl (XS.lloadN X69.here hx rfl (hb hby at_153) rfl k)))))))) ?_
    show Go p e below _ (T69.setTop (mkF m 154 #[qI ia, qI ib, .val (.long ip), .second, qI 0, qI ja, qI xc_1, qI xc_2, qU, qU, qU, qU] [(.long ip), (.int xc_2), (.int xc_1), (.int ja), (.int 0), (.int 6), (.int 6), (.ref b3), (.ref b3)]))
    have F72 : Old Z n0 h69 := ((F61.keep K60 all0).wr W69 ge3)
    have F73 : Keep h0 h69 [] := ((F62.trans K60 all0).wr W69 (Or.inr sz3))
    have F74 : T60.heap.size ≤ h69.size := (Nat.le_trans hk60 (Nat.le_of_eq W69.size.symm))
    have F75 : CHr Z own_EL s.vm h0 T60.vm h69 := (own_chW A60 W69 (Safe.exa hZ.alike F65 (by decide) (by decide)))
    obtain ⟨_, _, ⟨T71, L71, k71, n71⟩, -, X71, sn71, gr71, ⟨Lc71, hQ71, l71, y71, z71, C71⟩, st71⟩ := callSS X69 hx (y := (⟨"com/example/bare_lock/barelock/zookeeper/LockPathsChrootPinLaw", "at", "(IIICCJ)C"⟩ : MethodName)) hown (mvT hZ (hw _ (mg 7 rfl))) (mvT hZ (hw _ (mg 8 rfl))) (mvT hZ (hw _ (mg 4 rfl))) (mvT hZ (hw _ (mg 9 rfl))) (by decide) (backOfSH (W := 3) (at_lit l Z a0 hw [] (6 : Int32) (0 : Int32) ja xc_1 xc_2 ip (108 : Int32) cs fm h69 n0 F72 P0 P1 hcs (by decide) (by decide) (by decide) (own_gd (n := 6) (by decide) rfl) hfm) hZ (hw _ (mg 9 rfl)) (hw _ (mg 4 rfl)) (by decide) (by decide) hEL F75.1) (g := (mkF m 154 #[qI ia, qI ib, .val (.long ip), .second, qI 0, qI ja, qI xc_1, qI xc_2, qU, qU, qU, qU] [(.long ip), (.int xc_2), (.int xc_1), (.int ja), (.int 0), (.int 6), (.int 6), (.ref b3), (.ref b3)])) rfl (by rw [hml]; rfl) (argsL := [(.int 6), (.int 0), (.int ja), (.int xc_1), (.int xc_2), (.long ip)]) (rest := [(.int 6), (.ref b3), (.ref b3)]) (lenOf pd_23 rfl) rfl (by show 2 * 0 + _ ≤ _; exact Nat.le_of_eq rfl) (hb hby at_154) (fun _ _ => ⟨rfl, e69, (by decide : 13 + 2 ≤ _), (by decide : 306 + 48 ≤ _)⟩)
    dsimp only [Pt.U, Pt.locs, Pt.cells, Pt.slots] at X71 l71 y71 z71 st71 hQ71 sn71 gr71 C71
    subst y71 z71
    obtain ⟨X71, hS, hZ, hown⟩ := rebS hS (n1 := T69.heap.size) (by rw [e69]; exact F74) X71 sn71 gr71 hZ hown
    have hk71 : T71.heap.size ≤ T71.heap.size := Nat.le_refl _
    have A71 := F75.trans C71
    obtain ⟨rfl, N71q, K71⟩ := hQ71
    have N71 : Fr n0 L71 := by rw [l71]; exact Fr.app N69 N71q
    have X71 := own_mr X71 15 354 (by decide) (by decide)
    refine Go.tr st71 ?_
    show Go p e below _ (T71.setTop (mkF m 157 #[qI ia, qI ib, .val (.long ip), .second, qI 0, qI ja, qI xc_1, qI xc_2, qU, qU, qU, qU] [(.int (own_lc (108 : Int32))), (.int 6), (.ref b3), (.ref b3)]))
    rw [show T71.setTop (mkF m 157 #[qI ia, qI ib, .val (.long ip), .second, qI 0, qI ja, qI xc_1, qI xc_2, qU, qU, qU, qU] [(.int (own_lc (108 : Int32))), (.int 6), (.ref b3), (.ref b3)]) = T71.setTop (mkF m 157 #[qI ia, qI ib, .val (.long ip), .second, qI 0, qI ja, qI xc_1, qI xc_2, qU, qU, qU, qU] [(.int 108), (.int 6), (.ref b3), (.ref b3)]) from by rw [show own_lc (108 : Int32) = (108 : Int32) from by decide]]
    show Go p e below _ (T71.setTop (mkF m 157 #[qI ia, qI ib, .val (.long ip), .second, qI 0, qI ja, qI xc_1, qI xc_2, qU, qU, qU, qU] [(.int 108), (.int 6), (.ref b3), (.ref b3)]))
    have F76 : Exa Z T71.heap b3 "[C" := ((F65.wr W69).keep K71)
    have F77 : Arv Z T71.heap b3 k3 .char (18 : Int32) [(.int 47), (.int 98), (.int 97), (.int 114), (.int 101), (.int 45), (.int 0), (.int 0), (.int 0), (.int 0), (.int 0), (.int 0), (.int 0), (.int 0), (.int 0), (.int 0), (.int 0), (.int 0)] (.int 0) := (F70.keep K71 nin0)
    obtain ⟨cl78, Ar78, qk78, sz78, nn78, Ha78, Gf78⟩ := id F77
    have hin79 : ¬ ((6 : Int32) < 0 ∨ cl78.slots.size ≤ ((6 : Int32)).toNatClampNeg) := inb_of sz78 ⟨by decide, by decide⟩
    obtain ⟨T80, h80, X80, e80, W80, st80⟩ := stC X71 hx hZ rfl Ar78 (j := (6 : Int32)) hin79 (g := (mkF m 157 #[qI ia, qI ib, .val (.long ip), .second, qI 0, qI ja, qI xc_1, qI xc_2, qU, qU, qU, qU] [(.int 108), (.int 6), (.ref b3), (.ref b3)])) rfl rfl (hb hby at_157)
    have N80 := Fr.snoc X80 N71 ge3
    have F81 : Arv Z h80 b3 k3 .char (18 : Int32) [(.int 47), (.int 98), (.int 97), (.int 114), (.int 101), (.int 45), (.int 108), (.int 0), (.int 0), (.int 0), (.int 0), (.int 0), (.int 0), (.int 0), (.int 0), (.int 0), (.int 0), (.int 0)] (.int 0) := Arv.set Ar78 qk78 sz78 nn78 Ha78 Gf78 (fits_nar_char _) W80 6 rfl (Nat.le_of_ble_eq_true rfl)
    refine Go.by st80 ?_
    show Go p e below _ (T80.setTop (mkF m 158 #[qI ia, qI ib, .val (.long ip), .second, qI 0, qI ja, qI xc_1, qI xc_2, qU, qU, qU, qU] [(.ref b3)]))
    refine Go.by (fun t k => XS.dup X80.here hx rfl (hb hby at_158) rfl rfl (XS.bipush X80.here hx rfl (hb hby at_159) (XS.bipush X80.here hx rfl (hb hby at_161) (XS.iload X80.here hx rfl (hb hby at_163) rfl (XS.iload X80.here hx rfl (hb hby at_165) rfl (XS.iload X80.here hx rfl (hb hby at_167) rfl (XS.iload X80.here hx rfl (hb hby at_169) rfl (XS.lloadN X80.here hx rfl (hb hby at_171) rfl k)))))))) ?_
    show Go p e below _ (T80.setTop (mkF m 172 #[qI ia, qI ib, .val (.long ip), .second, qI 0, qI ja, qI xc_1, qI xc_2, qU, qU, qU, qU] [(.long ip), (.int xc_2), (.int xc_1), (.int ja), (.int 0), (.int 7), (.int 7), (.ref b3), (.ref b3)]))
    have F83 : Old Z n0 h80 := ((F72.keep K71 all0).wr W80 ge3)
    have F84 : Keep h0 h80 [] := ((F73.trans K71 all0).wr W80 (Or.inr sz3))
    have F85 : T71.heap.size ≤ h80.size := (Nat.le_trans hk71 (Nat.le_of_eq W80.size.symm))
    have F86 : CHr Z own_EL s.vm h0 T71.vm h80 := (own_chW A71 W80 (Safe.exa hZ.alike F76 (by decide) (by decide)))
    obtain ⟨_, _, ⟨T82, L82, k82, n82⟩, -, X82, sn82, gr82, ⟨Lc82, hQ82, l82, y82, z82, C82⟩, st82⟩ := callSS X80 hx (y := (⟨"com/example/bare_lock/barelock/zookeeper/LockPathsChrootPinLaw", "at", "(IIICCJ)C"⟩ : MethodName)) hown (mvT hZ (hw _ (mg 7 rfl))) (mvT hZ (hw _ (mg 8 rfl))) (mvT hZ (hw _ (mg 4 rfl))) (mvT hZ (hw _ (mg 9 rfl))) (by decide) (backOfSH (W := 3) (at_lit l Z a0 hw [] (7 : Int32) (0 : Int32) ja xc_1 xc_2 ip (111 : Int32) cs fm h80 n0 F83 P0 P1 hcs (by decide) (by decide) (by decide) (own_gd (n := 7) (by decide) rfl) hfm) hZ (hw _ (mg 9 rfl)) (hw _ (mg 4 rfl)) (by decide) (by decide) hEL F86.1) (g := (mkF m 172 #[qI ia, qI ib, .val (.long ip), .second, qI 0, qI ja, qI xc_1, qI xc_2, qU, qU, qU, qU] [(.long ip), (.int xc_2), (.int xc_1), (.int ja), (.int 0), (.int 7), (.int 7), (.ref b3), (.ref b3)])) rfl (by rw [hml]; rfl) (argsL := [(.int 7), (.int 0), (.int ja), (.int xc_1), (.int xc_2), (.long ip)]) (rest := [(.int 7), (.ref b3), (.ref b3)]) (lenOf pd_23 rfl) rfl (by show 2 * 0 + _ ≤ _; exact Nat.le_of_eq rfl) (hb hby at_172) (fun _ _ => ⟨rfl, e80, (by decide : 15 + 2 ≤ _), (by decide : 354 + 48 ≤ _)⟩)
    dsimp only [Pt.U, Pt.locs, Pt.cells, Pt.slots] at X82 l82 y82 z82 st82 hQ82 sn82 gr82 C82
    subst y82 z82
    obtain ⟨X82, hS, hZ, hown⟩ := rebS hS (n1 := T80.heap.size) (by rw [e80]; exact F85) X82 sn82 gr82 hZ hown
    have hk82 : T82.heap.size ≤ T82.heap.size := Nat.le_refl _
    have A82 := F86.trans C82
    obtain ⟨rfl, N82q, K82⟩ := hQ82
    have N82 : Fr n0 L82 := by rw [l82]; exact Fr.app N80 N82q
    have X82 := own_mr X82 17 402 (by decide) (by decide)
    refine Go.tr st82 ?_
    show Go p e below _ (T82.setTop (mkF m 175 #[qI ia, qI ib, .val (.long ip), .second, qI 0, qI ja, qI xc_1, qI xc_2, qU, qU, qU, qU] [(.int (own_lc (111 : Int32))), (.int 7), (.ref b3), (.ref b3)]))
    rw [show T82.setTop (mkF m 175 #[qI ia, qI ib, .val (.long ip), .second, qI 0, qI ja, qI xc_1, qI xc_2, qU, qU, qU, qU] [(.int (own_lc (111 : Int32))), (.int 7), (.ref b3), (.ref b3)]) = T82.setTop (mkF m 175 #[qI ia, qI ib, .val (.long ip), .second, qI 0, qI ja, qI xc_1, qI xc_2, qU, qU, qU, qU] [(.int 111), (.int 7), (.ref b3), (.ref b3)]) from by rw [show own_lc (111 : Int32) = (111 : Int32) from by decide]]
    show Go p e below _ (T82.setTop (mkF m 175 #[qI ia, qI ib, .val (.long ip), .second, qI 0, qI ja, qI xc_1, qI xc_2, qU, qU, qU, qU] [(.int 111), (.int 7), (.ref b3), (.ref b3)]))
    have F87 : Exa Z T82.heap b3 "[C" := ((F76.wr W80).keep K82)
    have F88 : Arv Z T82.heap b3 k3 .char (18 : Int32) [(.int 47), (.int 98), (.int 97), (.int 114), (.int 101), (.int 45), (.int 108), (.int 0), (.int 0), (.int 0), (.int 0), (.int 0), (.int 0), (.int 0), (.int 0), (.int 0), (.int 0), (.int 0)] (.int 0) := (F81.keep K82 nin0)
    obtain ⟨cl89, Ar89, qk89, sz89, nn89, Ha89, Gf89⟩ := id F88
    have hin90 : ¬ ((7 : Int32) < 0 ∨ cl89.slots.size ≤ ((7 : Int32)).toNatClampNeg) := inb_of sz89 ⟨by decide, by decide⟩
    obtain ⟨T91, h91, X91, e91, W91, st91⟩ := stC X82 hx hZ rfl Ar89 (j := (7 : Int32)) hin90 (g := (mkF m 175 #[qI ia, qI ib, .val (.long ip), .second, qI 0, qI ja, qI xc_1, qI xc_2, qU, qU, qU, qU] [(.int 111), (.int 7), (.ref b3), (.ref b3)])) rfl rfl (hb hby at_175)
    have N91 := Fr.snoc X91 N82 ge3
    have F92 : Arv Z h91 b3 k3 .char (18 : Int32) [(.int 47), (.int 98), (.int 97), (.int 114), (.int 101), (.int 45), (.int 108), (.int 111), (.int 0), (.int 0), (.int 0), (.int 0), (.int 0), (.int 0), (.int 0), (.int 0), (.int 0), (.int 0)] (.int 0) := Arv.set Ar89 qk89 sz89 nn89 Ha89 Gf89 (fits_nar_char _) W91 7 rfl (Nat.le_of_ble_eq_true rfl)
    refine Go.by st91 ?_
    show Go p e below _ (T91.setTop (mkF m 176 #[qI ia, qI ib, .val (.long ip), .second, qI 0, qI ja, qI xc_1, qI xc_2, qU, qU, qU, qU] [(.ref b3)]))
    refine Go.by (fun t k => XS.dup X91.here hx rfl (hb hby at_176) rfl rfl (XS.bipush X91.here hx rfl (hb hby at_177) (XS.bipush X91.here hx rfl (hb hby at_179) (XS.iload X91.here hx rfl (hb hby at_181) rfl (XS.iload X91.here hx rfl (hb hby at_183) rfl (XS.iload X91.here hx rfl (hb hby at_185) rfl (XS.iload X91.here hx rfl (hb hby at_187) rfl (XS.lloadN X91.here hx rfl (hb hby at_189) rfl k)))))))) ?_
    show Go p e below _ (T91.setTop (mkF m 190 #[qI ia, qI ib, .val (.long ip), .second, qI 0, qI ja, qI xc_1, qI xc_2, qU, qU, qU, qU] [(.long ip), (.int xc_2), (.int xc_1), (.int ja), (.int 0), (.int 8), (.int 8), (.ref b3), (.ref b3)]))
    have F94 : Old Z n0 h91 := ((F83.keep K82 all0).wr W91 ge3)
    have F95 : Keep h0 h91 [] := ((F84.trans K82 all0).wr W91 (Or.inr sz3))
    have F96 : T82.heap.size ≤ h91.size := (Nat.le_trans hk82 (Nat.le_of_eq W91.size.symm))
    have F97 : CHr Z own_EL s.vm h0 T82.vm h91 := (own_chW A82 W91 (Safe.exa hZ.alike F87 (by decide) (by decide)))
    obtain ⟨_, _, ⟨T93, L93, k93, n93⟩, -, X93, sn93, gr93, ⟨Lc93, hQ93, l93, y93, z93, C93⟩, st93⟩ := callSS X91 hx (y := (⟨"com/example/bare_lock/barelock/zookeeper/LockPathsChrootPinLaw", "at", "(IIICCJ)C"⟩ : MethodName)) hown (mvT hZ (hw _ (mg 7 rfl))) (mvT hZ (hw _ (mg 8 rfl))) (mvT hZ (hw _ (mg 4 rfl))) (mvT hZ (hw _ (mg 9 rfl))) (by decide) (backOfSH (W := 3) (at_lit l Z a0 hw [] (8 : Int32) (0 : Int32) ja xc_1 xc_2 ip (99 : Int32) cs fm h91 n0 F94 P0 P1 hcs (by decide) (by decide) (by decide) (own_gd (n := 8) (by decide) rfl) hfm) hZ (hw _ (mg 9 rfl)) (hw _ (mg 4 rfl)) (by decide) (by decide) hEL F97.1) (g := (mkF m 190 #[qI ia, qI ib, .val (.long ip), .second, qI 0, qI ja, qI xc_1, qI xc_2, qU, qU, qU, qU] [(.long ip), (.int xc_2), (.int xc_1), (.int ja), (.int 0), (.int 8), (.int 8), (.ref b3), (.ref b3)])) rfl (by rw [hml]; rfl) (argsL := [(.int 8), (.int 0), (.int ja), (.int xc_1), (.int xc_2), (.long ip)]) (rest := [(.int 8), (.ref b3), (.ref b3)]) (lenOf pd_23 rfl) rfl (by show 2 * 0 + _ ≤ _; exact Nat.le_of_eq rfl) (hb hby at_190) (fun _ _ => ⟨rfl, e91, (by decide : 17 + 2 ≤ _), (by decide : 402 + 48 ≤ _)⟩)
    dsimp only [Pt.U, Pt.locs, Pt.cells, Pt.slots] at X93 l93 y93 z93 st93 hQ93 sn93 gr93 C93
    subst y93 z93
    obtain ⟨X93, hS, hZ, hown⟩ := rebS hS (n1 := T91.heap.size) (by rw [e91]; exact F96) X93 sn93 gr93 hZ hown
    have hk93 : T93.heap.size ≤ T93.heap.size := Nat.le_refl _
    have A93 := F97.trans C93
    obtain ⟨rfl, N93q, K93⟩ := hQ93
    have N93 : Fr n0 L93 := by rw [l93]; exact Fr.app N91 N93q
    have X93 := own_mr X93 19 450 (by decide) (by decide)
    refine Go.tr st93 ?_
    show Go p e below _ (T93.setTop (mkF m 193 #[qI ia, qI ib, .val (.long ip), .second, qI 0, qI ja, qI xc_1, qI xc_2, qU, qU, qU, qU] [(.int (own_lc (99 : Int32))), (.int 8), (.ref b3), (.ref b3)]))
    rw [show T93.setTop (mkF m 193 #[qI ia, qI ib, .val (.long ip), .second, qI 0, qI ja, qI xc_1, qI xc_2, qU, qU, qU, qU] [(.int (own_lc (99 : Int32))), (.int 8), (.ref b3), (.ref b3)]) = T93.setTop (mkF m 193 #[qI ia, qI ib, .val (.long ip), .second, qI 0, qI ja, qI xc_1, qI xc_2, qU, qU, qU, qU] [(.int 99), (.int 8), (.ref b3), (.ref b3)]) from by rw [show own_lc (99 : Int32) = (99 : Int32) from by decide]]
    show Go p e below _ (T93.setTop (mkF m 193 #[qI ia, qI ib, .val (.long ip), .second, qI 0, qI ja, qI xc_1, qI xc_2, qU, qU, qU, qU] [(.int 99), (.int 8), (.ref b3), (.ref b3)]))
    have F98 : Exa Z T93.heap b3 "[C" := ((F87.wr W91).keep K93)
    have F99 : Arv Z T93.heap b3 k3 .char (18 : Int32) [(.int 47), (.int 98), (.int 97), (.int 114), (.int 101), (.int 45), (.int 108), (.int 111), (.int 0), (.int 0), (.int 0), (.int 0), (.int 0), (.int 0), (.int 0), (.int 0), (.int 0), (.int 0)] (.int 0) := (F92.keep K93 nin0)
    obtain ⟨cl100, Ar100, qk100, sz100, nn100, Ha100, Gf100⟩ := id F99
    have hin101 : ¬ ((8 : Int32) < 0 ∨ cl100.slots.size ≤ ((8 : Int32)).toNatClampNeg) := inb_of sz100 ⟨by decide, by decide⟩
    obtain ⟨T102, h102, X102, e102, W102, st102⟩ := stC X93 hx hZ rfl Ar100 (j := (8 : Int32)) hin101 (g := (mkF m 193 #[qI ia, qI ib, .val (.long ip), .second, qI 0, qI ja, qI xc_1, qI xc_2, qU, qU, qU, qU] [(.int 99), (.int 8), (.ref b3), (.ref b3)])) rfl rfl (hb hby at_193)
    have N102 := Fr.snoc X102 N93 ge3
    have F103 : Arv Z h102 b3 k3 .char (18 : Int32) [(.int 47), (.int 98), (.int 97), (.int 114), (.int 101), (.int 45), (.int 108), (.int 111), (.int 99), (.int 0), (.int 0), (.int 0), (.int 0), (.int 0), (.int 0), (.int 0), (.int 0), (.int 0)] (.int 0) := Arv.set Ar100 qk100 sz100 nn100 Ha100 Gf100 (fits_nar_char _) W102 8 rfl (Nat.le_of_ble_eq_true rfl)
    refine Go.by st102 ?_
    show Go p e below _ (T102.setTop (mkF m 194 #[qI ia, qI ib, .val (.long ip), .second, qI 0, qI ja, qI xc_1, qI xc_2, qU, qU, qU, qU] [(.ref b3)]))
    refine Go.by (fun t k => XS.dup X102.here hx rfl (hb hby at_194) rfl rfl (XS.bipush X102.here hx rfl (hb hby at_195) (XS.bipush X102.here hx rfl (hb hby at_197) (XS.iload X102.here hx rfl (hb hby at_199) rfl (XS.iload X102.here hx rfl (hb hby at_201) rfl (XS.iload X102.here hx rfl (hb hby at_203) rfl (XS.iload X102.here hx rfl (hb hby at_205) rfl (XS.lloadN X102.here hx rfl (hb hby at_207) rfl k)))))))) ?_
    show Go p e below _ (T102.setTop (mkF m 208 #[qI ia, qI ib, .val (.long ip), .second, qI 0, qI ja, qI xc_1, qI xc_2, qU, qU, qU, qU] [(.long ip), (.int xc_2), (.int xc_1), (.int ja), (.int 0), (.int 9), (.int 9), (.ref b3), (.ref b3)]))
    have F105 : Old Z n0 h102 := ((F94.keep K93 all0).wr W102 ge3)
    have F106 : Keep h0 h102 [] := ((F95.trans K93 all0).wr W102 (Or.inr sz3))
    have F107 : T93.heap.size ≤ h102.size := (Nat.le_trans hk93 (Nat.le_of_eq W102.size.symm))
    have F108 : CHr Z own_EL s.vm h0 T93.vm h102 := (own_chW A93 W102 (Safe.exa hZ.alike F98 (by decide) (by decide)))
    obtain ⟨_, _, ⟨T104, L104, k104, n104⟩, -, X104, sn104, gr104, ⟨Lc104, hQ104, l104, y104, z104, C104⟩, st104⟩ := callSS X102 hx (y := (⟨"com/example/bare_lock/barelock/zookeeper/LockPathsChrootPinLaw", "at", "(IIICCJ)C"⟩ : MethodName)) hown (mvT hZ (hw _ (mg 7 rfl))) (mvT hZ (hw _ (mg 8 rfl))) (mvT hZ (hw _ (mg 4 rfl))) (mvT hZ (hw _ (mg 9 rfl))) (by decide) (backOfSH (W := 3) (at_lit l Z a0 hw [] (9 : Int32) (0 : Int32) ja xc_1 xc_2 ip (107 : Int32) cs fm h102 n0 F105 P0 P1 hcs (by decide) (by decide) (by decide) (own_gd (n := 9) (by decide) rfl) hfm) hZ (hw _ (mg 9 rfl)) (hw _ (mg 4 rfl)) (by decide) (by decide) hEL F108.1) (g := (mkF m 208 #[qI ia, qI ib, .val (.long ip), .second, qI 0, qI ja, qI xc_1, qI xc_2, qU, qU, qU, qU] [(.long ip), (.int xc_2), (.int xc_1), (.int ja), (.int 0), (.int 9), (.int 9), (.ref b3), (.ref b3)])) rfl (by rw [hml]; rfl) (argsL := [(.int 9), (.int 0), (.int ja), (.int xc_1), (.int xc_2), (.long ip)]) (rest := [(.int 9), (.ref b3), (.ref b3)]) (lenOf pd_23 rfl) rfl (by show 2 * 0 + _ ≤ _; exact Nat.le_of_eq rfl) (hb hby at_208) (fun _ _ => ⟨rfl, e102, (by decide : 19 + 2 ≤ _), (by decide : 450 + 48 ≤ _)⟩)
    dsimp only [Pt.U, Pt.locs, Pt.cells, Pt.slots] at X104 l104 y104 z104 st104 hQ104 sn104 gr104 C104
    subst y104 z104
    obtain ⟨X104, hS, hZ, hown⟩ := rebS hS (n1 := T102.heap.size) (by rw [e102]; exact F107) X104 sn104 gr104 hZ hown
    have hk104 : T104.heap.size ≤ T104.heap.size := Nat.le_refl _
    have A104 := F108.trans C104
    obtain ⟨rfl, N104q, K104⟩ := hQ104
    have N104 : Fr n0 L104 := by rw [l104]; exact Fr.app N102 N104q
    have X104 := own_mr X104 21 498 (by decide) (by decide)
    refine Go.tr st104 ?_
    show Go p e below _ (T104.setTop (mkF m 211 #[qI ia, qI ib, .val (.long ip), .second, qI 0, qI ja, qI xc_1, qI xc_2, qU, qU, qU, qU] [(.int (own_lc (107 : Int32))), (.int 9), (.ref b3), (.ref b3)]))
    rw [show T104.setTop (mkF m 211 #[qI ia, qI ib, .val (.long ip), .second, qI 0, qI ja, qI xc_1, qI xc_2, qU, qU, qU, qU] [(.int (own_lc (107 : Int32))), (.int 9), (.ref b3), (.ref b3)]) = T104.setTop (mkF m 211 #[qI ia, qI ib, .val (.long ip), .second, qI 0, qI ja, qI xc_1, qI xc_2, qU, qU, qU, qU] [(.int 107), (.int 9), (.ref b3), (.ref b3)]) from by rw [show own_lc (107 : Int32) = (107 : Int32) from by decide]]
    show Go p e below _ (T104.setTop (mkF m 211 #[qI ia, qI ib, .val (.long ip), .second, qI 0, qI ja, qI xc_1, qI xc_2, qU, qU, qU, qU] [(.int 107), (.int 9), (.ref b3), (.ref b3)]))
    have F109 : Exa Z T104.heap b3 "[C" := ((F98.wr W102).keep K104)
    have F110 : Arv Z T104.heap b3 k3 .char (18 : Int32) [(.int 47), (.int 98), (.int 97), (.int 114), (.int 101), (.int 45), (.int 108), (.int 111), (.int 99), (.int 0), (.int 0), (.int 0), (.int 0), (.int 0), (.int 0), (.int 0), (.int 0), (.int 0)] (.int 0) := (F103.keep K104 nin0)
    obtain ⟨cl111, Ar111, qk111, sz111, nn111, Ha111, Gf111⟩ := id F110
    have hin112 : ¬ ((9 : Int32) < 0 ∨ cl111.slots.size ≤ ((9 : Int32)).toNatClampNeg) := inb_of sz111 ⟨by decide, by decide⟩
    obtain ⟨T113, h113, X113, e113, W113, st113⟩ := stC X104 hx hZ rfl Ar111 (j := (9 : Int32)) hin112 (g := (mkF m 211 #[qI ia, qI ib, .val (.long ip), .second, qI 0, qI ja, qI xc_1, qI xc_2, qU, qU, qU, qU] [(.int 107), (.int 9), (.ref b3), (.ref b3)])) rfl rfl (hb hby at_211)
    have N113 := Fr.snoc X113 N104 ge3
    have F114 : Arv Z h113 b3 k3 .char (18 : Int32) [(.int 47), (.int 98), (.int 97), (.int 114), (.int 101), (.int 45), (.int 108), (.int 111), (.int 99), (.int 107), (.int 0), (.int 0), (.int 0), (.int 0), (.int 0), (.int 0), (.int 0), (.int 0)] (.int 0) := Arv.set Ar111 qk111 sz111 nn111 Ha111 Gf111 (fits_nar_char _) W113 9 rfl (Nat.le_of_ble_eq_true rfl)
    refine Go.by st113 ?_
    show Go p e below _ (T113.setTop (mkF m 212 #[qI ia, qI ib, .val (.long ip), .second, qI 0, qI ja, qI xc_1, qI xc_2, qU, qU, qU, qU] [(.ref b3)]))
    refine Go.by (fun t k => XS.dup X113.here hx rfl (hb hby at_212) rfl rfl (XS.bipush X113.here hx rfl (hb hby at_213) (XS.bipush X113.here hx rfl (hb hby at_215) (XS.iload X113.here hx rfl (hb hby at_217) rfl (XS.iload X113.here hx rfl (hb hby at_219) rfl (XS.iload X113.here hx rfl (hb hby at_221) rfl (XS.iload X113.here hx rfl (hb hby at_223) rfl (XS.lloadN X113.here hx rfl (hb hby at_225) rfl k)))))))) ?_
    show Go p e below _ (T113.setTop (mkF m 226 #[qI ia, qI ib, .val (.long ip), .second, qI 0, qI ja, qI xc_1, qI xc_2, qU, qU, qU, qU] [(.long ip), (.int xc_2), (.int xc_1), (.int ja), (.int 0), (.int 10), (.int 10), (.ref b3), (.ref b3)]))
    have F116 : Old Z n0 h113 := ((F105.keep K104 all0).wr W113 ge3)
    have F117 : Keep h0 h113 [] := ((F106.trans K104 all0).wr W113 (Or.inr sz3))
    have F118 : T104.heap.size ≤ h113.size := (Nat.le_trans hk104 (Nat.le_of_eq W113.size.symm))
    have F119 : CHr Z own_EL s.vm h0 T104.vm h113 := (own_chW A104 W113 (Safe.exa hZ.alike F109 (by decide) (by decide)))
    obtain ⟨_, _, ⟨T115, L115, k115, n115⟩, -, X115, sn115, gr115, ⟨Lc115, hQ115, l115, y115, z115, C115⟩, st115⟩ := callSS X113 hx (y := (⟨"com/example/bare_lock/barelock/zookeeper/LockPathsChrootPinLaw", "at", "(IIICCJ)C"⟩ : MethodName)) hown (mvT hZ (hw _ (mg 7 rfl))) (mvT hZ (hw _ (mg 8 rfl))) (mvT hZ (hw _ (mg 4 rfl))) (mvT hZ (hw _ (mg 9 rfl))) (by decide) (backOfSH (W := 3) (at_lit l Z a0 hw [] (10 : Int32) (0 : Int32) ja xc_1 xc_2 ip (47 : Int32) cs fm h113 n0 F116 P0 P1 hcs (by decide) (by decide) (by decide) (own_gd (n := 10) (by decide) rfl) hfm) hZ (hw _ (mg 9 rfl)) (hw _ (mg 4 rfl)) (by decide) (by decide) hEL F119.1) (g := (mkF m 226 #[qI ia, qI ib, .val (.long ip), .second, qI 0, qI ja, qI xc_1, qI xc_2, qU, qU, qU, qU] [(.long ip), (.int xc_2), (.int xc_1), (.int ja), (.int 0), (.int 10), (.int 10), (.ref b3), (.ref b3)])) rfl (by rw [hml]; rfl) (argsL := [(.int 10), (.int 0), (.int ja), (.int xc_1), (.int xc_2), (.long ip)]) (rest := [(.int 10), (.ref b3), (.ref b3)]) (lenOf pd_23 rfl) rfl (by show 2 * 0 + _ ≤ _; exact Nat.le_of_eq rfl) (hb hby at_226) (fun _ _ => ⟨rfl, e113, (by decide : 21 + 2 ≤ _), (by decide : 498 + 48 ≤ _)⟩)
    dsimp only [Pt.U, Pt.locs, Pt.cells, Pt.slots] at X115 l115 y115 z115 st115 hQ115 sn115 gr115 C115
    subst y115 z115
    obtain ⟨X115, hS, hZ, hown⟩ := rebS hS (n1 := T113.heap.size) (by rw [e113]; exact F118) X115 sn115 gr115 hZ hown
    have hk115 : T115.heap.size ≤ T115.heap.size := Nat.le_refl _
    have A115 := F119.trans C115
    obtain ⟨rfl, N115q, K115⟩ := hQ115
    have N115 : Fr n0 L115 := by rw [l115]; exact Fr.app N113 N115q
    have X115 := own_mr X115 23 546 (by decide) (by decide)
    refine Go.tr st115 ?_
    show Go p e below _ (T115.setTop (mkF m 229 #[qI ia, qI ib, .val (.long ip), .second, qI 0, qI ja, qI xc_1, qI xc_2, qU, qU, qU, qU] [(.int (own_lc (47 : Int32))), (.int 10), (.ref b3), (.ref b3)]))
    rw [show T115.setTop (mkF m 229 #[qI ia, qI ib, .val (.long ip), .second, qI 0, qI ja, qI xc_1, qI xc_2, qU, qU, qU, qU] [(.int (own_lc (47 : Int32))), (.int 10), (.ref b3), (.ref b3)]) = T115.setTop (mkF m 229 #[qI ia, qI ib, .val (.long ip), .second, qI 0, qI ja, qI xc_1, qI xc_2, qU, qU, qU, qU] [(.int 47), (.int 10), (.ref b3), (.ref b3)]) from by rw [show own_lc (47 : Int32) = (47 : Int32) from by decide]]
    show Go p e below _ (T115.setTop (mkF m 229 #[qI ia, qI ib, .val (.long ip), .second, qI 0, qI ja, qI xc_1, qI xc_2, qU, qU, qU, qU] [(.int 47), (.int 10), (.ref b3), (.ref b3)]))
    have F120 : Exa Z T115.heap b3 "[C" := ((F109.wr W113).keep K115)
    have F121 : Arv Z T115.heap b3 k3 .char (18 : Int32) [(.int 47), (.int 98), (.int 97), (.int 114), (.int 101), (.int 45), (.int 108), (.int 111), (.int 99), (.int 107), (.int 0), (.int 0), (.int 0), (.int 0), (.int 0), (.int 0), (.int 0), (.int 0)] (.int 0) := (F114.keep K115 nin0)
    obtain ⟨cl122, Ar122, qk122, sz122, nn122, Ha122, Gf122⟩ := id F121
    have hin123 : ¬ ((10 : Int32) < 0 ∨ cl122.slots.size ≤ ((10 : Int32)).toNatClampNeg) := inb_of sz122 ⟨by decide, by decide⟩
    obtain ⟨T124, h124, X124, e124, W124, st124⟩ := stC X115 hx hZ rfl Ar122 (j := (10 : Int32)) hin123 (g := (mkF m 229 #[qI ia, qI ib, .val (.long ip), .second, qI 0, qI ja, qI xc_1, qI xc_2, qU, qU, qU, qU] [(.int 47), (.int 10), (.ref b3), (.ref b3)])) rfl rfl (hb hby at_229)
    have N124 := Fr.snoc X124 N115 ge3
    have F125 : Arv Z h124 b3 k3 .char (18 : Int32) [(.int 47), (.int 98), (.int 97), (.int 114), (.int 101), (.int 45), (.int 108), (.int 111), (.int 99), (.int 107), (.int 47), (.int 0), (.int 0), (.int 0), (.int 0), (.int 0), (.int 0), (.int 0)] (.int 0) := Arv.set Ar122 qk122 sz122 nn122 Ha122 Gf122 (fits_nar_char _) W124 10 rfl (Nat.le_of_ble_eq_true rfl)
    refine Go.by st124 ?_
    show Go p e below _ (T124.setTop (mkF m 230 #[qI ia, qI ib, .val (.long ip), .second, qI 0, qI ja, qI xc_1, qI xc_2, qU, qU, qU, qU] [(.ref b3)]))
    refine Go.by (fun t k => XS.dup X124.here hx rfl (hb hby at_230) rfl rfl (XS.bipush X124.here hx rfl (hb hby at_231) (XS.bipush X124.here hx rfl (hb hby at_233) (XS.iload X124.here hx rfl (hb hby at_235) rfl (XS.iload X124.here hx rfl (hb hby at_237) rfl (XS.iload X124.here hx rfl (hb hby at_239) rfl (XS.iload X124.here hx rfl (hb hby at_241) rfl (XS.lloadN X124.here hx rfl (hb hby at_243) rfl k)))))))) ?_
    show Go p e below _ (T124.setTop (mkF m 244 #[qI ia, qI ib, .val (.long ip), .second, qI 0, qI ja, qI xc_1, qI xc_2, qU, qU, qU, qU] [(.long ip), (.int xc_2), (.int xc_1), (.int ja), (.int 0), (.int 11), (.int 11), (.ref b3), (.ref b3)]))
    have F127 : Old Z n0 h124 := ((F116.keep K115 all0).wr W124 ge3)
    have F128 : Keep h0 h124 [] := ((F117.trans K115 all0).wr W124 (Or.inr sz3))
    obtain ⟨_, _, ⟨T126, L126, k126, n126⟩, -, X126, ⟨Lc126, hQ126, l126, y126, z126⟩, st126⟩ := Jvm.LawKit.callS X124 hx (y := (⟨"com/example/bare_lock/barelock/zookeeper/LockPathsChrootPinLaw", "at", "(IIICCJ)C"⟩ : MethodName)) hown (mvT hZ (hw _ (mg 7 rfl))) (mvT hZ (hw _ (mg 8 rfl))) (mvT hZ (hw _ (mg 4 rfl))) (mvT hZ (hw _ (mg 9 rfl))) (by decide) (backOf (W := 3) (at_tail l Z a0 hw [] (11 : Int32) (0 : Int32) ja xc_1 xc_2 ip h124 n0 F127 (by decide) (by decide)) hZ (hw _ (mg 9 rfl)) (hw _ (mg 4 rfl)) (by decide) (by decide)) (g := (mkF m 244 #[qI ia, qI ib, .val (.long ip), .second, qI 0, qI ja, qI xc_1, qI xc_2, qU, qU, qU, qU] [(.long ip), (.int xc_2), (.int xc_1), (.int ja), (.int 0), (.int 11), (.int 11), (.ref b3), (.ref b3)])) rfl (by rw [hml]; rfl) (argsL := [(.int 11), (.int 0), (.int ja), (.int xc_1), (.int xc_2), (.long ip)]) (rest := [(.int 11), (.ref b3), (.ref b3)]) (lenOf pd_23 rfl) rfl (by show 2 * 0 + _ ≤ _; exact Nat.le_of_eq rfl) (hb hby at_244) (fun _ _ => ⟨rfl, e124, (by decide : 23 + 0 ≤ _), (by decide : 546 + 0 ≤ _)⟩)
    dsimp only [Pt.U, Pt.locs, Pt.cells, Pt.slots] at X126 l126 y126 z126 st126 hQ126
    subst y126 z126
    obtain ⟨tv_126, rfl, N126q, e126, hr_126, he_126, hn_126⟩ := hQ126
    have N126 : Fr n0 L126 := by rw [l126]; exact Fr.app N124 N126q
    have X126 := own_mr X126 23 546 (by decide) (by decide)
    refine Go.by st126 ?_
    show Go p e below _ (T126.setTop (mkF m 247 #[qI ia, qI ib, .val (.long ip), .second, qI 0, qI ja, qI xc_1, qI xc_2, qU, qU, qU, qU] [(.int tv_126), (.int 11), (.ref b3), (.ref b3)]))
    have F129 : Exa Z h124 b3 "[C" := (F120.wr W124)
    obtain ⟨cl130, Ar130, qk130, sz130, nn130, Ha130, Gf130⟩ := id F125
    have hin131 : ¬ ((11 : Int32) < 0 ∨ cl130.slots.size ≤ ((11 : Int32)).toNatClampNeg) := inb_of sz130 ⟨by decide, by decide⟩
    obtain ⟨T132, h132, X132, e132, W132, st132⟩ := stC X126 hx hZ e126 Ar130 (j := (11 : Int32)) hin131 (g := (mkF m 247 #[qI ia, qI ib, .val (.long ip), .second, qI 0, qI ja, qI xc_1, qI xc_2, qU, qU, qU, qU] [(.int tv_126), (.int 11), (.ref b3), (.ref b3)])) rfl rfl (hb hby at_247)
    have N132 := Fr.snoc X132 N126 ge3
    have F133 : Arv Z h132 b3 k3 .char (18 : Int32) [(.int 47), (.int 98), (.int 97), (.int 114), (.int 101), (.int 45), (.int 108), (.int 111), (.int 99), (.int 107), (.int 47), (.int (nar .char tv_126)), (.int 0), (.int 0), (.int 0), (.int 0), (.int 0), (.int 0)] (.int 0) := Arv.set Ar130 qk130 sz130 nn130 Ha130 Gf130 (fits_nar_char _) W132 11 rfl (Nat.le_of_ble_eq_true rfl)
    refine Go.by st132 ?_
    show Go p e below _ (T132.setTop (mkF m 248 #[qI ia, qI ib, .val (.long ip), .second, qI 0, qI ja, qI xc_1, qI xc_2, qU, qU, qU, qU] [(.ref b3)]))
    refine Go.by (fun t k => XS.dup X132.here hx rfl (hb hby at_248) rfl rfl (XS.bipush X132.here hx rfl (hb hby at_249) (XS.bipush X132.here hx rfl (hb hby at_251) (XS.iload X132.here hx rfl (hb hby at_253) rfl (XS.iload X132.here hx rfl (hb hby at_255) rfl (XS.iload X132.here hx rfl (hb hby at_257) rfl (XS.iload X132.here hx rfl (hb hby at_259) rfl (XS.lloadN X132.here hx rfl (hb hby at_261) rfl k)))))))) ?_
    show Go p e below _ (T132.setTop (mkF m 262 #[qI ia, qI ib, .val (.long ip), .second, qI 0, qI ja, qI xc_1, qI xc_2, qU, qU, qU, qU] [(.long ip), (.int xc_2), (.int xc_1), (.int ja), (.int 0), (.int 12), (.int 12), (.ref b3), (.ref b3)]))
    have F135 : Old Z n0 h132 := (F127.wr W132 ge3)
    have F136 : Keep h0 h132 [] := (F128.wr W132 (Or.inr sz3))
    obtain ⟨_, _, ⟨T134, L134, k134, n134⟩, -, X134, ⟨Lc134, hQ134, l134, y134, z134⟩, st134⟩ := Jvm.LawKit.callS X132 hx (y := (⟨"com/example/bare_lock/barelock/zookeeper/LockPathsChrootPinLaw", "at", "(IIICCJ)C"⟩ : MethodName)) hown (mvT hZ (hw _ (mg 7 rfl))) (mvT hZ (hw _ (mg 8 rfl))) (mvT hZ (hw _ (mg 4 rfl))) (mvT hZ (hw _ (mg 9 rfl))) (by decide) (backOf (W := 3) (at_tail l Z a0 hw [] (12 : Int32) (0 : Int32) ja xc_1 xc_2 ip h132 n0 F135 (by decide) (by decide)) hZ (hw _ (mg 9 rfl)) (hw _ (mg 4 rfl)) (by decide) (by decide)) (g := (mkF m 262 #[qI ia, qI ib, .val (.long ip), .second, qI 0, qI ja, qI xc_1, qI xc_2, qU, qU, qU, qU] [(.long ip), (.int xc_2), (.int xc_1), (.int ja), (.int 0), (.int 12), (.int 12), (.ref b3), (.ref b3)])) rfl (by rw [hml]; rfl) (argsL := [(.int 12), (.int 0), (.int ja), (.int xc_1), (.int xc_2), (.long ip)]) (rest := [(.int 12), (.ref b3), (.ref b3)]) (lenOf pd_23 rfl) rfl (by show 2 * 0 + _ ≤ _; exact Nat.le_of_eq rfl) (hb hby at_262) (fun _ _ => ⟨rfl, e132, (by decide : 23 + 0 ≤ _), (by decide : 546 + 0 ≤ _)⟩)
    dsimp only [Pt.U, Pt.locs, Pt.cells, Pt.slots] at X134 l134 y134 z134 st134 hQ134
    subst y134 z134
    obtain ⟨tv_134, rfl, N134q, e134, hr_134, he_134, hn_134⟩ := hQ134
    have N134 : Fr n0 L134 := by rw [l134]; exact Fr.app N132 N134q
    have X134 := own_mr X134 23 546 (by decide) (by decide)
    refine Go.by st134 ?_
    show Go p e below _ (T134.setTop (mkF m 265 #[qI ia, qI ib, .val (.long ip), .second, qI 0, qI ja, qI xc_1, qI xc_2, qU, qU, qU, qU] [(.int tv_134), (.int 12), (.ref b3), (.ref b3)]))
    have F137 : Exa Z h132 b3 "[C" := (F129.wr W132)
    obtain ⟨cl138, Ar138, qk138, sz138, nn138, Ha138, Gf138⟩ := id F133
    have hin139 : ¬ ((12 : Int32) < 0 ∨ cl138.slots.size ≤ ((12 : Int32)).toNatClampNeg) := inb_of sz138 ⟨by decide, by decide⟩
    obtain ⟨T140, h140, X140, e140, W140, st140⟩ := stC X134 hx hZ e134 Ar138 (j := (12 : Int32)) hin139 (g := (mkF m 265 #[qI ia, qI ib, .val (.long ip), .second, qI 0, qI ja, qI xc_1, qI xc_2, qU, qU, qU, qU] [(.int tv_134), (.int 12), (.ref b3), (.ref b3)])) rfl rfl (hb hby at_265)
    have N140 := Fr.snoc X140 N134 ge3
    have F141 : Arv Z h140 b3 k3 .char (18 : Int32) [(.int 47), (.int 98), (.int 97), (.int 114), (.int 101), (.int 45), (.int 108), (.int 111), (.int 99), (.int 107), (.int 47), (.int (nar .char tv_126)), (.int (nar .char tv_134)), (.int 0), (.int 0), (.int 0), (.int 0), (.int 0)] (.int 0) := Arv.set Ar138 qk138 sz138 nn138 Ha138 Gf138 (fits_nar_char _) W140 12 rfl (Nat.le_of_ble_eq_true rfl)
    refine Go.by st140 ?_
    show Go p e below _ (T140.setTop (mkF m 266 #[qI ia, qI ib, .val (.long ip), .second, qI 0, qI ja, qI xc_1, qI xc_2, qU, qU, qU, qU] [(.ref b3)]))
    refine Go.by (fun t k => XS.dup X140.here hx rfl (hb hby at_266) rfl rfl (XS.bipush X140.here hx rfl (hb hby at_267) (XS.bipush X140.here hx rfl (hb hby at_269) (XS.iload X140.here hx rfl (hb hby at_271) rfl (XS.iload X140.here hx rfl (hb hby at_273) rfl (XS.iload X140.here hx rfl (hb hby at_275) rfl (XS.iload X140.here hx rfl (hb hby at_277) rfl (XS.lloadN X140.here hx rfl (hb hby at_279) rfl k)))))))) ?_
    show Go p e below _ (T140.setTop (mkF m 280 #[qI ia, qI ib, .val (.long ip), .second, qI 0, qI ja, qI xc_1, qI xc_2, qU, qU, qU, qU] [(.long ip), (.int xc_2), (.int xc_1), (.int ja), (.int 0), (.int 13), (.int 13), (.ref b3), (.ref b3)]))
    have F143 : Old Z n0 h140 := (F135.wr W140 ge3)
    have F144 : Keep h0 h140 [] := (F136.wr W140 (Or.inr sz3))
    obtain ⟨_, _, ⟨T142, L142, k142, n142⟩, -, X142, ⟨Lc142, hQ142, l142, y142, z142⟩, st142⟩ := Jvm.LawKit.callS X140 hx (y := (⟨"com/example/bare_lock/barelock/zookeeper/LockPathsChrootPinLaw", "at", "(IIICCJ)C"⟩ : MethodName)) hown (mvT hZ (hw _ (mg 7 rfl))) (mvT hZ (hw _ (mg 8 rfl))) (mvT hZ (hw _ (mg 4 rfl))) (mvT hZ (hw _ (mg 9 rfl))) (by decide) (backOf (W := 3) (at_tail l Z a0 hw [] (13 : Int32) (0 : Int32) ja xc_1 xc_2 ip h140 n0 F143 (by decide) (by decide)) hZ (hw _ (mg 9 rfl)) (hw _ (mg 4 rfl)) (by decide) (by decide)) (g := (mkF m 280 #[qI ia, qI ib, .val (.long ip), .second, qI 0, qI ja, qI xc_1, qI xc_2, qU, qU, qU, qU] [(.long ip), (.int xc_2), (.int xc_1), (.int ja), (.int 0), (.int 13), (.int 13), (.ref b3), (.ref b3)])) rfl (by rw [hml]; rfl) (argsL := [(.int 13), (.int 0), (.int ja), (.int xc_1), (.int xc_2), (.long ip)]) (rest := [(.int 13), (.ref b3), (.ref b3)]) (lenOf pd_23 rfl) rfl (by show 2 * 0 + _ ≤ _; exact Nat.le_of_eq rfl) (hb hby at_280) (fun _ _ => ⟨rfl, e140, (by decide : 23 + 0 ≤ _), (by decide : 546 + 0 ≤ _)⟩)
    dsimp only [Pt.U, Pt.locs, Pt.cells, Pt.slots] at X142 l142 y142 z142 st142 hQ142
    subst y142 z142
    obtain ⟨tv_142, rfl, N142q, e142, hr_142, he_142, hn_142⟩ := hQ142
    have N142 : Fr n0 L142 := by rw [l142]; exact Fr.app N140 N142q
    have X142 := own_mr X142 23 546 (by decide) (by decide)
    refine Go.by st142 ?_
    show Go p e below _ (T142.setTop (mkF m 283 #[qI ia, qI ib, .val (.long ip), .second, qI 0, qI ja, qI xc_1, qI xc_2, qU, qU, qU, qU] [(.int tv_142), (.int 13), (.ref b3), (.ref b3)]))
    have F145 : Exa Z h140 b3 "[C" := (F137.wr W140)
    obtain ⟨cl146, Ar146, qk146, sz146, nn146, Ha146, Gf146⟩ := id F141
    have hin147 : ¬ ((13 : Int32) < 0 ∨ cl146.slots.size ≤ ((13 : Int32)).toNatClampNeg) := inb_of sz146 ⟨by decide, by decide⟩
    obtain ⟨T148, h148, X148, e148, W148, st148⟩ := stC X142 hx hZ e142 Ar146 (j := (13 : Int32)) hin147 (g := (mkF m 283 #[qI ia, qI ib, .val (.long ip), .second, qI 0, qI ja, qI xc_1, qI xc_2, qU, qU, qU, qU] [(.int tv_142), (.int 13), (.ref b3), (.ref b3)])) rfl rfl (hb hby at_283)
    have N148 := Fr.snoc X148 N142 ge3
    have F149 : Arv Z h148 b3 k3 .char (18 : Int32) [(.int 47), (.int 98), (.int 97), (.int 114), (.int 101), (.int 45), (.int 108), (.int 111), (.int 99), (.int 107), (.int 47), (.int (nar .char tv_126)), (.int (nar .char tv_134)), (.int (nar .char tv_142)), (.int 0), (.int 0), (.int 0), (.int 0)] (.int 0) := Arv.set Ar146 qk146 sz146 nn146 Ha146 Gf146 (fits_nar_char _) W148 13 rfl (Nat.le_of_ble_eq_true rfl)
    refine Go.by st148 ?_
    show Go p e below _ (T148.setTop (mkF m 284 #[qI ia, qI ib, .val (.long ip), .second, qI 0, qI ja, qI xc_1, qI xc_2, qU, qU, qU, qU] [(.ref b3)]))
    refine Go.by (fun t k => XS.dup X148.here hx rfl (hb hby at_284) rfl rfl (XS.bipush X148.here hx rfl (hb hby at_285) (XS.bipush X148.here hx rfl (hb hby at_287) (XS.iload X148.here hx rfl (hb hby at_289) rfl (XS.iload X148.here hx rfl (hb hby at_291) rfl (XS.iload X148.here hx rfl (hb hby at_293) rfl (XS.iload X148.here hx rfl (hb hby at_295) rfl (XS.lloadN X148.here hx rfl (hb hby at_297) rfl k)))))))) ?_
    show Go p e below _ (T148.setTop (mkF m 298 #[qI ia, qI ib, .val (.long ip), .second, qI 0, qI ja, qI xc_1, qI xc_2, qU, qU, qU, qU] [(.long ip), (.int xc_2), (.int xc_1), (.int ja), (.int 0), (.int 14), (.int 14), (.ref b3), (.ref b3)]))
    have F151 : Old Z n0 h148 := (F143.wr W148 ge3)
    have F152 : Keep h0 h148 [] := (F144.wr W148 (Or.inr sz3))
    obtain ⟨_, _, ⟨T150, L150, k150, n150⟩, -, X150, ⟨Lc150, hQ150, l150, y150, z150⟩, st150⟩ := Jvm.LawKit.callS X148 hx (y := (⟨"com/example/bare_lock/barelock/zookeeper/LockPathsChrootPinLaw", "at", "(IIICCJ)C"⟩ : MethodName)) hown (mvT hZ (hw _ (mg 7 rfl))) (mvT hZ (hw _ (mg 8 rfl))) (mvT hZ (hw _ (mg 4 rfl))) (mvT hZ (hw _ (mg 9 rfl))) (by decide) (backOf (W := 3) (at_tail l Z a0 hw [] (14 : Int32) (0 : Int32) ja xc_1 xc_2 ip h148 n0 F151 (by decide) (by decide)) hZ (hw _ (mg 9 rfl)) (hw _ (mg 4 rfl)) (by decide) (by decide)) (g := (mkF m 298 #[qI ia, qI ib, .val (.long ip), .second, qI 0, qI ja, qI xc_1, qI xc_2, qU, qU, qU, qU] [(.long ip), (.int xc_2), (.int xc_1), (.int ja), (.int 0), (.int 14), (.int 14), (.ref b3), (.ref b3)])) rfl (by rw [hml]; rfl) (argsL := [(.int 14), (.int 0), (.int ja), (.int xc_1), (.int xc_2), (.long ip)]) (rest := [(.int 14), (.ref b3), (.ref b3)]) (lenOf pd_23 rfl) rfl (by show 2 * 0 + _ ≤ _; exact Nat.le_of_eq rfl) (hb hby at_298) (fun _ _ => ⟨rfl, e148, (by decide : 23 + 0 ≤ _), (by decide : 546 + 0 ≤ _)⟩)
    dsimp only [Pt.U, Pt.locs, Pt.cells, Pt.slots] at X150 l150 y150 z150 st150 hQ150
    subst y150 z150
    obtain ⟨tv_150, rfl, N150q, e150, hr_150, he_150, hn_150⟩ := hQ150
    have N150 : Fr n0 L150 := by rw [l150]; exact Fr.app N148 N150q
    have X150 := own_mr X150 23 546 (by decide) (by decide)
    refine Go.by st150 ?_
    show Go p e below _ (T150.setTop (mkF m 301 #[qI ia, qI ib, .val (.long ip), .second, qI 0, qI ja, qI xc_1, qI xc_2, qU, qU, qU, qU] [(.int tv_150), (.int 14), (.ref b3), (.ref b3)]))
    have F153 : Exa Z h148 b3 "[C" := (F145.wr W148)
    obtain ⟨cl154, Ar154, qk154, sz154, nn154, Ha154, Gf154⟩ := id F149
    have hin155 : ¬ ((14 : Int32) < 0 ∨ cl154.slots.size ≤ ((14 : Int32)).toNatClampNeg) := inb_of sz154 ⟨by decide, by decide⟩
    obtain ⟨T156, h156, X156, e156, W156, st156⟩ := stC X150 hx hZ e150 Ar154 (j := (14 : Int32)) hin155 (g := (mkF m 301 #[qI ia, qI ib, .val (.long ip), .second, qI 0, qI ja, qI xc_1, qI xc_2, qU, qU, qU, qU] [(.int tv_150), (.int 14), (.ref b3), (.ref b3)])) rfl rfl (hb hby at_301)
    have N156 := Fr.snoc X156 N150 ge3
    have F157 : Arv Z h156 b3 k3 .char (18 : Int32) [(.int 47), (.int 98), (.int 97), (.int 114), (.int 101), (.int 45), (.int 108), (.int 111), (.int 99), (.int 107), (.int 47), (.int (nar .char tv_126)), (.int (nar .char tv_134)), (.int (nar .char tv_142)), (.int (nar .char tv_150)), (.int 0), (.int 0), (.int 0)] (.int 0) := Arv.set Ar154 qk154 sz154 nn154 Ha154 Gf154 (fits_nar_char _) W156 14 rfl (Nat.le_of_ble_eq_true rfl)
    refine Go.by st156 ?_
    show Go p e below _ (T156.setTop (mkF m 302 #[qI ia, qI ib, .val (.long ip), .second, qI 0, qI ja, qI xc_1, qI xc_2, qU, qU, qU, qU] [(.ref b3)]))
    refine Go.by (fun t k => XS.dup X156.here hx rfl (hb hby at_302) rfl rfl (XS.bipush X156.here hx rfl (hb hby at_303) (XS.bipush X156.here hx rfl (hb hby at_305) (XS.iload X156.here hx rfl (hb hby at_307) rfl (XS.iload X156.here hx rfl (hb hby at_309) rfl (XS.iload X156.here hx rfl (hb hby at_311) rfl (XS.iload X156.here hx rfl (hb hby at_313) rfl (XS.lloadN X156.here hx rfl (hb hby at_315) rfl k)))))))) ?_
    show Go p e below _ (T156.setTop (mkF m 316 #[qI ia, qI ib, .val (.long ip), .second, qI 0, qI ja, qI xc_1, qI xc_2, qU, qU, qU, qU] [(.long ip), (.int xc_2), (.int xc_1), (.int ja), (.int 0), (.int 15), (.int 15), (.ref b3), (.ref b3)]))
    have F159 : Old Z n0 h156 := (F151.wr W156 ge3)
    have F160 : Keep h0 h156 [] := (F152.wr W156 (Or.inr sz3))
    obtain ⟨_, _, ⟨T158, L158, k158, n158⟩, -, X158, ⟨Lc158, hQ158, l158, y158, z158⟩, st158⟩ := Jvm.LawKit.callS X156 hx (y := (⟨"com/example/bare_lock/barelock/zookeeper/LockPathsChrootPinLaw", "at", "(IIICCJ)C"⟩ : MethodName)) hown (mvT hZ (hw _ (mg 7 rfl))) (mvT hZ (hw _ (mg 8 rfl))) (mvT hZ (hw _ (mg 4 rfl))) (mvT hZ (hw _ (mg 9 rfl))) (by decide) (backOf (W := 3) (at_tail l Z a0 hw [] (15 : Int32) (0 : Int32) ja xc_1 xc_2 ip h156 n0 F159 (by decide) (by decide)) hZ (hw _ (mg 9 rfl)) (hw _ (mg 4 rfl)) (by decide) (by decide)) (g := (mkF m 316 #[qI ia, qI ib, .val (.long ip), .second, qI 0, qI ja, qI xc_1, qI xc_2, qU, qU, qU, qU] [(.long ip), (.int xc_2), (.int xc_1), (.int ja), (.int 0), (.int 15), (.int 15), (.ref b3), (.ref b3)])) rfl (by rw [hml]; rfl) (argsL := [(.int 15), (.int 0), (.int ja), (.int xc_1), (.int xc_2), (.long ip)]) (rest := [(.int 15), (.ref b3), (.ref b3)]) (lenOf pd_23 rfl) rfl (by show 2 * 0 + _ ≤ _; exact Nat.le_of_eq rfl) (hb hby at_316) (fun _ _ => ⟨rfl, e156, (by decide : 23 + 0 ≤ _), (by decide : 546 + 0 ≤ _)⟩)
    dsimp only [Pt.U, Pt.locs, Pt.cells, Pt.slots] at X158 l158 y158 z158 st158 hQ158
    subst y158 z158
    obtain ⟨tv_158, rfl, N158q, e158, hr_158, he_158, hn_158⟩ := hQ158
    have N158 : Fr n0 L158 := by rw [l158]; exact Fr.app N156 N158q
    have X158 := own_mr X158 23 546 (by decide) (by decide)
    refine Go.by st158 ?_
    show Go p e below _ (T158.setTop (mkF m 319 #[qI ia, qI ib, .val (.long ip), .second, qI 0, qI ja, qI xc_1, qI xc_2, qU, qU, qU, qU] [(.int tv_158), (.int 15), (.ref b3), (.ref b3)]))
    have F161 : Exa Z h156 b3 "[C" := (F153.wr W156)
    obtain ⟨cl162, Ar162, qk162, sz162, nn162, Ha162, Gf162⟩ := id F157
    have hin163 : ¬ ((15 : Int32) < 0 ∨ cl162.slots.size ≤ ((15 : Int32)).toNatClampNeg) := inb_of sz162 ⟨by decide, by decide⟩
    obtain ⟨T164, h164, X164, e164, W164, st164⟩ := stC X158 hx hZ e158 Ar162 (j := (15 : Int32)) hin163 (g := (mkF m 319 #[qI ia, qI ib, .val (.long ip), .second, qI 0, qI ja, qI xc_1, qI xc_2, qU, qU, qU, qU] [(.int tv_158), (.int 15), (.ref b3), (.ref b3)])) rfl rfl (hb hby at_319)
    have N164 := Fr.snoc X164 N158 ge3
    have F165 : Arv Z h164 b3 k3 .char (18 : Int32) [(.int 47), (.int 98), (.int 97), (.int 114), (.int 101), (.int 45), (.int 108), (.int 111), (.int 99), (.int 107), (.int 47), (.int (nar .char tv_126)), (.int (nar .char tv_134)), (.int (nar .char tv_142)), (.int (nar .char tv_150)), (.int (nar .char tv_158)), (.int 0), (.int 0)] (.int 0) := Arv.set Ar162 qk162 sz162 nn162 Ha162 Gf162 (fits_nar_char _) W164 15 rfl (Nat.le_of_ble_eq_true rfl)
    refine Go.by st164 ?_
    show Go p e below _ (T164.setTop (mkF m 320 #[qI ia, qI ib, .val (.long ip), .second, qI 0, qI ja, qI xc_1, qI xc_2, qU, qU, qU, qU] [(.ref b3)]))
    refine Go.by (fun t k => XS.dup X164.here hx rfl (hb hby at_320) rfl rfl (XS.bipush X164.here hx rfl (hb hby at_321) (XS.bipush X164.here hx rfl (hb hby at_323) (XS.iload X164.here hx rfl (hb hby at_325) rfl (XS.iload X164.here hx rfl (hb hby at_327) rfl (XS.iload X164.here hx rfl (hb hby at_329) rfl (XS.iload X164.here hx rfl (hb hby at_331) rfl (XS.lloadN X164.here hx rfl (hb hby at_333) rfl k)))))))) ?_
    show Go p e below _ (T164.setTop (mkF m 334 #[qI ia, qI ib, .val (.long ip), .second, qI 0, qI ja, qI xc_1, qI xc_2, qU, qU, qU, qU] [(.long ip), (.int xc_2), (.int xc_1), (.int ja), (.int 0), (.int 16), (.int 16), (.ref b3), (.ref b3)]))
    have F167 : Old Z n0 h164 := (F159.wr W164 ge3)
    have F168 : Keep h0 h164 [] := (F160.wr W164 (Or.inr sz3))
    obtain ⟨_, _, ⟨T166, L166, k166, n166⟩, -, X166, ⟨Lc166, hQ166, l166, y166, z166⟩, st166⟩ := Jvm.LawKit.callS X164 hx (y := (⟨"com/example/bare_lock/barelock/zookeeper/LockPathsChrootPinLaw", "at", "(IIICCJ)C"⟩ : MethodName)) hown (mvT hZ (hw _ (mg 7 rfl))) (mvT hZ (hw _ (mg 8 rfl))) (mvT hZ (hw _ (mg 4 rfl))) (mvT hZ (hw _ (mg 9 rfl))) (by decide) (backOf (W := 3) (at_tail l Z a0 hw [] (16 : Int32) (0 : Int32) ja xc_1 xc_2 ip h164 n0 F167 (by decide) (by decide)) hZ (hw _ (mg 9 rfl)) (hw _ (mg 4 rfl)) (by decide) (by decide)) (g := (mkF m 334 #[qI ia, qI ib, .val (.long ip), .second, qI 0, qI ja, qI xc_1, qI xc_2, qU, qU, qU, qU] [(.long ip), (.int xc_2), (.int xc_1), (.int ja), (.int 0), (.int 16), (.int 16), (.ref b3), (.ref b3)])) rfl (by rw [hml]; rfl) (argsL := [(.int 16), (.int 0), (.int ja), (.int xc_1), (.int xc_2), (.long ip)]) (rest := [(.int 16), (.ref b3), (.ref b3)]) (lenOf pd_23 rfl) rfl (by show 2 * 0 + _ ≤ _; exact Nat.le_of_eq rfl) (hb hby at_334) (fun _ _ => ⟨rfl, e164, (by decide : 23 + 0 ≤ _), (by decide : 546 + 0 ≤ _)⟩)
    dsimp only [Pt.U, Pt.locs, Pt.cells, Pt.slots] at X166 l166 y166 z166 st166 hQ166
    subst y166 z166
    obtain ⟨tv_166, rfl, N166q, e166, hr_166, he_166, hn_166⟩ := hQ166
    have N166 : Fr n0 L166 := by rw [l166]; exact Fr.app N164 N166q
    have X166 := own_mr X166 23 546 (by decide) (by decide)
    refine Go.by st166 ?_
    show Go p e below _ (T166.setTop (mkF m 337 #[qI ia, qI ib, .val (.long ip), .second, qI 0, qI ja, qI xc_1, qI xc_2, qU, qU, qU, qU] [(.int tv_166), (.int 16), (.ref b3), (.ref b3)]))
    have F169 : Exa Z h164 b3 "[C" := (F161.wr W164)
    obtain ⟨cl170, Ar170, qk170, sz170, nn170, Ha170, Gf170⟩ := id F165
    have hin171 : ¬ ((16 : Int32) < 0 ∨ cl170.slots.size ≤ ((16 : Int32)).toNatClampNeg) := inb_of sz170 ⟨by decide, by decide⟩
    obtain ⟨T172, h172, X172, e172, W172, st172⟩ := stC X166 hx hZ e166 Ar170 (j := (16 : Int32)) hin171 (g := (mkF m 337 #[qI ia, qI ib, .val (.long ip), .second, qI 0, qI ja, qI xc_1, qI xc_2, qU, qU, qU, qU] [(.int tv_166), (.int 16), (.ref b3), (.ref b3)])) rfl rfl (hb hby at_337)
    have N172 := Fr.snoc X172 N166 ge3
    have F173 : Arv Z h172 b3 k3 .char (18 : Int32) [(.int 47), (.int 98), (.int 97), (.int 114), (.int 101), (.int 45), (.int 108), (.int 111), (.int 99), (.int 107), (.int 47), (.int (nar .char tv_126)), (.int (nar .char tv_134)), (.int (nar .char tv_142)), (.int (nar .char tv_150)), (.int (nar .char tv_158)), (.int (nar .char tv_166)), (.int 0)] (.int 0) := Arv.set Ar170 qk170 sz170 nn170 Ha170 Gf170 (fits_nar_char _) W172 16 rfl (Nat.le_of_ble_eq_true rfl)
    refine Go.by st172 ?_
    show Go p e below _ (T172.setTop (mkF m 338 #[qI ia, qI ib, .val (.long ip), .second, qI 0, qI ja, qI xc_1, qI xc_2, qU, qU, qU, qU] [(.ref b3)]))
    refine Go.by (fun t k => XS.dup X172.here hx rfl (hb hby at_338) rfl rfl (XS.bipush X172.here hx rfl (hb hby at_339) (XS.bipush X172.here hx rfl (hb hby at_341) (XS.iload X172.here hx rfl (hb hby at_343) rfl (XS.iload X172.here hx rfl (hb hby at_345) rfl (XS.iload X172.here hx rfl (hb hby at_347) rfl (XS.iload X172.here hx rfl (hb hby at_349) rfl (XS.lloadN X172.here hx rfl (hb hby at_351) rfl k)))))))) ?_
    show Go p e below _ (T172.setTop (mkF m 352 #[qI ia, qI ib, .val (.long ip), .second, qI 0, qI ja, qI xc_1, qI xc_2, qU, qU, qU, qU] [(.long ip), (.int xc_2), (.int xc_1), (.int ja), (.int 0), (.int 17), (.int 17), (.ref b3), (.ref b3)]))
    have F175 : Old Z n0 h172 := (F167.wr W172 ge3)
    have F176 : Keep h0 h172 [] := (F168.wr W172 (Or.inr sz3))
    obtain ⟨_, _, ⟨T174, L174, k174, n174⟩, -, X174, ⟨Lc174, hQ174, l174, y174, z174⟩, st174⟩ := Jvm.LawKit.callS X172 hx (y := (⟨"com/example/bare_lock/barelock/zookeeper/LockPathsChrootPinLaw", "at", "(IIICCJ)C"⟩ : MethodName)) hown (mvT hZ (hw _ (mg 7 rfl))) (mvT hZ (hw _ (mg 8 rfl))) (mvT hZ (hw _ (mg 4 rfl))) (mvT hZ (hw _ (mg 9 rfl))) (by decide) (backOf (W := 3) (at_tail l Z a0 hw [] (17 : Int32) (0 : Int32) ja xc_1 xc_2 ip h172 n0 F175 (by decide) (by decide)) hZ (hw _ (mg 9 rfl)) (hw _ (mg 4 rfl)) (by decide) (by decide)) (g := (mkF m 352 #[qI ia, qI ib, .val (.long ip), .second, qI 0, qI ja, qI xc_1, qI xc_2, qU, qU, qU, qU] [(.long ip), (.int xc_2), (.int xc_1), (.int ja), (.int 0), (.int 17), (.int 17), (.ref b3), (.ref b3)])) rfl (by rw [hml]; rfl) (argsL := [(.int 17), (.int 0), (.int ja), (.int xc_1), (.int xc_2), (.long ip)]) (rest := [(.int 17), (.ref b3), (.ref b3)]) (lenOf pd_23 rfl) rfl (by show 2 * 0 + _ ≤ _; exact Nat.le_of_eq rfl) (hb hby at_352) (fun _ _ => ⟨rfl, e172, (by decide : 23 + 0 ≤ _), (by decide : 546 + 0 ≤ _)⟩)
    dsimp only [Pt.U, Pt.locs, Pt.cells, Pt.slots] at X174 l174 y174 z174 st174 hQ174
    subst y174 z174
    obtain ⟨tv_174, rfl, N174q, e174, hr_174, he_174, hn_174⟩ := hQ174
    have N174 : Fr n0 L174 := by rw [l174]; exact Fr.app N172 N174q
    have X174 := own_mr X174 23 546 (by decide) (by decide)
    refine Go.by st174 ?_
    show Go p e below _ (T174.setTop (mkF m 355 #[qI ia, qI ib, .val (.long ip), .second, qI 0, qI ja, qI xc_1, qI xc_2, qU, qU, qU, qU] [(.int tv_174), (.int 17), (.ref b3), (.ref b3)]))
    have F177 : Exa Z h172 b3 "[C" := (F169.wr W172)
    obtain ⟨cl178, Ar178, qk178, sz178, nn178, Ha178, Gf178⟩ := id F173
    have hin179 : ¬ ((17 : Int32) < 0 ∨ cl178.slots.size ≤ ((17 : Int32)).toNatClampNeg) := inb_of sz178 ⟨by decide, by decide⟩
    obtain ⟨T180, h180, X180, e180, W180, st180⟩ := stC X174 hx hZ e174 Ar178 (j := (17 : Int32)) hin179 (g := (mkF m 355 #[qI ia, qI ib, .val (.long ip), .second, qI 0, qI ja, qI xc_1, qI xc_2, qU, qU, qU, qU] [(.int tv_174), (.int 17), (.ref b3), (.ref b3)])) rfl rfl (hb hby at_355)
    have N180 := Fr.snoc X180 N174 ge3
    have F181 : Arv Z h180 b3 k3 .char (18 : Int32) [(.int 47), (.int 98), (.int 97), (.int 114), (.int 101), (.int 45), (.int 108), (.int 111), (.int 99), (.int 107), (.int 47), (.int (nar .char tv_126)), (.int (nar .char tv_134)), (.int (nar .char tv_142)), (.int (nar .char tv_150)), (.int (nar .char tv_158)), (.int (nar .char tv_166)), (.int (nar .char tv_174))] (.int 0) := Arv.set Ar178 qk178 sz178 nn178 Ha178 Gf178 (fits_nar_char _) W180 17 rfl (Nat.le_of_ble_eq_true rfl)
    refine Go.by st180 ?_
    show Go p e below _ (T180.setTop (mkF m 356 #[qI ia, qI ib, .val (.long ip), .second, qI 0, qI ja, qI xc_1, qI xc_2, qU, qU, qU, qU] [(.ref b3)]))
    have F182 : Arv Z h180 b3 k3 .char (18 : Int32) [(.int 47), (.int 98), (.int 97), (.int 114), (.int 101), (.int 45), (.int 108), (.int 111), (.int 99), (.int 107), (.int 47), (.int tv_126), (.int tv_134), (.int tv_142), (.int tv_150), (.int tv_158), (.int tv_166), (.int tv_174)] (.int 0) := by have q := F181; rw [own_narc hr_126, own_narc hr_134, own_narc hr_142, own_narc hr_150, own_narc hr_158, own_narc hr_166, own_narc hr_174] at q; exact q
    refine Go.by (fun t k => XS.astore X180.here hx rfl (hb hby at_356) rfl rfl (l' := #[qI ia, qI ib, .val (.long ip), .second, qI 0, qI ja, qI xc_1, qI xc_2, .val (.ref b3), qU, qU, qU]) rfl k) ?_
    show Go p e below _ (T180.setTop (mkF m 358 #[qI ia, qI ib, .val (.long ip), .second, qI 0, qI ja, qI xc_1, qI xc_2, .val (.ref b3), qU, qU, qU] []))
    have F183 : Exa Z h180 b3 "[C" := (F177.wr W180)
    have F184 : Old Z n0 h180 := (F175.wr W180 ge3)
    have F185 : Keep h0 h180 [] := (F176.wr W180 (Or.inr sz3))
    obtain ⟨T186, h186, X186, e186, E186, A186, D186, -, st186⟩ := newO X180 hx hZ hown (hw _ (mg 47 rfl)) (hw _ (mg 12 rfl)) (hw _ (mg 11 rfl)) e180 (g := (mkF m 358 #[qI ia, qI ib, .val (.long ip), .second, qI 0, qI ja, qI xc_1, qI xc_2, .val (.ref b3), qU, qU, qU] [])) rfl (hb hby at_358) (by decide) (by decide)
    obtain ⟨b186, g186⟩ : ∃ z, z = h180.size := ⟨_, rfl⟩
    rw [← g186] at A186 D186 st186
    have gl186 : h180.size ≤ b186 := Nat.le_of_eq g186.symm
    have ge186 : n0 ≤ b186 := Nat.le_trans (own_old_size F184) gl186
    have sz186 : h0.size ≤ b186 := Nat.le_trans F185.1 gl186
    have ne187 : b3 ≠ b186 := Nat.ne_of_lt (Nat.lt_of_lt_of_le F183.lt gl186)
    have F188 : Fld Z h186 b186 "java/lang/String" "value" "[B" .null := D186 (Or.inr (hw _ (mg 14 rfl))) (ty := (.array .byte)) (by decide)
    have F189 : Fld Z h186 b186 "java/lang/String" "coder" "B" (.int 0) := D186 (Or.inr (hw _ (mg 15 rfl))) (ty := .byte) (by decide)
    refine Go.by st186 ?_
    show Go p e below _ (T186.setTop (mkF m 361 #[qI ia, qI ib, .val (.long ip), .second, qI 0, qI ja, qI xc_1, qI xc_2, .val (.ref b3), qU, qU, qU] [(.ref b186)]))
    refine Go.by (fun t k => XS.dup X186.here hx rfl (hb hby at_361) rfl rfl (XS.aload X186.here hx rfl (hb hby at_362) rfl rfl k)) ?_
    show Go p e below _ (T186.setTop (mkF m 364 #[qI ia, qI ib, .val (.long ip), .second, qI 0, qI ja, qI xc_1, qI xc_2, .val (.ref b3), qU, qU, qU] [(.ref b3), (.ref b186), (.ref b186)]))
    have F191 : Old Z n0 h186 := (F184.ext E186)
    have F192 : Arv Z h186 b3 k3 .char (18 : Int32) [(.int 47), (.int 98), (.int 97), (.int 114), (.int 101), (.int 45), (.int 108), (.int 111), (.int 99), (.int 107), (.int 47), (.int tv_126), (.int tv_134), (.int tv_142), (.int tv_150), (.int tv_158), (.int tv_166), (.int tv_174)] (.int 0) := (F182.ext E186)
    have F193 : Exa Z h186 b3 "[C" := (F183.ext E186)
    have F194 : Keep h0 h186 [] := (F185.ext E186)
    obtain ⟨_, _, ⟨T190, L190, k190, n190⟩, -, X190, ⟨Lc190, hQ190, l190, y190, z190⟩, st190⟩ := X186.specialBack hx (y := (⟨"java/lang/String", "<init>", "([C)V"⟩ : MethodName)) rfl hown (mvT hZ (hw _ (mg 48 rfl))) (mvT hZ (hw _ (mg 49 rfl))) (mvT hZ (hw _ (mg 50 rfl))) (by decide) (backOf (W := 1) (init1_18 l Z a0 hw [] b186 b3 k3 (47 : Int32) (98 : Int32) (97 : Int32) (114 : Int32) (101 : Int32) (45 : Int32) (108 : Int32) (111 : Int32) (99 : Int32) (107 : Int32) (47 : Int32) tv_126 tv_134 tv_142 tv_150 tv_158 tv_166 tv_174 cs h186 n0 F191 A186 F188 F189 F192 P0 ge186 ne187 hcs (by decide) (by decide) (by decide) (by decide) (by decide) (by decide) (by decide) (by decide) (by decide) (by decide) (by decide) hr_126 hr_134 hr_142 hr_150 hr_158 hr_166 hr_174) hZ (hw _ (mg 50 rfl)) (hw _ (mg 11 rfl)) (by decide) (by decide)) (g := (mkF m 364 #[qI ia, qI ib, .val (.long ip), .second, qI 0, qI ja, qI xc_1, qI xc_2, .val (.ref b3), qU, qU, qU] [(.ref b3), (.ref b186), (.ref b186)])) rfl (by rw [hml]; rfl) (Steps.refl _) (a := b186) (argsL := [(.ref b3)]) (rest := [(.ref b186)]) (lenOf pd_24 rfl) rfl (by show 2 * 0 + _ ≤ _; exact Nat.le_of_eq rfl) (hb hby at_364) (fun _ _ => ⟨rfl, e186, (by decide : 24 + 1 ≤ _), (by decide : 550 + 18 ≤ _)⟩)
    dsimp only [Pt.U, Pt.locs, Pt.cells, Pt.slots] at X190 l190 y190 z190 st190 hQ190
    subst y190 z190
    obtain ⟨xb_190, kb_190, rfl, N190q, K190, fz190_xb, F190_0, F190_1, F190_2, F190_3⟩ := hQ190
    have N190 : Fr n0 L190 := by rw [l190]; exact Fr.app N180 N190q
    have X190 := own_mr X190 25 568 (by decide) (by decide)
    have ge_xb_190 : n0 ≤ xb_190 := Nat.le_trans (own_old_size F191) fz190_xb
    have sz_xb_190 : h0.size ≤ xb_190 := Nat.le_trans F194.1 fz190_xb
    have ne195 : b3 ≠ xb_190 := Nat.ne_of_lt (Nat.lt_of_lt_of_le F193.lt fz190_xb)
    have ne196 : b186 ≠ xb_190 := Nat.ne_of_lt (Nat.lt_of_lt_of_le A186.lt fz190_xb)
    refine Go.tr st190 ?_
    show Go p e below _ (T190.setTop (mkF m 367 #[qI ia, qI ib, .val (.long ip), .second, qI 0, qI ja, qI xc_1, qI xc_2, .val (.ref b3), qU, qU, qU] [(.ref b186)]))
    refine Go.by (fun t k => XS.astore X190.here hx rfl (hb hby at_367) rfl rfl (l' := #[qI ia, qI ib, .val (.long ip), .second, qI 0, qI ja, qI xc_1, qI xc_2, .val (.ref b3), .val (.ref b186), qU, qU]) rfl (XS.iload X190.here hx rfl (hb hby at_369) rfl (XS.ifNo X190.here hx rfl (hb hby at_371) rfl ((if0 _ _).trans (teq rfl).2) k))) ?_
    show Go p e below _ (T190.setTop (mkF m 374 #[qI ia, qI ib, .val (.long ip), .second, qI 0, qI ja, qI xc_1, qI xc_2, .val (.ref b3), .val (.ref b186), qU, qU] []))
    have F197 : T115.heap.size ≤ T190.heap.size := (Nat.le_trans (Nat.le_trans (Nat.le_trans (Nat.le_trans (Nat.le_trans (Nat.le_trans (Nat.le_trans (Nat.le_trans (Nat.le_trans (Nat.le_trans hk115 (Nat.le_of_eq W124.size.symm)) (Nat.le_of_eq W132.size.symm)) (Nat.le_of_eq W140.size.symm)) (Nat.le_of_eq W148.size.symm)) (Nat.le_of_eq W156.size.symm)) (Nat.le_of_eq W164.size.symm)) (Nat.le_of_eq W172.size.symm)) (Nat.le_of_eq W180.size.symm)) E186.1) K190.1)
    have F198 : CHr Z own_EL s.vm h0 T115.vm T190.heap := (own_chK (own_chE (own_chW (own_chW (own_chW (own_chW (own_chW (own_chW (own_chW (own_chW A115 W124 (Safe.exa hZ.alike F120 (by decide) (by decide))) W132 (Safe.exa hZ.alike F129 (by decide) (by decide))) W140 (Safe.exa hZ.alike F137 (by decide) (by decide))) W148 (Safe.exa hZ.alike F145 (by decide) (by decide))) W156 (Safe.exa hZ.alike F153 (by decide) (by decide))) W164 (Safe.exa hZ.alike F161 (by decide) (by decide))) W172 (Safe.exa hZ.alike F169 (by decide) (by decide))) W180 (Safe.exa hZ.alike F177 (by decide) (by decide))) E186) K190 (sfS (own_safeNull hZ.alike A186 F188) sf0))
    obtain ⟨a199, T199, h199, k199, d199, kd199, X199, e199, E199, hS, hk199, hZ, hown, F199_e, F199_c, F199_v, F199_a, -, -, C199, -, ns199, st199⟩ := ldcCH X190 hx hZ hown (hw _ (mg 68 rfl)) wS rfl hS F197 hEL (List.mem_of_getElem? (i := 1) rfl) F198.1 (vs := []) (z := (0 : Int32)) ⟨by decide, rfl⟩ (by decide) rfl (g := (mkF m 374 #[qI ia, qI ib, .val (.long ip), .second, qI 0, qI ja, qI xc_1, qI xc_2, .val (.ref b3), .val (.ref b186), qU, qU] [])) rfl (hb hby at_374) (n := 0) (by decide) (by decide) (by decide) (by decide)
    have A199 := F198.trans C199
    refine Go.by st199 ?_
    show Go p e below _ (T199.setTop (mkF m 376 #[qI ia, qI ib, .val (.long ip), .second, qI 0, qI ja, qI xc_1, qI xc_2, .val (.ref b3), .val (.ref b186), qU, qU] [(.ref a199)]))
    refine Go.by (fun t k => XS.astore X199.here hx rfl (hb hby at_376) rfl rfl (l' := #[qI ia, qI ib, .val (.long ip), .second, qI 0, qI ja, qI xc_1, qI xc_2, .val (.ref b3), .val (.ref b186), .val (.ref a199), qU]) rfl (XS.goto X199.here hx rfl (pc0 := 378) (pc' := 444) rfl (hb hby at_378) (by decide) (by decide) (XS.aload X199.here hx rfl (hb hby at_444) rfl rfl k))) ?_
    show Go p e below _ (T199.setTop (mkF m 446 #[qI ia, qI ib, .val (.long ip), .second, qI 0, qI ja, qI xc_1, qI xc_2, .val (.ref b3), .val (.ref b186), .val (.ref a199), qU] [(.ref b186)]))
    rcases hja with hja | hja | hja | hja | hja
    · skip
      have F201 : Old Z n0 h199 := ((F191.keep K190 (allS ge186 all0)).ext E199)
      have F202 : Exa Z h199 b186 "java/lang/String" := (F190_0.ext E199)
      have F203 : Fld Z h199 b186 "java/lang/String" "coder" "B" (.int 0) := (F190_1.ext E199)
      have F204 : Fld Z h199 b186 "java/lang/String" "value" "[B" (.ref xb_190) := (F190_2.ext E199)
      have F205 : Arv Z h199 xb_190 kb_190 .byte (18 : Int32) [(.int (qB 47)), (.int (qB 98)), (.int (qB 97)), (.int (qB 114)), (.int (qB 101)), (.int (qB 45)), (.int (qB 108)), (.int (qB 111)), (.int (qB 99)), (.int (qB 107)), (.int (qB 47)), (.int (qB tv_126)), (.int (qB tv_134)), (.int (qB tv_142)), (.int (qB tv_150)), (.int (qB tv_158)), (.int (qB tv_166)), (.int (qB tv_174))] (.int 0) := (F190_3.ext E199)
      have hl206 : own_last [(.int (qB 47)), (.int (qB 98)), (.int (qB 97)), (.int (qB 114)), (.int (qB 101)), (.int (qB 45)), (.int (qB 108)), (.int (qB 111)), (.int (qB 99)), (.int (qB 107)), (.int (qB 47)), (.int (qB tv_126)), (.int (qB tv_134)), (.int (qB tv_142)), (.int (qB tv_150)), (.int (qB tv_158)), (.int (qB tv_166)), (.int (qB tv_174))] (18 : Int32) (12 : Int32) := by
        refine ⟨by decide, ?_, ?_⟩
        · show Value.int (qB tv_134) = .int 47; rw [he_134 (by rw [hja]; decide)]; rfl
        · intro q ha1 ha2; have ha1 : 12 < q := ha1; have ha2 : q < 18 := ha2
          rcases (by omega : q = 13 ∨ q = 14 ∨ q = 15 ∨ q = 16 ∨ q = 17) with rfl | rfl | rfl | rfl | rfl
          · exact (own_b47 hr_142 (hn_142 (by rw [hja]; decide)))
          · exact (own_b47 hr_150 (hn_150 (by rw [hja]; decide)))
          · exact (own_b47 hr_158 (hn_158 (by rw [hja]; decide)))
          · exact (own_b47 hr_166 (hn_166 (by rw [hja]; decide)))
          · exact (own_b47 hr_174 (hn_174 (by rw [hja]; decide)))
      have hl207 : own_last (own_tk [(.int (qB 47)), (.int (qB 98)), (.int (qB 97)), (.int (qB 114)), (.int (qB 101)), (.int (qB 45)), (.int (qB 108)), (.int (qB 111)), (.int (qB 99)), (.int (qB 107)), (.int (qB 47)), (.int (qB tv_126)), (.int (qB tv_134)), (.int (qB tv_142)), (.int (qB tv_150)), (.int (qB tv_158)), (.int (qB tv_166)), (.int (qB tv_174))] (12 : Int32)) (12 : Int32) (10 : Int32) := by
        refine own_last_tk ⟨by decide, rfl, ?_⟩
        intro q ha1 ha2; have ha1 : 10 < q := ha1; have ha2 : q < 12 := ha2
        rcases (by omega : q = 11) with rfl
        · exact (own_b47 hr_126 (hn_126 (by rw [hja]; decide)))
      have F208 : Keep h0 h199 [] := ((F194.trans K190 (allS (Or.inr sz186) all0)).ext E199)
      obtain ⟨_, _, ⟨T200, L200, k200, n200⟩, -, X200, sn200, gr200, ⟨Lc200, hQ200, l200, y200, z200, C200⟩, st200⟩ := callSS X199 hx (y := (⟨"com/example/bare_lock/barelock/zookeeper/LockPaths", "chroot", "(Ljava/lang/String;)Ljava/lang/String;"⟩ : MethodName)) hown (mvT hZ (hw _ (mg 69 rfl))) (mvT hZ (hw _ (mg 70 rfl))) (mvT hZ (hw _ (mg 71 rfl))) (mvT hZ (hw _ (mg 72 rfl))) (by decide) (backOfSH (W := 0) (chroot_0 l Z a0 hw [] b186 xb_190 kb_190 ([(.int (qB 47)), (.int (qB 98)), (.int (qB 97)), (.int (qB 114)), (.int (qB 101)), (.int (qB 45)), (.int (qB 108)), (.int (qB 111)), (.int (qB 99)), (.int (qB 107)), (.int (qB 47)), (.int (qB tv_126)), (.int (qB tv_134)), (.int (qB tv_142)), (.int (qB tv_150)), (.int (qB tv_158)), (.int (qB tv_166)), (.int (qB tv_174))]) (12 : Int32) (10 : Int32) cs fm h199 n0 F201 P0 F202 F203 F204 F205 P1 hcs hfm hl206 hl207 (by decide)) hZ (hw _ (mg 72 rfl)) (hw _ (mg 71 rfl)) (by decide) (by decide) hEL A199.1) (g := (mkF m 446 #[qI ia, qI ib, .val (.long ip), .second, qI 0, qI ja, qI xc_1, qI xc_2, .val (.ref b3), .val (.ref b186), .val (.ref a199), qU] [(.ref b186)])) rfl (by rw [hml]; rfl) (argsL := [(.ref b186)]) (rest := []) (lenOf pd_25 rfl) rfl (by show 2 * 0 + _ ≤ _; exact Nat.le_of_eq rfl) (hb hby at_446) (fun _ _ => ⟨rfl, e199, (by decide : 27 + 6 ≤ _), (by decide : 572 + 70 ≤ _)⟩)
      dsimp only [Pt.U, Pt.locs, Pt.cells, Pt.slots] at X200 l200 y200 z200 st200 hQ200 sn200 gr200 C200
      subst y200 z200
      obtain ⟨X200, hS, hZ, hown⟩ := rebS hS (n1 := T199.heap.size) (by rw [e199]; exact hk199) X200 sn200 gr200 hZ hown
      have hk200 : T200.heap.size ≤ T200.heap.size := Nat.le_refl _
      have A200 := A199.trans C200
      obtain ⟨sb_200, xb_200, kb_200, rfl, N200q, K200, F200_0, F200_1, F200_2, F200_3⟩ := hQ200
      have N200 : Fr n0 L200 := by rw [l200]; exact Fr.app N190 N200q
      have X200 := own_mr X200 33 642 (by decide) (by decide)
      refine Go.tr st200 ?_
      show Go p e below _ (T200.setTop (mkF m 449 #[qI ia, qI ib, .val (.long ip), .second, qI 0, qI ja, qI xc_1, qI xc_2, .val (.ref b3), .val (.ref b186), .val (.ref a199), qU] [(.ref sb_200)]))
      refine Go.by (fun t k => XS.astore X200.here hx rfl (hb hby at_449) rfl rfl (l' := #[qI ia, qI ib, .val (.long ip), .second, qI 0, qI ja, qI xc_1, qI xc_2, .val (.ref b3), .val (.ref b186), .val (.ref a199), .val (.ref sb_200)]) rfl (XS.aload X200.here hx rfl (hb hby at_451) rfl rfl (XS.aload X200.here hx rfl (hb hby at_453) rfl rfl k))) ?_
      show Go p e below _ (T200.setTop (mkF m 455 #[qI ia, qI ib, .val (.long ip), .second, qI 0, qI ja, qI xc_1, qI xc_2, .val (.ref b3), .val (.ref b186), .val (.ref a199), .val (.ref sb_200)] [(.ref a199), (.ref sb_200)]))
      have F210 : Old Z n0 T200.heap := (F201.keep K200 all0)
      have F211 : Exa Z T200.heap a199 "java/lang/String" := (F199_e.keep K200)
      have F212 : Fld Z T200.heap a199 "java/lang/String" "coder" "B" (.int 0) := (F199_c.keep K200 nin0)
      have F213 : Fld Z T200.heap a199 "java/lang/String" "value" "[B" (.ref d199) := (F199_v.keep K200 nin0)
      have F214 : Arv Z T200.heap d199 kd199 .byte (0 : Int32) [] (.int 0) := (F199_a.keep K200 nin0)
      have F215 : Keep h0 T200.heap [] := (F208.trans K200 all0)
      obtain ⟨cq209, kq209, q209a, q209b, q209c⟩ := isOf hZ rfl F200_0
      obtain ⟨_, _, ⟨T209, L209, k209, n209⟩, -, X209, ⟨Lc209, hQ209, l209, y209, z209⟩, st209⟩ := X200.virtualBack hx (y := (⟨"java/lang/String", "equals", "(Ljava/lang/Object;)Z"⟩ : MethodName)) (z := (⟨"java/lang/String", "equals", "(Ljava/lang/Object;)Z"⟩ : MethodName)) hown (mvT hZ (hw _ (mg 139 rfl))) (mvT hZ (hw _ (mg 140 rfl))) (notFace_of_selects (args := #[]) (mvT hZ (hw _ (mg 142 rfl)))) (mvT hZ (hw _ (mg 142 rfl))) (mvT hZ (hw _ (mg 141 rfl))) (by decide) (backOf (W := 0) (str_eq l Z a0 hw [] sb_200 a199 xb_200 d199 kb_200 kd199 (0 : Int32) ([]) cs T200.heap n0 F210 P0 F200_0 F200_1 F200_2 F200_3 F211 F212 F213 F214 hcs) hZ (hw _ (mg 143 rfl)) (hw _ (mg 11 rfl)) (by decide) (by decide)) q209a q209c (g := (mkF m 455 #[qI ia, qI ib, .val (.long ip), .second, qI 0, qI ja, qI xc_1, qI xc_2, .val (.ref b3), .val (.ref b186), .val (.ref a199), .val (.ref sb_200)] [(.ref a199), (.ref sb_200)])) rfl (by rw [hml]; rfl) (Steps.refl _) (argsL := [(.ref a199)]) (rest := []) (lenOf pd_26 rfl) rfl (by show 2 * 0 + _ ≤ _; exact Nat.le_of_eq rfl) (hb hby at_455) (fun _ _ => ⟨rfl, rfl, (by decide : 33 + 0 ≤ _), (by decide : 642 + 0 ≤ _)⟩)
      dsimp only [Pt.U, Pt.locs, Pt.cells, Pt.slots] at X209 l209 y209 z209 st209 hQ209
      subst y209 z209
      obtain ⟨rfl, N209q, e209⟩ := hQ209
      have N209 : Fr n0 L209 := by rw [l209]; exact Fr.app N200 N209q
      have X209 := own_mr X209 33 642 (by decide) (by decide)
      refine Go.tr st209 ?_
      show Go p e below _ (T209.setTop (mkF m 458 #[qI ia, qI ib, .val (.long ip), .second, qI 0, qI ja, qI xc_1, qI xc_2, .val (.ref b3), .val (.ref b186), .val (.ref a199), .val (.ref sb_200)] [(.int 1)]))
      have hq : Q_law Z ia ib ip cs fm h0 n0 (some (.int (nar .boolean (1 : Int32)))) T200.heap _ := ⟨rfl, N209, F215⟩
      exact Go.retNH hS (by rw [e209]; exact hk200) (own_chEnd X209 e209 hZ hEL A200 hh) X209 hx (t := .boolean) Bd.returns (by simp) hlk (hb hby at_458) (by decide) (by decide) (by rw [e209]; exact hq)
    · skip
      have F217 : Old Z n0 h199 := ((F191.keep K190 (allS ge186 all0)).ext E199)
      have F218 : Exa Z h199 b186 "java/lang/String" := (F190_0.ext E199)
      have F219 : Fld Z h199 b186 "java/lang/String" "coder" "B" (.int 0) := (F190_1.ext E199)
      have F220 : Fld Z h199 b186 "java/lang/String" "value" "[B" (.ref xb_190) := (F190_2.ext E199)
      have F221 : Arv Z h199 xb_190 kb_190 .byte (18 : Int32) [(.int (qB 47)), (.int (qB 98)), (.int (qB 97)), (.int (qB 114)), (.int (qB 101)), (.int (qB 45)), (.int (qB 108)), (.int (qB 111)), (.int (qB 99)), (.int (qB 107)), (.int (qB 47)), (.int (qB tv_126)), (.int (qB tv_134)), (.int (qB tv_142)), (.int (qB tv_150)), (.int (qB tv_158)), (.int (qB tv_166)), (.int (qB tv_174))] (.int 0) := (F190_3.ext E199)
      have hl222 : own_last [(.int (qB 47)), (.int (qB 98)), (.int (qB 97)), (.int (qB 114)), (.int (qB 101)), (.int (qB 45)), (.int (qB 108)), (.int (qB 111)), (.int (qB 99)), (.int (qB 107)), (.int (qB 47)), (.int (qB tv_126)), (.int (qB tv_134)), (.int (qB tv_142)), (.int (qB tv_150)), (.int (qB tv_158)), (.int (qB tv_166)), (.int (qB tv_174))] (18 : Int32) (13 : Int32) := by
        refine ⟨by decide, ?_, ?_⟩
        · show Value.int (qB tv_142) = .int 47; rw [he_142 (by rw [hja]; decide)]; rfl
        · intro q ha1 ha2; have ha1 : 13 < q := ha1; have ha2 : q < 18 := ha2
          rcases (by omega : q = 14 ∨ q = 15 ∨ q = 16 ∨ q = 17) with rfl | rfl | rfl | rfl
          · exact (own_b47 hr_150 (hn_150 (by rw [hja]; decide)))
          · exact (own_b47 hr_158 (hn_158 (by rw [hja]; decide)))
          · exact (own_b47 hr_166 (hn_166 (by rw [hja]; decide)))
          · exact (own_b47 hr_174 (hn_174 (by rw [hja]; decide)))
      have hl223 : own_last (own_tk [(.int (qB 47)), (.int (qB 98)), (.int (qB 97)), (.int (qB 114)), (.int (qB 101)), (.int (qB 45)), (.int (qB 108)), (.int (qB 111)), (.int (qB 99)), (.int (qB 107)), (.int (qB 47)), (.int (qB tv_126)), (.int (qB tv_134)), (.int (qB tv_142)), (.int (qB tv_150)), (.int (qB tv_158)), (.int (qB tv_166)), (.int (qB tv_174))] (13 : Int32)) (13 : Int32) (10 : Int32) := by
        refine own_last_tk ⟨by decide, rfl, ?_⟩
        intro q ha1 ha2; have ha1 : 10 < q := ha1; have ha2 : q < 13 := ha2
        rcases (by omega : q = 11 ∨ q = 12) with rfl | rfl
        · exact (own_b47 hr_126 (hn_126 (by rw [hja]; decide)))
        · exact (own_b47 hr_134 (hn_134 (by rw [hja]; decide)))
      have F224 : Keep h0 h199 [] := ((F194.trans K190 (allS (Or.inr sz186) all0)).ext E199)
      obtain ⟨_, _, ⟨T216, L216, k216, n216⟩, -, X216, sn216, gr216, ⟨Lc216, hQ216, l216, y216, z216, C216⟩, st216⟩ := callSS X199 hx (y := (⟨"com/example/bare_lock/barelock/zookeeper/LockPaths", "chroot", "(Ljava/lang/String;)Ljava/lang/String;"⟩ : MethodName)) hown (mvT hZ (hw _ (mg 69 rfl))) (mvT hZ (hw _ (mg 70 rfl))) (mvT hZ (hw _ (mg 71 rfl))) (mvT hZ (hw _ (mg 72 rfl))) (by decide) (backOfSH (W := 0) (chroot_0 l Z a0 hw [] b186 xb_190 kb_190 ([(.int (qB 47)), (.int (qB 98)), (.int (qB 97)), (.int (qB 114)), (.int (qB 101)), (.int (qB 45)), (.int (qB 108)), (.int (qB 111)), (.int (qB 99)), (.int (qB 107)), (.int (qB 47)), (.int (qB tv_126)), (.int (qB tv_134)), (.int (qB tv_142)), (.int (qB tv_150)), (.int (qB tv_158)), (.int (qB tv_166)), (.int (qB tv_174))]) (13 : Int32) (10 : Int32) cs fm h199 n0 F217 P0 F218 F219 F220 F221 P1 hcs hfm hl222 hl223 (by decide)) hZ (hw _ (mg 72 rfl)) (hw _ (mg 71 rfl)) (by decide) (by decide) hEL A199.1) (g := (mkF m 446 #[qI ia, qI ib, .val (.long ip), .second, qI 0, qI ja, qI xc_1, qI xc_2, .val (.ref b3), .val (.ref b186), .val (.ref a199), qU] [(.ref b186)])) rfl (by rw [hml]; rfl) (argsL := [(.ref b186)]) (rest := []) (lenOf pd_25 rfl) rfl (by show 2 * 0 + _ ≤ _; exact Nat.le_of_eq rfl) (hb hby at_446) (fun _ _ => ⟨rfl, e199, (by decide : 27 + 6 ≤ _), (by decide : 572 + 70 ≤ _)⟩)
      dsimp only [Pt.U, Pt.locs, Pt.cells, Pt.slots] at X216 l216 y216 z216 st216 hQ216 sn216 gr216 C216
      subst y216 z216
      obtain ⟨X216, hS, hZ, hown⟩ := rebS hS (n1 := T199.heap.size) (by rw [e199]; exact hk199) X216 sn216 gr216 hZ hown
      have hk216 : T216.heap.size ≤ T216.heap.size := Nat.le_refl _
      have A216 := A199.trans C216
      obtain ⟨sb_216, xb_216, kb_216, rfl, N216q, K216, F216_0, F216_1, F216_2, F216_3⟩ := hQ216
      have N216 : Fr n0 L216 := by rw [l216]; exact Fr.app N190 N216q
      have X216 := own_mr X216 33 642 (by decide) (by decide)
      refine Go.tr st216 ?_
      show Go p e below _ (T216.setTop (mkF m 449 #[qI ia, qI ib, .val (.long ip), .second, qI 0, qI ja, qI xc_1, qI xc_2, .val (.ref b3), .val (.ref b186), .val (.ref a199), qU] [(.ref sb_216)]))
      refine Go.by (fun t k => XS.astore X216.here hx rfl (hb hby at_449) rfl rfl (l' := #[qI ia, qI ib, .val (.long ip), .second, qI 0, qI ja, qI xc_1, qI xc_2, .val (.ref b3), .val (.ref b186), .val (.ref a199), .val (.ref sb_216)]) rfl (XS.aload X216.here hx rfl (hb hby at_451) rfl rfl (XS.aload X216.here hx rfl (hb hby at_453) rfl rfl k))) ?_
      show Go p e below _ (T216.setTop (mkF m 455 #[qI ia, qI ib, .val (.long ip), .second, qI 0, qI ja, qI xc_1, qI xc_2, .val (.ref b3), .val (.ref b186), .val (.ref a199), .val (.ref sb_216)] [(.ref a199), (.ref sb_216)]))
      have F226 : Old Z n0 T216.heap := (F217.keep K216 all0)
      have F227 : Exa Z T216.heap a199 "java/lang/String" := (F199_e.keep K216)
      have F228 : Fld Z T216.heap a199 "java/lang/String" "coder" "B" (.int 0) := (F199_c.keep K216 nin0)
      have F229 : Fld Z T216.heap a199 "java/lang/String" "value" "[B" (.ref d199) := (F199_v.keep K216 nin0)
      have F230 : Arv Z T216.heap d199 kd199 .byte (0 : Int32) [] (.int 0) := (F199_a.keep K216 nin0)
      have F231 : Keep h0 T216.heap [] := (F224.trans K216 all0)
      obtain ⟨cq225, kq225, q225a, q225b, q225c⟩ := isOf hZ rfl F216_0
      obtain ⟨_, _, ⟨T225, L225, k225, n225⟩, -, X225, ⟨Lc225, hQ225, l225, y225, z225⟩, st225⟩ := X216.virtualBack hx (y := (⟨"java/lang/String", "equals", "(Ljava/lang/Object;)Z"⟩ : MethodName)) (z := (⟨"java/lang/String", "equals", "(Ljava/lang/Object;)Z"⟩ : MethodName)) hown (mvT hZ (hw _ (mg 139 rfl))) (mvT hZ (hw _ (mg 140 rfl))) (notFace_of_selects (args := #[]) (mvT hZ (hw _ (mg 142 rfl)))) (mvT hZ (hw _ (mg 142 rfl))) (mvT hZ (hw _ (mg 141 rfl))) (by decide) (backOf (W := 0) (str_eq l Z a0 hw [] sb_216 a199 xb_216 d199 kb_216 kd199 (0 : Int32) ([]) cs T216.heap n0 F226 P0 F216_0 F216_1 F216_2 F216_3 F227 F228 F229 F230 hcs) hZ (hw _ (mg 143 rfl)) (hw _ (mg 11 rfl)) (by decide) (by decide)) q225a q225c (g := (mkF m 455 #[qI ia, qI ib, .val (.long ip), .second, qI 0, qI ja, qI xc_1, qI xc_2, .val (.ref b3), .val (.ref b186), .val (.ref a199), .val (.ref sb_216)] [(.ref a199), (.ref sb_216)])) rfl (by rw [hml]; rfl) (Steps.refl _) (argsL := [(.ref a199)]) (rest := []) (lenOf pd_26 rfl) rfl (by show 2 * 0 + _ ≤ _; exact Nat.le_of_eq rfl) (hb hby at_455) (fun _ _ => ⟨rfl, rfl, (by decide : 33 + 0 ≤ _), (by decide : 642 + 0 ≤ _)⟩)
      dsimp only [Pt.U, Pt.locs, Pt.cells, Pt.slots] at X225 l225 y225 z225 st225 hQ225
      subst y225 z225
      obtain ⟨rfl, N225q, e225⟩ := hQ225
      have N225 : Fr n0 L225 := by rw [l225]; exact Fr.app N216 N225q
      have X225 := own_mr X225 33 642 (by decide) (by decide)
      refine Go.tr st225 ?_
      show Go p e below _ (T225.setTop (mkF m 458 #[qI ia, qI ib, .val (.long ip), .second, qI 0, qI ja, qI xc_1, qI xc_2, .val (.ref b3), .val (.ref b186), .val (.ref a199), .val (.ref sb_216)] [(.int 1)]))
      have hq : Q_law Z ia ib ip cs fm h0 n0 (some (.int (nar .boolean (1 : Int32)))) T216.heap _ := ⟨rfl, N225, F231⟩
      exact Go.retNH hS (by rw [e225]; exact hk216) (own_chEnd X225 e225 hZ hEL A216 hh) X225 hx (t := .boolean) Bd.returns (by simp) hlk (hb hby at_458) (by decide) (by decide) (by rw [e225]; exact hq)
    · skip
      have F233 : Old Z n0 h199 := ((F191.keep K190 (allS ge186 all0)).ext E199)
      have F234 : Exa Z h199 b186 "java/lang/String" := (F190_0.ext E199)
      have F235 : Fld Z h199 b186 "java/lang/String" "coder" "B" (.int 0) := (F190_1.ext E199)
      have F236 : Fld Z h199 b186 "java/lang/String" "value" "[B" (.ref xb_190) := (F190_2.ext E199)
      have F237 : Arv Z h199 xb_190 kb_190 .byte (18 : Int32) [(.int (qB 47)), (.int (qB 98)), (.int (qB 97)), (.int (qB 114)), (.int (qB 101)), (.int (qB 45)), (.int (qB 108)), (.int (qB 111)), (.int (qB 99)), (.int (qB 107)), (.int (qB 47)), (.int (qB tv_126)), (.int (qB tv_134)), (.int (qB tv_142)), (.int (qB tv_150)), (.int (qB tv_158)), (.int (qB tv_166)), (.int (qB tv_174))] (.int 0) := (F190_3.ext E199)
      have hl238 : own_last [(.int (qB 47)), (.int (qB 98)), (.int (qB 97)), (.int (qB 114)), (.int (qB 101)), (.int (qB 45)), (.int (qB 108)), (.int (qB 111)), (.int (qB 99)), (.int (qB 107)), (.int (qB 47)), (.int (qB tv_126)), (.int (qB tv_134)), (.int (qB tv_142)), (.int (qB tv_150)), (.int (qB tv_158)), (.int (qB tv_166)), (.int (qB tv_174))] (18 : Int32) (14 : Int32) := by
        refine ⟨by decide, ?_, ?_⟩
        · show Value.int (qB tv_150) = .int 47; rw [he_150 (by rw [hja]; decide)]; rfl
        · intro q ha1 ha2; have ha1 : 14 < q := ha1; have ha2 : q < 18 := ha2
          rcases (by omega : q = 15 ∨ q = 16 ∨ q = 17) with rfl | rfl | rfl
          · exact (own_b47 hr_158 (hn_158 (by rw [hja]; decide)))
          · exact (own_b47 hr_166 (hn_166 (by rw [hja]; decide)))
          · exact (own_b47 hr_174 (hn_174 (by rw [hja]; decide)))
      have hl239 : own_last (own_tk [(.int (qB 47)), (.int (qB 98)), (.int (qB 97)), (.int (qB 114)), (.int (qB 101)), (.int (qB 45)), (.int (qB 108)), (.int (qB 111)), (.int (qB 99)), (.int (qB 107)), (.int (qB 47)), (.int (qB tv_126)), (.int (qB tv_134)), (.int (qB tv_142)), (.int (qB tv_150)), (.int (qB tv_158)), (.int (qB tv_166)), (.int (qB tv_174))] (14 : Int32)) (14 : Int32) (10 : Int32) := by
        refine own_last_tk ⟨by decide, rfl, ?_⟩
        intro q ha1 ha2; have ha1 : 10 < q := ha1; have ha2 : q < 14 := ha2
        rcases (by omega : q = 11 ∨ q = 12 ∨ q = 13) with rfl | rfl | rfl
        · exact (own_b47 hr_126 (hn_126 (by rw [hja]; decide)))
        · exact (own_b47 hr_134 (hn_134 (by rw [hja]; decide)))
        · exact (own_b47 hr_142 (hn_142 (by rw [hja]; decide)))
      have F240 : Keep h0 h199 [] := ((F194.trans K190 (allS (Or.inr sz186) all0)).ext E199)
      obtain ⟨_, _, ⟨T232, L232, k232, n232⟩, -, X232, sn232, gr232, ⟨Lc232, hQ232, l232, y232, z232, C232⟩, st232⟩ := callSS X199 hx (y := (⟨"com/example/bare_lock/barelock/zookeeper/LockPaths", "chroot", "(Ljava/lang/String;)Ljava/lang/String;"⟩ : MethodName)) hown (mvT hZ (hw _ (mg 69 rfl))) (mvT hZ (hw _ (mg 70 rfl))) (mvT hZ (hw _ (mg 71 rfl))) (mvT hZ (hw _ (mg 72 rfl))) (by decide) (backOfSH (W := 0) (chroot_0 l Z a0 hw [] b186 xb_190 kb_190 ([(.int (qB 47)), (.int (qB 98)), (.int (qB 97)), (.int (qB 114)), (.int (qB 101)), (.int (qB 45)), (.int (qB 108)), (.int (qB 111)), (.int (qB 99)), (.int (qB 107)), (.int (qB 47)), (.int (qB tv_126)), (.int (qB tv_134)), (.int (qB tv_142)), (.int (qB tv_150)), (.int (qB tv_158)), (.int (qB tv_166)), (.int (qB tv_174))]) (14 : Int32) (10 : Int32) cs fm h199 n0 F233 P0 F234 F235 F236 F237 P1 hcs hfm hl238 hl239 (by decide)) hZ (hw _ (mg 72 rfl)) (hw _ (mg 71 rfl)) (by decide) (by decide) hEL A199.1) (g := (mkF m 446 #[qI ia, qI ib, .val (.long ip), .second, qI 0, qI ja, qI xc_1, qI xc_2, .val (.ref b3), .val (.ref b186), .val (.ref a199), qU] [(.ref b186)])) rfl (by rw [hml]; rfl) (argsL := [(.ref b186)]) (rest := []) (lenOf pd_25 rfl) rfl (by show 2 * 0 + _ ≤ _; exact Nat.le_of_eq rfl) (hb hby at_446) (fun _ _ => ⟨rfl, e199, (by decide : 27 + 6 ≤ _), (by decide : 572 + 70 ≤ _)⟩)
      dsimp only [Pt.U, Pt.locs, Pt.cells, Pt.slots] at X232 l232 y232 z232 st232 hQ232 sn232 gr232 C232
      subst y232 z232
      obtain ⟨X232, hS, hZ, hown⟩ := rebS hS (n1 := T199.heap.size) (by rw [e199]; exact hk199) X232 sn232 gr232 hZ hown
      have hk232 : T232.heap.size ≤ T232.heap.size := Nat.le_refl _
      have A232 := A199.trans C232
      obtain ⟨sb_232, xb_232, kb_232, rfl, N232q, K232, F232_0, F232_1, F232_2, F232_3⟩ := hQ232
      have N232 : Fr n0 L232 := by rw [l232]; exact Fr.app N190 N232q
      have X232 := own_mr X232 33 642 (by decide) (by decide)
      refine Go.tr st232 ?_
      show Go p e below _ (T232.setTop (mkF m 449 #[qI ia, qI ib, .val (.long ip), .second, qI 0, qI ja, qI xc_1, qI xc_2, .val (.ref b3), .val (.ref b186), .val (.ref a199), qU] [(.ref sb_232)]))
      refine Go.by (fun t k => XS.astore X232.here hx rfl (hb hby at_449) rfl rfl (l' := #[qI ia, qI ib, .val (.long ip), .second, qI 0, qI ja, qI xc_1, qI xc_2, .val (.ref b3), .val (.ref b186), .val (.ref a199), .val (.ref sb_232)]) rfl (XS.aload X232.here hx rfl (hb hby at_451) rfl rfl (XS.aload X232.here hx rfl (hb hby at_453) rfl rfl k))) ?_
      show Go p e below _ (T232.setTop (mkF m 455 #[qI ia, qI ib, .val (.long ip), .second, qI 0, qI ja, qI xc_1, qI xc_2, .val (.ref b3), .val (.ref b186), .val (.ref a199), .val (.ref sb_232)] [(.ref a199), (.ref sb_232)]))
      have F242 : Old Z n0 T232.heap := (F233.keep K232 all0)
      have F243 : Exa Z T232.heap a199 "java/lang/String" := (F199_e.keep K232)
      have F244 : Fld Z T232.heap a199 "java/lang/String" "coder" "B" (.int 0) := (F199_c.keep K232 nin0)
      have F245 : Fld Z T232.heap a199 "java/lang/String" "value" "[B" (.ref d199) := (F199_v.keep K232 nin0)
      have F246 : Arv Z T232.heap d199 kd199 .byte (0 : Int32) [] (.int 0) := (F199_a.keep K232 nin0)
      have F247 : Keep h0 T232.heap [] := (F240.trans K232 all0)
      obtain ⟨cq241, kq241, q241a, q241b, q241c⟩ := isOf hZ rfl F232_0
      obtain ⟨_, _, ⟨T241, L241, k241, n241⟩, -, X241, ⟨Lc241, hQ241, l241, y241, z241⟩, st241⟩ := X232.virtualBack hx (y := (⟨"java/lang/String", "equals", "(Ljava/lang/Object;)Z"⟩ : MethodName)) (z := (⟨"java/lang/String", "equals", "(Ljava/lang/Object;)Z"⟩ : MethodName)) hown (mvT hZ (hw _ (mg 139 rfl))) (mvT hZ (hw _ (mg 140 rfl))) (notFace_of_selects (args := #[]) (mvT hZ (hw _ (mg 142 rfl)))) (mvT hZ (hw _ (mg 142 rfl))) (mvT hZ (hw _ (mg 141 rfl))) (by decide) (backOf (W := 0) (str_eq l Z a0 hw [] sb_232 a199 xb_232 d199 kb_232 kd199 (0 : Int32) ([]) cs T232.heap n0 F242 P0 F232_0 F232_1 F232_2 F232_3 F243 F244 F245 F246 hcs) hZ (hw _ (mg 143 rfl)) (hw _ (mg 11 rfl)) (by decide) (by decide)) q241a q241c (g := (mkF m 455 #[qI ia, qI ib, .val (.long ip), .second, qI 0, qI ja, qI xc_1, qI xc_2, .val (.ref b3), .val (.ref b186), .val (.ref a199), .val (.ref sb_232)] [(.ref a199), (.ref sb_232)])) rfl (by rw [hml]; rfl) (Steps.refl _) (argsL := [(.ref a199)]) (rest := []) (lenOf pd_26 rfl) rfl (by show 2 * 0 + _ ≤ _; exact Nat.le_of_eq rfl) (hb hby at_455) (fun _ _ => ⟨rfl, rfl, (by decide : 33 + 0 ≤ _), (by decide : 642 + 0 ≤ _)⟩)
      dsimp only [Pt.U, Pt.locs, Pt.cells, Pt.slots] at X241 l241 y241 z241 st241 hQ241
      subst y241 z241
      obtain ⟨rfl, N241q, e241⟩ := hQ241
      have N241 : Fr n0 L241 := by rw [l241]; exact Fr.app N232 N241q
      have X241 := own_mr X241 33 642 (by decide) (by decide)
      refine Go.tr st241 ?_
      show Go p e below _ (T241.setTop (mkF m 458 #[qI ia, qI ib, .val (.long ip), .second, qI 0, qI ja, qI xc_1, qI xc_2, .val (.ref b3), .val (.ref b186), .val (.ref a199), .val (.ref sb_232)] [(.int 1)]))
      have hq : Q_law Z ia ib ip cs fm h0 n0 (some (.int (nar .boolean (1 : Int32)))) T232.heap _ := ⟨rfl, N241, F247⟩
      exact Go.retNH hS (by rw [e241]; exact hk232) (own_chEnd X241 e241 hZ hEL A232 hh) X241 hx (t := .boolean) Bd.returns (by simp) hlk (hb hby at_458) (by decide) (by decide) (by rw [e241]; exact hq)
    · skip
      have F249 : Old Z n0 h199 := ((F191.keep K190 (allS ge186 all0)).ext E199)
      have F250 : Exa Z h199 b186 "java/lang/String" := (F190_0.ext E199)
      have F251 : Fld Z h199 b186 "java/lang/String" "coder" "B" (.int 0) := (F190_1.ext E199)
      have F252 : Fld Z h199 b186 "java/lang/String" "value" "[B" (.ref xb_190) := (F190_2.ext E199)
      have F253 : Arv Z h199 xb_190 kb_190 .byte (18 : Int32) [(.int (qB 47)), (.int (qB 98)), (.int (qB 97)), (.int (qB 114)), (.int (qB 101)), (.int (qB 45)), (.int (qB 108)), (.int (qB 111)), (.int (qB 99)), (.int (qB 107)), (.int (qB 47)), (.int (qB tv_126)), (.int (qB tv_134)), (.int (qB tv_142)), (.int (qB tv_150)), (.int (qB tv_158)), (.int (qB tv_166)), (.int (qB tv_174))] (.int 0) := (F190_3.ext E199)
      have hl254 : own_last [(.int (qB 47)), (.int (qB 98)), (.int (qB 97)), (.int (qB 114)), (.int (qB 101)), (.int (qB 45)), (.int (qB 108)), (.int (qB 111)), (.int (qB 99)), (.int (qB 107)), (.int (qB 47)), (.int (qB tv_126)), (.int (qB tv_134)), (.int (qB tv_142)), (.int (qB tv_150)), (.int (qB tv_158)), (.int (qB tv_166)), (.int (qB tv_174))] (18 : Int32) (15 : Int32) := by
        refine ⟨by decide, ?_, ?_⟩
        · show Value.int (qB tv_158) = .int 47; rw [he_158 (by rw [hja]; decide)]; rfl
        · intro q ha1 ha2; have ha1 : 15 < q := ha1; have ha2 : q < 18 := ha2
          rcases (by omega : q = 16 ∨ q = 17) with rfl | rfl
          · exact (own_b47 hr_166 (hn_166 (by rw [hja]; decide)))
          · exact (own_b47 hr_174 (hn_174 (by rw [hja]; decide)))
      have hl255 : own_last (own_tk [(.int (qB 47)), (.int (qB 98)), (.int (qB 97)), (.int (qB 114)), (.int (qB 101)), (.int (qB 45)), (.int (qB 108)), (.int (qB 111)), (.int (qB 99)), (.int (qB 107)), (.int (qB 47)), (.int (qB tv_126)), (.int (qB tv_134)), (.int (qB tv_142)), (.int (qB tv_150)), (.int (qB tv_158)), (.int (qB tv_166)), (.int (qB tv_174))] (15 : Int32)) (15 : Int32) (10 : Int32) := by
        refine own_last_tk ⟨by decide, rfl, ?_⟩
        intro q ha1 ha2; have ha1 : 10 < q := ha1; have ha2 : q < 15 := ha2
        rcases (by omega : q = 11 ∨ q = 12 ∨ q = 13 ∨ q = 14) with rfl | rfl | rfl | rfl
        · exact (own_b47 hr_126 (hn_126 (by rw [hja]; decide)))
        · exact (own_b47 hr_134 (hn_134 (by rw [hja]; decide)))
        · exact (own_b47 hr_142 (hn_142 (by rw [hja]; decide)))
        · exact (own_b47 hr_150 (hn_150 (by rw [hja]; decide)))
      have F256 : Keep h0 h199 [] := ((F194.trans K190 (allS (Or.inr sz186) all0)).ext E199)
      obtain ⟨_, _, ⟨T248, L248, k248, n248⟩, -, X248, sn248, gr248, ⟨Lc248, hQ248, l248, y248, z248, C248⟩, st248⟩ := callSS X199 hx (y := (⟨"com/example/bare_lock/barelock/zookeeper/LockPaths", "chroot", "(Ljava/lang/String;)Ljava/lang/String;"⟩ : MethodName)) hown (mvT hZ (hw _ (mg 69 rfl))) (mvT hZ (hw _ (mg 70 rfl))) (mvT hZ (hw _ (mg 71 rfl))) (mvT hZ (hw _ (mg 72 rfl))) (by decide) (backOfSH (W := 0) (chroot_0 l Z a0 hw [] b186 xb_190 kb_190 ([(.int (qB 47)), (.int (qB 98)), (.int (qB 97)), (.int (qB 114)), (.int (qB 101)), (.int (qB 45)), (.int (qB 108)), (.int (qB 111)), (.int (qB 99)), (.int (qB 107)), (.int (qB 47)), (.int (qB tv_126)), (.int (qB tv_134)), (.int (qB tv_142)), (.int (qB tv_150)), (.int (qB tv_158)), (.int (qB tv_166)), (.int (qB tv_174))]) (15 : Int32) (10 : Int32) cs fm h199 n0 F249 P0 F250 F251 F252 F253 P1 hcs hfm hl254 hl255 (by decide)) hZ (hw _ (mg 72 rfl)) (hw _ (mg 71 rfl)) (by decide) (by decide) hEL A199.1) (g := (mkF m 446 #[qI ia, qI ib, .val (.long ip), .second, qI 0, qI ja, qI xc_1, qI xc_2, .val (.ref b3), .val (.ref b186), .val (.ref a199), qU] [(.ref b186)])) rfl (by rw [hml]; rfl) (argsL := [(.ref b186)]) (rest := []) (lenOf pd_25 rfl) rfl (by show 2 * 0 + _ ≤ _; exact Nat.le_of_eq rfl) (hb hby at_446) (fun _ _ => ⟨rfl, e199, (by decide : 27 + 6 ≤ _), (by decide : 572 + 70 ≤ _)⟩)
      dsimp only [Pt.U, Pt.locs, Pt.cells, Pt.slots] at X248 l248 y248 z248 st248 hQ248 sn248 gr248 C248
      subst y248 z248
      obtain ⟨X248, hS, hZ, hown⟩ := rebS hS (n1 := T199.heap.size) (by rw [e199]; exact hk199) X248 sn248 gr248 hZ hown
      have hk248 : T248.heap.size ≤ T248.heap.size := Nat.le_refl _
      have A248 := A199.trans C248
      obtain ⟨sb_248, xb_248, kb_248, rfl, N248q, K248, F248_0, F248_1, F248_2, F248_3⟩ := hQ248
      have N248 : Fr n0 L248 := by rw [l248]; exact Fr.app N190 N248q
      have X248 := own_mr X248 33 642 (by decide) (by decide)
      refine Go.tr st248 ?_
      show Go p e below _ (T248.setTop (mkF m 449 #[qI ia, qI ib, .val (.long ip), .second, qI 0, qI ja, qI xc_1, qI xc_2, .val (.ref b3), .val (.ref b186), .val (.ref a199), qU] [(.ref sb_248)]))
      refine Go.by (fun t k => XS.astore X248.here hx rfl (hb hby at_449) rfl rfl (l' := #[qI ia, qI ib, .val (.long ip), .second, qI 0, qI ja, qI xc_1, qI xc_2, .val (.ref b3), .val (.ref b186), .val (.ref a199), .val (.ref sb_248)]) rfl (XS.aload X248.here hx rfl (hb hby at_451) rfl rfl (XS.aload X248.here hx rfl (hb hby at_453) rfl rfl k))) ?_
      show Go p e below _ (T248.setTop (mkF m 455 #[qI ia, qI ib, .val (.long ip), .second, qI 0, qI ja, qI xc_1, qI xc_2, .val (.ref b3), .val (.ref b186), .val (.ref a199), .val (.ref sb_248)] [(.ref a199), (.ref sb_248)]))
      have F258 : Old Z n0 T248.heap := (F249.keep K248 all0)
      have F259 : Exa Z T248.heap a199 "java/lang/String" := (F199_e.keep K248)
      have F260 : Fld Z T248.heap a199 "java/lang/String" "coder" "B" (.int 0) := (F199_c.keep K248 nin0)
      have F261 : Fld Z T248.heap a199 "java/lang/String" "value" "[B" (.ref d199) := (F199_v.keep K248 nin0)
      have F262 : Arv Z T248.heap d199 kd199 .byte (0 : Int32) [] (.int 0) := (F199_a.keep K248 nin0)
      have F263 : Keep h0 T248.heap [] := (F256.trans K248 all0)
      obtain ⟨cq257, kq257, q257a, q257b, q257c⟩ := isOf hZ rfl F248_0
      obtain ⟨_, _, ⟨T257, L257, k257, n257⟩, -, X257, ⟨Lc257, hQ257, l257, y257, z257⟩, st257⟩ := X248.virtualBack hx (y := (⟨"java/lang/String", "equals", "(Ljava/lang/Object;)Z"⟩ : MethodName)) (z := (⟨"java/lang/String", "equals", "(Ljava/lang/Object;)Z"⟩ : MethodName)) hown (mvT hZ (hw _ (mg 139 rfl))) (mvT hZ (hw _ (mg 140 rfl))) (notFace_of_selects (args := #[]) (mvT hZ (hw _ (mg 142 rfl)))) (mvT hZ (hw _ (mg 142 rfl))) (mvT hZ (hw _ (mg 141 rfl))) (by decide) (backOf (W := 0) (str_eq l Z a0 hw [] sb_248 a199 xb_248 d199 kb_248 kd199 (0 : Int32) ([]) cs T248.heap n0 F258 P0 F248_0 F248_1 F248_2 F248_3 F259 F260 F261 F262 hcs) hZ (hw _ (mg 143 rfl)) (hw _ (mg 11 rfl)) (by decide) (by decide)) q257a q257c (g := (mkF m 455 #[qI ia, qI ib, .val (.long ip), .second, qI 0, qI ja, qI xc_1, qI xc_2, .val (.ref b3), .val (.ref b186), .val (.ref a199), .val (.ref sb_248)] [(.ref a199), (.ref sb_248)])) rfl (by rw [hml]; rfl) (Steps.refl _) (argsL := [(.ref a199)]) (rest := []) (lenOf pd_26 rfl) rfl (by show 2 * 0 + _ ≤ _; exact Nat.le_of_eq rfl) (hb hby at_455) (fun _ _ => ⟨rfl, rfl, (by decide : 33 + 0 ≤ _), (by decide : 642 + 0 ≤ _)⟩)
      dsimp only [Pt.U, Pt.locs, Pt.cells, Pt.slots] at X257 l257 y257 z257 st257 hQ257
      subst y257 z257
      obtain ⟨rfl, N257q, e257⟩ := hQ257
      have N257 : Fr n0 L257 := by rw [l257]; exact Fr.app N248 N257q
      have X257 := own_mr X257 33 642 (by decide) (by decide)
      refine Go.tr st257 ?_
      show Go p e below _ (T257.setTop (mkF m 458 #[qI ia, qI ib, .val (.long ip), .second, qI 0, qI ja, qI xc_1, qI xc_2, .val (.ref b3), .val (.ref b186), .val (.ref a199), .val (.ref sb_248)] [(.int 1)]))
      have hq : Q_law Z ia ib ip cs fm h0 n0 (some (.int (nar .boolean (1 : Int32)))) T248.heap _ := ⟨rfl, N257, F263⟩
      exact Go.retNH hS (by rw [e257]; exact hk248) (own_chEnd X257 e257 hZ hEL A248 hh) X257 hx (t := .boolean) Bd.returns (by simp) hlk (hb hby at_458) (by decide) (by decide) (by rw [e257]; exact hq)
    · skip
      have F265 : Old Z n0 h199 := ((F191.keep K190 (allS ge186 all0)).ext E199)
      have F266 : Exa Z h199 b186 "java/lang/String" := (F190_0.ext E199)
      have F267 : Fld Z h199 b186 "java/lang/String" "coder" "B" (.int 0) := (F190_1.ext E199)
      have F268 : Fld Z h199 b186 "java/lang/String" "value" "[B" (.ref xb_190) := (F190_2.ext E199)
      have F269 : Arv Z h199 xb_190 kb_190 .byte (18 : Int32) [(.int (qB 47)), (.int (qB 98)), (.int (qB 97)), (.int (qB 114)), (.int (qB 101)), (.int (qB 45)), (.int (qB 108)), (.int (qB 111)), (.int (qB 99)), (.int (qB 107)), (.int (qB 47)), (.int (qB tv_126)), (.int (qB tv_134)), (.int (qB tv_142)), (.int (qB tv_150)), (.int (qB tv_158)), (.int (qB tv_166)), (.int (qB tv_174))] (.int 0) := (F190_3.ext E199)
      have hl270 : own_last [(.int (qB 47)), (.int (qB 98)), (.int (qB 97)), (.int (qB 114)), (.int (qB 101)), (.int (qB 45)), (.int (qB 108)), (.int (qB 111)), (.int (qB 99)), (.int (qB 107)), (.int (qB 47)), (.int (qB tv_126)), (.int (qB tv_134)), (.int (qB tv_142)), (.int (qB tv_150)), (.int (qB tv_158)), (.int (qB tv_166)), (.int (qB tv_174))] (18 : Int32) (16 : Int32) := by
        refine ⟨by decide, ?_, ?_⟩
        · show Value.int (qB tv_166) = .int 47; rw [he_166 (by rw [hja]; decide)]; rfl
        · intro q ha1 ha2; have ha1 : 16 < q := ha1; have ha2 : q < 18 := ha2
          rcases (by omega : q = 17) with rfl
          · exact (own_b47 hr_174 (hn_174 (by rw [hja]; decide)))
      have hl271 : own_last (own_tk [(.int (qB 47)), (.int (qB 98)), (.int (qB 97)), (.int (qB 114)), (.int (qB 101)), (.int (qB 45)), (.int (qB 108)), (.int (qB 111)), (.int (qB 99)), (.int (qB 107)), (.int (qB 47)), (.int (qB tv_126)), (.int (qB tv_134)), (.int (qB tv_142)), (.int (qB tv_150)), (.int (qB tv_158)), (.int (qB tv_166)), (.int (qB tv_174))] (16 : Int32)) (16 : Int32) (10 : Int32) := by
        refine own_last_tk ⟨by decide, rfl, ?_⟩
        intro q ha1 ha2; have ha1 : 10 < q := ha1; have ha2 : q < 16 := ha2
        rcases (by omega : q = 11 ∨ q = 12 ∨ q = 13 ∨ q = 14 ∨ q = 15) with rfl | rfl | rfl | rfl | rfl
        · exact (own_b47 hr_126 (hn_126 (by rw [hja]; decide)))
        · exact (own_b47 hr_134 (hn_134 (by rw [hja]; decide)))
        · exact (own_b47 hr_142 (hn_142 (by rw [hja]; decide)))
        · exact (own_b47 hr_150 (hn_150 (by rw [hja]; decide)))
        · exact (own_b47 hr_158 (hn_158 (by rw [hja]; decide)))
      have F272 : Keep h0 h199 [] := ((F194.trans K190 (allS (Or.inr sz186) all0)).ext E199)
      obtain ⟨_, _, ⟨T264, L264, k264, n264⟩, -, X264, sn264, gr264, ⟨Lc264, hQ264, l264, y264, z264, C264⟩, st264⟩ := callSS X199 hx (y := (⟨"com/example/bare_lock/barelock/zookeeper/LockPaths", "chroot", "(Ljava/lang/String;)Ljava/lang/String;"⟩ : MethodName)) hown (mvT hZ (hw _ (mg 69 rfl))) (mvT hZ (hw _ (mg 70 rfl))) (mvT hZ (hw _ (mg 71 rfl))) (mvT hZ (hw _ (mg 72 rfl))) (by decide) (backOfSH (W := 0) (chroot_0 l Z a0 hw [] b186 xb_190 kb_190 ([(.int (qB 47)), (.int (qB 98)), (.int (qB 97)), (.int (qB 114)), (.int (qB 101)), (.int (qB 45)), (.int (qB 108)), (.int (qB 111)), (.int (qB 99)), (.int (qB 107)), (.int (qB 47)), (.int (qB tv_126)), (.int (qB tv_134)), (.int (qB tv_142)), (.int (qB tv_150)), (.int (qB tv_158)), (.int (qB tv_166)), (.int (qB tv_174))]) (16 : Int32) (10 : Int32) cs fm h199 n0 F265 P0 F266 F267 F268 F269 P1 hcs hfm hl270 hl271 (by decide)) hZ (hw _ (mg 72 rfl)) (hw _ (mg 71 rfl)) (by decide) (by decide) hEL A199.1) (g := (mkF m 446 #[qI ia, qI ib, .val (.long ip), .second, qI 0, qI ja, qI xc_1, qI xc_2, .val (.ref b3), .val (.ref b186), .val (.ref a199), qU] [(.ref b186)])) rfl (by rw [hml]; rfl) (argsL := [(.ref b186)]) (rest := []) (lenOf pd_25 rfl) rfl (by show 2 * 0 + _ ≤ _; exact Nat.le_of_eq rfl) (hb hby at_446) (fun _ _ => ⟨rfl, e199, (by decide : 27 + 6 ≤ _), (by decide : 572 + 70 ≤ _)⟩)
      dsimp only [Pt.U, Pt.locs, Pt.cells, Pt.slots] at X264 l264 y264 z264 st264 hQ264 sn264 gr264 C264
      subst y264 z264
      obtain ⟨X264, hS, hZ, hown⟩ := rebS hS (n1 := T199.heap.size) (by rw [e199]; exact hk199) X264 sn264 gr264 hZ hown
      have hk264 : T264.heap.size ≤ T264.heap.size := Nat.le_refl _
      have A264 := A199.trans C264
      obtain ⟨sb_264, xb_264, kb_264, rfl, N264q, K264, F264_0, F264_1, F264_2, F264_3⟩ := hQ264
      have N264 : Fr n0 L264 := by rw [l264]; exact Fr.app N190 N264q
      have X264 := own_mr X264 33 642 (by decide) (by decide)
      refine Go.tr st264 ?_
      show Go p e below _ (T264.setTop (mkF m 449 #[qI ia, qI ib, .val (.long ip), .second, qI 0, qI ja, qI xc_1, qI xc_2, .val (.ref b3), .val (.ref b186), .val (.ref a199), qU] [(.ref sb_264)]))
      refine Go.by (fun t k => XS.astore X264.here hx rfl (hb hby at_449) rfl rfl (l' := #[qI ia, qI ib, .val (.long ip), .second, qI 0, qI ja, qI xc_1, qI xc_2, .val (.ref b3), .val (.ref b186), .val (.ref a199), .val (.ref sb_264)]) rfl (XS.aload X264.here hx rfl (hb hby at_451) rfl rfl (XS.aload X264.here hx rfl (hb hby at_453) rfl rfl k))) ?_
      show Go p e below _ (T264.setTop (mkF m 455 #[qI ia, qI ib, .val (.long ip), .second, qI 0, qI ja, qI xc_1, qI xc_2, .val (.ref b3), .val (.ref b186), .val (.ref a199), .val (.ref sb_264)] [(.ref a199), (.ref sb_264)]))
      have F274 : Old Z n0 T264.heap := (F265.keep K264 all0)
      have F275 : Exa Z T264.heap a199 "java/lang/String" := (F199_e.keep K264)
      have F276 : Fld Z T264.heap a199 "java/lang/String" "coder" "B" (.int 0) := (F199_c.keep K264 nin0)
      have F277 : Fld Z T264.heap a199 "java/lang/String" "value" "[B" (.ref d199) := (F199_v.keep K264 nin0)
      have F278 : Arv Z T264.heap d199 kd199 .byte (0 : Int32) [] (.int 0) := (F199_a.keep K264 nin0)
      have F279 : Keep h0 T264.heap [] := (F272.trans K264 all0)
      obtain ⟨cq273, kq273, q273a, q273b, q273c⟩ := isOf hZ rfl F264_0
      obtain ⟨_, _, ⟨T273, L273, k273, n273⟩, -, X273, ⟨Lc273, hQ273, l273, y273, z273⟩, st273⟩ := X264.virtualBack hx (y := (⟨"java/lang/String", "equals", "(Ljava/lang/Object;)Z"⟩ : MethodName)) (z := (⟨"java/lang/String", "equals", "(Ljava/lang/Object;)Z"⟩ : MethodName)) hown (mvT hZ (hw _ (mg 139 rfl))) (mvT hZ (hw _ (mg 140 rfl))) (notFace_of_selects (args := #[]) (mvT hZ (hw _ (mg 142 rfl)))) (mvT hZ (hw _ (mg 142 rfl))) (mvT hZ (hw _ (mg 141 rfl))) (by decide) (backOf (W := 0) (str_eq l Z a0 hw [] sb_264 a199 xb_264 d199 kb_264 kd199 (0 : Int32) ([]) cs T264.heap n0 F274 P0 F264_0 F264_1 F264_2 F264_3 F275 F276 F277 F278 hcs) hZ (hw _ (mg 143 rfl)) (hw _ (mg 11 rfl)) (by decide) (by decide)) q273a q273c (g := (mkF m 455 #[qI ia, qI ib, .val (.long ip), .second, qI 0, qI ja, qI xc_1, qI xc_2, .val (.ref b3), .val (.ref b186), .val (.ref a199), .val (.ref sb_264)] [(.ref a199), (.ref sb_264)])) rfl (by rw [hml]; rfl) (Steps.refl _) (argsL := [(.ref a199)]) (rest := []) (lenOf pd_26 rfl) rfl (by show 2 * 0 + _ ≤ _; exact Nat.le_of_eq rfl) (hb hby at_455) (fun _ _ => ⟨rfl, rfl, (by decide : 33 + 0 ≤ _), (by decide : 642 + 0 ≤ _)⟩)
      dsimp only [Pt.U, Pt.locs, Pt.cells, Pt.slots] at X273 l273 y273 z273 st273 hQ273
      subst y273 z273
      obtain ⟨rfl, N273q, e273⟩ := hQ273
      have N273 : Fr n0 L273 := by rw [l273]; exact Fr.app N264 N273q
      have X273 := own_mr X273 33 642 (by decide) (by decide)
      refine Go.tr st273 ?_
      show Go p e below _ (T273.setTop (mkF m 458 #[qI ia, qI ib, .val (.long ip), .second, qI 0, qI ja, qI xc_1, qI xc_2, .val (.ref b3), .val (.ref b186), .val (.ref a199), .val (.ref sb_264)] [(.int 1)]))
      have hq : Q_law Z ia ib ip cs fm h0 n0 (some (.int (nar .boolean (1 : Int32)))) T264.heap _ := ⟨rfl, N273, F279⟩
      exact Go.retNH hS (by rw [e273]; exact hk264) (own_chEnd X273 e273 hZ hEL A264 hh) X273 hx (t := .boolean) Bd.returns (by simp) hlk (hb hby at_458) (by decide) (by decide) (by rw [e273]; exact hq)
  · skip
    rw [show s₁.setTop (mkF m 8 #[qI ia, qI ib, .val (.long ip), .second, qU, qU, qU, qU, qU, qU, qU, qU] [(.int ((2 : Int32) * ((ia &&& (2147483647 : Int32)) % (3 : Int32))))]) = s₁.setTop (mkF m 8 #[qI ia, qI ib, .val (.long ip), .second, qU, qU, qU, qU, qU, qU, qU, qU] [(.int 2)]) from by rw [hk]]
    show Go p e below _ (s₁.setTop (mkF m 8 #[qI ia, qI ib, .val (.long ip), .second, qU, qU, qU, qU, qU, qU, qU, qU] [(.int 2)]))
    refine Go.by (fun t k => XS.istore X0.here hx rfl (hb hby at_8) rfl (l' := #[qI ia, qI ib, .val (.long ip), .second, qI 2, qU, qU, qU, qU, qU, qU, qU]) rfl (XS.iconst X0.here hx rfl (hb hby at_10) (XS.iloadN X0.here hx rfl (hb hby at_11) rfl (XS.iconst X0.here hx rfl (hb hby at_12) (XS.iushr X0.here hx rfl (hb hby at_13) rfl k))))) ?_
    show Go p e below _ (s₁.setTop (mkF m 14 #[qI ia, qI ib, .val (.long ip), .second, qI 2, qU, qU, qU, qU, qU, qU, qU] [(.int ((ia.toUInt32 >>> ((4 : Int32) &&& 31).toUInt32).toInt32)), (.int 1)]))
    refine Go.by (fun t k => X0.ldcInt hx hown (mvT hZ (hw _ (mg 1 rfl))) (g := (mkF m 14 #[qI ia, qI ib, .val (.long ip), .second, qI 2, qU, qU, qU, qU, qU, qU, qU] [(.int ((ia.toUInt32 >>> ((4 : Int32) &&& 31).toUInt32).toInt32)), (.int 1)])) rfl (hb hby at_14) t k) ?_
    show Go p e below _ (s₁.setTop (mkF m 16 #[qI ia, qI ib, .val (.long ip), .second, qI 2, qU, qU, qU, qU, qU, qU, qU] [(.int 65535), (.int ((ia.toUInt32 >>> ((4 : Int32) &&& 31).toUInt32).toInt32)), (.int 1)]))
    refine Go.by (fun t k => XS.iand X0.here hx rfl (hb hby at_16) rfl (XS.iconst X0.here hx rfl (hb hby at_17) (XS.iload X0.here hx rfl (hb hby at_18) rfl (XS.isub X0.here hx rfl (hb hby at_20) rfl k)))) ?_
    show Go p e below _ (s₁.setTop (mkF m 21 #[qI ia, qI ib, .val (.long ip), .second, qI 2, qU, qU, qU, qU, qU, qU, qU] [(.int 3), (.int (((ia.toUInt32 >>> ((4 : Int32) &&& 31).toUInt32).toInt32) &&& (65535 : Int32))), (.int 1)]))
    refine Go.by (fun t k => iremM X0 hx rfl (hb hby at_21) rfl (by decide) k) ?_
    show Go p e below _ (s₁.setTop (mkF m 22 #[qI ia, qI ib, .val (.long ip), .second, qI 2, qU, qU, qU, qU, qU, qU, qU] [(.int ((((ia.toUInt32 >>> ((4 : Int32) &&& 31).toUInt32).toInt32) &&& (65535 : Int32)) % (3 : Int32))), (.int 1)]))
    refine Go.by (fun t k => XS.iadd X0.here hx rfl (hb hby at_22) rfl k) ?_
    show Go p e below _ (s₁.setTop (mkF m 23 #[qI ia, qI ib, .val (.long ip), .second, qI 2, qU, qU, qU, qU, qU, qU, qU] [(.int ((1 : Int32) + ((((ia.toUInt32 >>> ((4 : Int32) &&& 31).toUInt32).toInt32) &&& (65535 : Int32)) % (3 : Int32))))]))
    obtain ⟨ja, e_ja⟩ : ∃ q : Int32, q = ((1 : Int32) + ((((ia.toUInt32 >>> ((4 : Int32) &&& 31).toUInt32).toInt32) &&& (65535 : Int32)) % (3 : Int32))) := ⟨_, rfl⟩
    have hja : ja = (1 : Int32) ∨ ja = (2 : Int32) ∨ ja = (3 : Int32) := by rw [e_ja]; exact own_a3 _
    rw [show s₁.setTop (mkF m 23 #[qI ia, qI ib, .val (.long ip), .second, qI 2, qU, qU, qU, qU, qU, qU, qU] [(.int ((1 : Int32) + ((((ia.toUInt32 >>> ((4 : Int32) &&& 31).toUInt32).toInt32) &&& (65535 : Int32)) % (3 : Int32))))]) = s₁.setTop (mkF m 23 #[qI ia, qI ib, .val (.long ip), .second, qI 2, qU, qU, qU, qU, qU, qU, qU] [(.int ja)]) from by rw [e_ja]]
    show Go p e below _ (s₁.setTop (mkF m 23 #[qI ia, qI ib, .val (.long ip), .second, qI 2, qU, qU, qU, qU, qU, qU, qU] [(.int ja)]))
    refine Go.by (fun t k => XS.istore X0.here hx rfl (hb hby at_23) rfl (l' := #[qI ia, qI ib, .val (.long ip), .second, qI 2, qI ja, qU, qU, qU, qU, qU, qU]) rfl (XS.iloadN X0.here hx rfl (hb hby at_25) rfl k)) ?_
    show Go p e below _ (s₁.setTop (mkF m 26 #[qI ia, qI ib, .val (.long ip), .second, qI 2, qI ja, qU, qU, qU, qU, qU, qU] [(.int ib)]))
    obtain ⟨_, _, ⟨T280, L280, k280, n280⟩, -, X280, ⟨Lc280, hQ280, l280, y280, z280⟩, st280⟩ := Jvm.LawKit.callS X0 hx (y := (⟨"com/example/bare_lock/barelock/zookeeper/LockPathsChrootPinLaw", "chrootChar", "(I)C"⟩ : MethodName)) hown (mvT hZ (hw _ (mg 2 rfl))) (mvT hZ (hw _ (mg 3 rfl))) (mvT hZ (hw _ (mg 4 rfl))) (mvT hZ (hw _ (mg 5 rfl))) (by decide) (backOf (W := 0) (cchar l Z a0 hw [] ib h0 n0 O0) hZ (hw _ (mg 5 rfl)) (hw _ (mg 4 rfl)) (by decide) (by decide)) (g := (mkF m 26 #[qI ia, qI ib, .val (.long ip), .second, qI 2, qI ja, qU, qU, qU, qU, qU, qU] [(.int ib)])) rfl (by rw [hml]; rfl) (argsL := [(.int ib)]) (rest := []) (lenOf pd_4 rfl) rfl (by show 2 * 0 + _ ≤ _; exact Nat.le_of_eq rfl) (hb hby at_26) (fun _ _ => ⟨rfl, e0, (by decide : 0 + 0 ≤ _), (by decide : 0 + 0 ≤ _)⟩)
    dsimp only [Pt.U, Pt.locs, Pt.cells, Pt.slots] at X280 l280 y280 z280 st280 hQ280
    subst y280 z280
    obtain ⟨xc_280, rfl, N280q, e280, hxx_280⟩ := hQ280
    have N280 : Fr n0 L280 := by rw [l280]; exact Fr.app N0 N280q
    have X280 := own_mr X280 0 0 (by decide) (by decide)
    refine Go.by st280 ?_
    show Go p e below _ (T280.setTop (mkF m 29 #[qI ia, qI ib, .val (.long ip), .second, qI 2, qI ja, qU, qU, qU, qU, qU, qU] [(.int xc_280)]))
    refine Go.by (fun t k => XS.istore X280.here hx rfl (hb hby at_29) rfl (l' := #[qI ia, qI ib, .val (.long ip), .second, qI 2, qI ja, qI xc_280, qU, qU, qU, qU, qU]) rfl (XS.iloadN X280.here hx rfl (hb hby at_31) rfl (XS.bipush X280.here hx rfl (hb hby at_32) (XS.iushr X280.here hx rfl (hb hby at_34) rfl k)))) ?_
    show Go p e below _ (T280.setTop (mkF m 35 #[qI ia, qI ib, .val (.long ip), .second, qI 2, qI ja, qI xc_280, qU, qU, qU, qU, qU] [(.int ((ib.toUInt32 >>> ((8 : Int32) &&& 31).toUInt32).toInt32))]))
    obtain ⟨_, _, ⟨T281, L281, k281, n281⟩, -, X281, ⟨Lc281, hQ281, l281, y281, z281⟩, st281⟩ := Jvm.LawKit.callS X280 hx (y := (⟨"com/example/bare_lock/barelock/zookeeper/LockPathsChrootPinLaw", "chrootChar", "(I)C"⟩ : MethodName)) hown (mvT hZ (hw _ (mg 2 rfl))) (mvT hZ (hw _ (mg 3 rfl))) (mvT hZ (hw _ (mg 4 rfl))) (mvT hZ (hw _ (mg 5 rfl))) (by decide) (backOf (W := 0) (cchar l Z a0 hw [] ((ib.toUInt32 >>> ((8 : Int32) &&& 31).toUInt32).toInt32) h0 n0 O0) hZ (hw _ (mg 5 rfl)) (hw _ (mg 4 rfl)) (by decide) (by decide)) (g := (mkF m 35 #[qI ia, qI ib, .val (.long ip), .second, qI 2, qI ja, qI xc_280, qU, qU, qU, qU, qU] [(.int ((ib.toUInt32 >>> ((8 : Int32) &&& 31).toUInt32).toInt32))])) rfl (by rw [hml]; rfl) (argsL := [(.int ((ib.toUInt32 >>> ((8 : Int32) &&& 31).toUInt32).toInt32))]) (rest := []) (lenOf pd_4 rfl) rfl (by show 2 * 0 + _ ≤ _; exact Nat.le_of_eq rfl) (hb hby at_35) (fun _ _ => ⟨rfl, e280, (by decide : 0 + 0 ≤ _), (by decide : 0 + 0 ≤ _)⟩)
    dsimp only [Pt.U, Pt.locs, Pt.cells, Pt.slots] at X281 l281 y281 z281 st281 hQ281
    subst y281 z281
    obtain ⟨xc_281, rfl, N281q, e281, hxx_281⟩ := hQ281
    have N281 : Fr n0 L281 := by rw [l281]; exact Fr.app N280 N281q
    have X281 := own_mr X281 0 0 (by decide) (by decide)
    refine Go.by st281 ?_
    show Go p e below _ (T281.setTop (mkF m 38 #[qI ia, qI ib, .val (.long ip), .second, qI 2, qI ja, qI xc_280, qU, qU, qU, qU, qU] [(.int xc_281)]))
    refine Go.by (fun t k => XS.istore X281.here hx rfl (hb hby at_38) rfl (l' := #[qI ia, qI ib, .val (.long ip), .second, qI 2, qI ja, qI xc_280, qI xc_281, qU, qU, qU, qU]) rfl (XS.bipush X281.here hx rfl (hb hby at_40) k)) ?_
    show Go p e below _ (T281.setTop (mkF m 42 #[qI ia, qI ib, .val (.long ip), .second, qI 2, qI ja, qI xc_280, qI xc_281, qU, qU, qU, qU] [(.int 18)]))
    obtain ⟨T282, h282, k282, X282, e282, E282, A282, Q282, st282⟩ := newPE X281 hx hZ (hw _ (mg 6 rfl)) e281 (g := (mkF m 42 #[qI ia, qI ib, .val (.long ip), .second, qI 2, qI ja, qI xc_280, qI xc_281, qU, qU, qU, qU] [(.int 18)])) rfl (hb hby at_42) rfl (by decide) (cap := 18) (by decide) (by decide) (by decide) (by decide) (ad := "[C") (by decide)
    obtain ⟨b282, g282⟩ : ∃ z, z = h0.size := ⟨_, rfl⟩
    rw [← g282] at A282 Q282 st282
    have gl282 : h0.size ≤ b282 := Nat.le_of_eq g282.symm
    have ge282 : n0 ≤ b282 := Nat.le_trans (own_old_size O0) gl282
    have sz282 : h0.size ≤ b282 := Nat.le_trans (Keep.refl h0 []).1 gl282
    have F283 : Arv Z h282 b282 k282 .char (18 : Int32) [(.int 0), (.int 0), (.int 0), (.int 0), (.int 0), (.int 0), (.int 0), (.int 0), (.int 0), (.int 0), (.int 0), (.int 0), (.int 0), (.int 0), (.int 0), (.int 0), (.int 0), (.int 0)] (.int 0) := (Arv.new A282 (by decide)).pad (pad_rep [] (.int 0) 18)
    refine Go.by st282 ?_
    show Go p e below _ (T282.setTop (mkF m 44 #[qI ia, qI ib, .val (.long ip), .second, qI 2, qI ja, qI xc_280, qI xc_281, qU, qU, qU, qU] [(.ref b282)]))
    refine Go.by (fun t k => XS.dup X282.here hx rfl (hb hby at_44) rfl rfl (XS.iconst X282.here hx rfl (hb hby at_45) (XS.iconst X282.here hx rfl (hb hby at_46) (XS.iload X282.here hx rfl (hb hby at_47) rfl (XS.iload X282.here hx rfl (hb hby at_49) rfl (XS.iload X282.here hx rfl (hb hby at_51) rfl (XS.iload X282.here hx rfl (hb hby at_53) rfl (XS.lloadN X282.here hx rfl (hb hby at_55) rfl k)))))))) ?_
    show Go p e below _ (T282.setTop (mkF m 56 #[qI ia, qI ib, .val (.long ip), .second, qI 2, qI ja, qI xc_280, qI xc_281, qU, qU, qU, qU] [(.long ip), (.int xc_281), (.int xc_280), (.int ja), (.int 2), (.int 0), (.int 0), (.ref b282), (.ref b282)]))
    have F285 : Old Z n0 h282 := (O0.ext E282)
    have F286 : Keep h0 h282 [] := ((Keep.refl h0 []).ext E282)
    obtain ⟨_, _, ⟨T284, L284, k284, n284⟩, -, X284, ⟨Lc284, hQ284, l284, y284, z284⟩, st284⟩ := Jvm.LawKit.callS X282 hx (y := (⟨"com/example/bare_lock/barelock/zookeeper/LockPathsChrootPinLaw", "at", "(IIICCJ)C"⟩ : MethodName)) hown (mvT hZ (hw _ (mg 7 rfl))) (mvT hZ (hw _ (mg 8 rfl))) (mvT hZ (hw _ (mg 4 rfl))) (mvT hZ (hw _ (mg 9 rfl))) (by decide) (backOf (W := 3) (at_s l Z a0 hw [] (0 : Int32) (2 : Int32) ja xc_280 xc_281 ip h282 n0 F285 (by decide) (by decide) (by decide)) hZ (hw _ (mg 9 rfl)) (hw _ (mg 4 rfl)) (by decide) (by decide)) (g := (mkF m 56 #[qI ia, qI ib, .val (.long ip), .second, qI 2, qI ja, qI xc_280, qI xc_281, qU, qU, qU, qU] [(.long ip), (.int xc_281), (.int xc_280), (.int ja), (.int 2), (.int 0), (.int 0), (.ref b282), (.ref b282)])) rfl (by rw [hml]; rfl) (argsL := [(.int 0), (.int 2), (.int ja), (.int xc_280), (.int xc_281), (.long ip)]) (rest := [(.int 0), (.ref b282), (.ref b282)]) (lenOf pd_23 rfl) rfl (by show 2 * 0 + _ ≤ _; exact Nat.le_of_eq rfl) (hb hby at_56) (fun _ _ => ⟨rfl, e282, (by decide : 1 + 0 ≤ _), (by decide : 18 + 0 ≤ _)⟩)
    dsimp only [Pt.U, Pt.locs, Pt.cells, Pt.slots] at X284 l284 y284 z284 st284 hQ284
    subst y284 z284
    obtain ⟨rfl, N284q, e284⟩ := hQ284
    have N284 : Fr n0 L284 := by rw [l284]; exact Fr.app N281 N284q
    have X284 := own_mr X284 1 18 (by decide) (by decide)
    refine Go.by st284 ?_
    show Go p e below _ (T284.setTop (mkF m 59 #[qI ia, qI ib, .val (.long ip), .second, qI 2, qI ja, qI xc_280, qI xc_281, qU, qU, qU, qU] [(.int 47), (.int 0), (.ref b282), (.ref b282)]))
    obtain ⟨cl287, Ar287, qk287, sz287, nn287, Ha287, Gf287⟩ := id F283
    have hin288 : ¬ ((0 : Int32) < 0 ∨ cl287.slots.size ≤ ((0 : Int32)).toNatClampNeg) := inb_of sz287 ⟨by decide, by decide⟩
    obtain ⟨T289, h289, X289, e289, W289, st289⟩ := stC X284 hx hZ e284 Ar287 (j := (0 : Int32)) hin288 (g := (mkF m 59 #[qI ia, qI ib, .val (.long ip), .second, qI 2, qI ja, qI xc_280, qI xc_281, qU, qU, qU, qU] [(.int 47), (.int 0), (.ref b282), (.ref b282)])) rfl rfl (hb hby at_59)
    have N289 := Fr.snoc X289 N284 ge282
    have F290 : Arv Z h289 b282 k282 .char (18 : Int32) [(.int 47), (.int 0), (.int 0), (.int 0), (.int 0), (.int 0), (.int 0), (.int 0), (.int 0), (.int 0), (.int 0), (.int 0), (.int 0), (.int 0), (.int 0), (.int 0), (.int 0), (.int 0)] (.int 0) := Arv.set Ar287 qk287 sz287 nn287 Ha287 Gf287 (fits_nar_char _) W289 0 rfl (Nat.le_of_ble_eq_true rfl)
    refine Go.by st289 ?_
    show Go p e below _ (T289.setTop (mkF m 60 #[qI ia, qI ib, .val (.long ip), .second, qI 2, qI ja, qI xc_280, qI xc_281, qU, qU, qU, qU] [(.ref b282)]))
    refine Go.by (fun t k => XS.dup X289.here hx rfl (hb hby at_60) rfl rfl (XS.iconst X289.here hx rfl (hb hby at_61) (XS.iconst X289.here hx rfl (hb hby at_62) (XS.iload X289.here hx rfl (hb hby at_63) rfl (XS.iload X289.here hx rfl (hb hby at_65) rfl (XS.iload X289.here hx rfl (hb hby at_67) rfl (XS.iload X289.here hx rfl (hb hby at_69) rfl (XS.lloadN X289.here hx rfl (hb hby at_71) rfl k)))))))) ?_
    show Go p e below _ (T289.setTop (mkF m 72 #[qI ia, qI ib, .val (.long ip), .second, qI 2, qI ja, qI xc_280, qI xc_281, qU, qU, qU, qU] [(.long ip), (.int xc_281), (.int xc_280), (.int ja), (.int 2), (.int 1), (.int 1), (.ref b282), (.ref b282)]))
    have F292 : Old Z n0 h289 := (F285.wr W289 ge282)
    have F293 : Keep h0 h289 [] := (F286.wr W289 (Or.inr sz282))
    obtain ⟨_, _, ⟨T291, L291, k291, n291⟩, -, X291, ⟨Lc291, hQ291, l291, y291, z291⟩, st291⟩ := Jvm.LawKit.callS X289 hx (y := (⟨"com/example/bare_lock/barelock/zookeeper/LockPathsChrootPinLaw", "at", "(IIICCJ)C"⟩ : MethodName)) hown (mvT hZ (hw _ (mg 7 rfl))) (mvT hZ (hw _ (mg 8 rfl))) (mvT hZ (hw _ (mg 4 rfl))) (mvT hZ (hw _ (mg 9 rfl))) (by decide) (backOf (W := 3) (at_x l Z a0 hw [] (2 : Int32) ja xc_280 xc_281 ip h289 n0 F292 (by decide) ⟨hxx_280.1, hxx_280.2.1⟩) hZ (hw _ (mg 9 rfl)) (hw _ (mg 4 rfl)) (by decide) (by decide)) (g := (mkF m 72 #[qI ia, qI ib, .val (.long ip), .second, qI 2, qI ja, qI xc_280, qI xc_281, qU, qU, qU, qU] [(.long ip), (.int xc_281), (.int xc_280), (.int ja), (.int 2), (.int 1), (.int 1), (.ref b282), (.ref b282)])) rfl (by rw [hml]; rfl) (argsL := [(.int 1), (.int 2), (.int ja), (.int xc_280), (.int xc_281), (.long ip)]) (rest := [(.int 1), (.ref b282), (.ref b282)]) (lenOf pd_23 rfl) rfl (by show 2 * 0 + _ ≤ _; exact Nat.le_of_eq rfl) (hb hby at_72) (fun _ _ => ⟨rfl, e289, (by decide : 1 + 0 ≤ _), (by decide : 18 + 0 ≤ _)⟩)
    dsimp only [Pt.U, Pt.locs, Pt.cells, Pt.slots] at X291 l291 y291 z291 st291 hQ291
    subst y291 z291
    obtain ⟨rfl, N291q, e291⟩ := hQ291
    have N291 : Fr n0 L291 := by rw [l291]; exact Fr.app N289 N291q
    have X291 := own_mr X291 1 18 (by decide) (by decide)
    refine Go.by st291 ?_
    show Go p e below _ (T291.setTop (mkF m 75 #[qI ia, qI ib, .val (.long ip), .second, qI 2, qI ja, qI xc_280, qI xc_281, qU, qU, qU, qU] [(.int xc_280), (.int 1), (.ref b282), (.ref b282)]))
    have F294 : Exa Z h289 b282 "[C" := (Q282.wr W289)
    obtain ⟨cl295, Ar295, qk295, sz295, nn295, Ha295, Gf295⟩ := id F290
    have hin296 : ¬ ((1 : Int32) < 0 ∨ cl295.slots.size ≤ ((1 : Int32)).toNatClampNeg) := inb_of sz295 ⟨by decide, by decide⟩
    obtain ⟨T297, h297, X297, e297, W297, st297⟩ := stC X291 hx hZ e291 Ar295 (j := (1 : Int32)) hin296 (g := (mkF m 75 #[qI ia, qI ib, .val (.long ip), .second, qI 2, qI ja, qI xc_280, qI xc_281, qU, qU, qU, qU] [(.int xc_280), (.int 1), (.ref b282), (.ref b282)])) rfl rfl (hb hby at_75)
    have N297 := Fr.snoc X297 N291 ge282
    have F298 : Arv Z h297 b282 k282 .char (18 : Int32) [(.int 47), (.int (nar .char xc_280)), (.int 0), (.int 0), (.int 0), (.int 0), (.int 0), (.int 0), (.int 0), (.int 0), (.int 0), (.int 0), (.int 0), (.int 0), (.int 0), (.int 0), (.int 0), (.int 0)] (.int 0) := Arv.set Ar295 qk295 sz295 nn295 Ha295 Gf295 (fits_nar_char _) W297 1 rfl (Nat.le_of_ble_eq_true rfl)
    refine Go.by st297 ?_
    show Go p e below _ (T297.setTop (mkF m 76 #[qI ia, qI ib, .val (.long ip), .second, qI 2, qI ja, qI xc_280, qI xc_281, qU, qU, qU, qU] [(.ref b282)]))
    refine Go.by (fun t k => XS.dup X297.here hx rfl (hb hby at_76) rfl rfl (XS.iconst X297.here hx rfl (hb hby at_77) (XS.iconst X297.here hx rfl (hb hby at_78) (XS.iload X297.here hx rfl (hb hby at_79) rfl (XS.iload X297.here hx rfl (hb hby at_81) rfl (XS.iload X297.here hx rfl (hb hby at_83) rfl (XS.iload X297.here hx rfl (hb hby at_85) rfl (XS.lloadN X297.here hx rfl (hb hby at_87) rfl k)))))))) ?_
    show Go p e below _ (T297.setTop (mkF m 88 #[qI ia, qI ib, .val (.long ip), .second, qI 2, qI ja, qI xc_280, qI xc_281, qU, qU, qU, qU] [(.long ip), (.int xc_281), (.int xc_280), (.int ja), (.int 2), (.int 2), (.int 2), (.ref b282), (.ref b282)]))
    have F300 : Old Z n0 h297 := (F292.wr W297 ge282)
    have F301 : Keep h0 h297 [] := (F293.wr W297 (Or.inr sz282))
    have F302 : h0.size ≤ h297.size := (Nat.le_trans (Nat.le_trans (Nat.le_trans hk0 E282.1) (Nat.le_of_eq W289.size.symm)) (Nat.le_of_eq W297.size.symm))
    have F303 : CHr Z own_EL s.vm h0 s.vm h297 := (own_chW (own_chW (own_chE hR0 E282) W289 (Safe.exa hZ.alike Q282 (by decide) (by decide))) W297 (Safe.exa hZ.alike F294 (by decide) (by decide)))
    obtain ⟨_, _, ⟨T299, L299, k299, n299⟩, -, X299, sn299, gr299, ⟨Lc299, hQ299, l299, y299, z299, C299⟩, st299⟩ := callSS X297 hx (y := (⟨"com/example/bare_lock/barelock/zookeeper/LockPathsChrootPinLaw", "at", "(IIICCJ)C"⟩ : MethodName)) hown (mvT hZ (hw _ (mg 7 rfl))) (mvT hZ (hw _ (mg 8 rfl))) (mvT hZ (hw _ (mg 4 rfl))) (mvT hZ (hw _ (mg 9 rfl))) (by decide) (backOfSH (W := 3) (at_lit l Z a0 hw [] (2 : Int32) (2 : Int32) ja xc_280 xc_281 ip (47 : Int32) cs fm h297 n0 F300 P0 P1 hcs (by decide) (by decide) (by decide) (own_gd (n := 0) (by decide) rfl) hfm) hZ (hw _ (mg 9 rfl)) (hw _ (mg 4 rfl)) (by decide) (by decide) hEL F303.1) (g := (mkF m 88 #[qI ia, qI ib, .val (.long ip), .second, qI 2, qI ja, qI xc_280, qI xc_281, qU, qU, qU, qU] [(.long ip), (.int xc_281), (.int xc_280), (.int ja), (.int 2), (.int 2), (.int 2), (.ref b282), (.ref b282)])) rfl (by rw [hml]; rfl) (argsL := [(.int 2), (.int 2), (.int ja), (.int xc_280), (.int xc_281), (.long ip)]) (rest := [(.int 2), (.ref b282), (.ref b282)]) (lenOf pd_23 rfl) rfl (by show 2 * 0 + _ ≤ _; exact Nat.le_of_eq rfl) (hb hby at_88) (fun _ _ => ⟨rfl, e297, (by decide : 1 + 2 ≤ _), (by decide : 18 + 48 ≤ _)⟩)
    dsimp only [Pt.U, Pt.locs, Pt.cells, Pt.slots] at X299 l299 y299 z299 st299 hQ299 sn299 gr299 C299
    subst y299 z299
    obtain ⟨X299, hS, hZ, hown⟩ := rebS hS (n1 := T297.heap.size) (by rw [e297]; exact F302) X299 sn299 gr299 hZ hown
    have hk299 : T299.heap.size ≤ T299.heap.size := Nat.le_refl _
    have A299 := F303.trans C299
    obtain ⟨rfl, N299q, K299⟩ := hQ299
    have N299 : Fr n0 L299 := by rw [l299]; exact Fr.app N297 N299q
    have X299 := own_mr X299 3 66 (by decide) (by decide)
    refine Go.tr st299 ?_
    show Go p e below _ (T299.setTop (mkF m 91 #[qI ia, qI ib, .val (.long ip), .second, qI 2, qI ja, qI xc_280, qI xc_281, qU, qU, qU, qU] [(.int (own_lc (47 : Int32))), (.int 2), (.ref b282), (.ref b282)]))
    rw [show T299.setTop (mkF m 91 #[qI ia, qI ib, .val (.long ip), .second, qI 2, qI ja, qI xc_280, qI xc_281, qU, qU, qU, qU] [(.int (own_lc (47 : Int32))), (.int 2), (.ref b282), (.ref b282)]) = T299.setTop (mkF m 91 #[qI ia, qI ib, .val (.long ip), .second, qI 2, qI ja, qI xc_280, qI xc_281, qU, qU, qU, qU] [(.int 47), (.int 2), (.ref b282), (.ref b282)]) from by rw [show own_lc (47 : Int32) = (47 : Int32) from by decide]]
    show Go p e below _ (T299.setTop (mkF m 91 #[qI ia, qI ib, .val (.long ip), .second, qI 2, qI ja, qI xc_280, qI xc_281, qU, qU, qU, qU] [(.int 47), (.int 2), (.ref b282), (.ref b282)]))
    have F304 : Exa Z T299.heap b282 "[C" := ((F294.wr W297).keep K299)
    have F305 : Arv Z T299.heap b282 k282 .char (18 : Int32) [(.int 47), (.int (nar .char xc_280)), (.int 0), (.int 0), (.int 0), (.int 0), (.int 0), (.int 0), (.int 0), (.int 0), (.int 0), (.int 0), (.int 0), (.int 0), (.int 0), (.int 0), (.int 0), (.int 0)] (.int 0) := (F298.keep K299 nin0)
    obtain ⟨cl306, Ar306, qk306, sz306, nn306, Ha306, Gf306⟩ := id F305
    have hin307 : ¬ ((2 : Int32) < 0 ∨ cl306.slots.size ≤ ((2 : Int32)).toNatClampNeg) := inb_of sz306 ⟨by decide, by decide⟩
    obtain ⟨T308, h308, X308, e308, W308, st308⟩ := stC X299 hx hZ rfl Ar306 (j := (2 : Int32)) hin307 (g := (mkF m 91 #[qI ia, qI ib, .val (.long ip), .second, qI 2, qI ja, qI xc_280, qI xc_281, qU, qU, qU, qU] [(.int 47), (.int 2), (.ref b282), (.ref b282)])) rfl rfl (hb hby at_91)
    have N308 := Fr.snoc X308 N299 ge282
    have F309 : Arv Z h308 b282 k282 .char (18 : Int32) [(.int 47), (.int (nar .char xc_280)), (.int 47), (.int 0), (.int 0), (.int 0), (.int 0), (.int 0), (.int 0), (.int 0), (.int 0), (.int 0), (.int 0), (.int 0), (.int 0), (.int 0), (.int 0), (.int 0)] (.int 0) := Arv.set Ar306 qk306 sz306 nn306 Ha306 Gf306 (fits_nar_char _) W308 2 rfl (Nat.le_of_ble_eq_true rfl)
    refine Go.by st308 ?_
    show Go p e below _ (T308.setTop (mkF m 92 #[qI ia, qI ib, .val (.long ip), .second, qI 2, qI ja, qI xc_280, qI xc_281, qU, qU, qU, qU] [(.ref b282)]))
    refine Go.by (fun t k => XS.dup X308.here hx rfl (hb hby at_92) rfl rfl (XS.iconst X308.here hx rfl (hb hby at_93) (XS.iconst X308.here hx rfl (hb hby at_94) (XS.iload X308.here hx rfl (hb hby at_95) rfl (XS.iload X308.here hx rfl (hb hby at_97) rfl (XS.iload X308.here hx rfl (hb hby at_99) rfl (XS.iload X308.here hx rfl (hb hby at_101) rfl (XS.lloadN X308.here hx rfl (hb hby at_103) rfl k)))))))) ?_
    show Go p e below _ (T308.setTop (mkF m 104 #[qI ia, qI ib, .val (.long ip), .second, qI 2, qI ja, qI xc_280, qI xc_281, qU, qU, qU, qU] [(.long ip), (.int xc_281), (.int xc_280), (.int ja), (.int 2), (.int 3), (.int 3), (.ref b282), (.ref b282)]))
    have F311 : Old Z n0 h308 := ((F300.keep K299 all0).wr W308 ge282)
    have F312 : Keep h0 h308 [] := ((F301.trans K299 all0).wr W308 (Or.inr sz282))
    have F313 : T299.heap.size ≤ h308.size := (Nat.le_trans hk299 (Nat.le_of_eq W308.size.symm))
    have F314 : CHr Z own_EL s.vm h0 T299.vm h308 := (own_chW A299 W308 (Safe.exa hZ.alike F304 (by decide) (by decide)))
    obtain ⟨_, _, ⟨T310, L310, k310, n310⟩, -, X310, sn310, gr310, ⟨Lc310, hQ310, l310, y310, z310, C310⟩, st310⟩ := callSS X308 hx (y := (⟨"com/example/bare_lock/barelock/zookeeper/LockPathsChrootPinLaw", "at", "(IIICCJ)C"⟩ : MethodName)) hown (mvT hZ (hw _ (mg 7 rfl))) (mvT hZ (hw _ (mg 8 rfl))) (mvT hZ (hw _ (mg 4 rfl))) (mvT hZ (hw _ (mg 9 rfl))) (by decide) (backOfSH (W := 3) (at_lit l Z a0 hw [] (3 : Int32) (2 : Int32) ja xc_280 xc_281 ip (98 : Int32) cs fm h308 n0 F311 P0 P1 hcs (by decide) (by decide) (by decide) (own_gd (n := 1) (by decide) rfl) hfm) hZ (hw _ (mg 9 rfl)) (hw _ (mg 4 rfl)) (by decide) (by decide) hEL F314.1) (g := (mkF m 104 #[qI ia, qI ib, .val (.long ip), .second, qI 2, qI ja, qI xc_280, qI xc_281, qU, qU, qU, qU] [(.long ip), (.int xc_281), (.int xc_280), (.int ja), (.int 2), (.int 3), (.int 3), (.ref b282), (.ref b282)])) rfl (by rw [hml]; rfl) (argsL := [(.int 3), (.int 2), (.int ja), (.int xc_280), (.int xc_281), (.long ip)]) (rest := [(.int 3), (.ref b282), (.ref b282)]) (lenOf pd_23 rfl) rfl (by show 2 * 0 + _ ≤ _; exact Nat.le_of_eq rfl) (hb hby at_104) (fun _ _ => ⟨rfl, e308, (by decide : 3 + 2 ≤ _), (by decide : 66 + 48 ≤ _)⟩)
    dsimp only [Pt.U, Pt.locs, Pt.cells, Pt.slots] at X310 l310 y310 z310 st310 hQ310 sn310 gr310 C310
    subst y310 z310
    obtain ⟨X310, hS, hZ, hown⟩ := rebS hS (n1 := T308.heap.size) (by rw [e308]; exact F313) X310 sn310 gr310 hZ hown
    have hk310 : T310.heap.size ≤ T310.heap.size := Nat.le_refl _
    have A310 := F314.trans C310
    obtain ⟨rfl, N310q, K310⟩ := hQ310
    have N310 : Fr n0 L310 := by rw [l310]; exact Fr.app N308 N310q
    have X310 := own_mr X310 5 114 (by decide) (by decide)
    refine Go.tr st310 ?_
    show Go p e below _ (T310.setTop (mkF m 107 #[qI ia, qI ib, .val (.long ip), .second, qI 2, qI ja, qI xc_280, qI xc_281, qU, qU, qU, qU] [(.int (own_lc (98 : Int32))), (.int 3), (.ref b282), (.ref b282)]))
    rw [show T310.setTop (mkF m 107 #[qI ia, qI ib, .val (.long ip), .second, qI 2, qI ja, qI xc_280, qI xc_281, qU, qU, qU, qU] [(.int (own_lc (98 : Int32))), (.int 3), (.ref b282), (.ref b282)]) = T310.setTop (mkF m 107 #[qI ia, qI ib, .val (.long ip), .second, qI 2, qI ja, qI xc_280, qI xc_281, qU, qU, qU, qU] [(.int 98), (.int 3), (.ref b282), (.ref b282)]) from by rw [show own_lc (98 : Int32) = (98 : Int32) from by decide]]
    show Go p e below _ (T310.setTop (mkF m 107 #[qI ia, qI ib, .val (.long ip), .second, qI 2, qI ja, qI xc_280, qI xc_281, qU, qU, qU, qU] [(.int 98), (.int 3), (.ref b282), (.ref b282)]))
    have F315 : Exa Z T310.heap b282 "[C" := ((F304.wr W308).keep K310)
    have F316 : Arv Z T310.heap b282 k282 .char (18 : Int32) [(.int 47), (.int (nar .char xc_280)), (.int 47), (.int 0), (.int 0), (.int 0), (.int 0), (.int 0), (.int 0), (.int 0), (.int 0), (.int 0), (.int 0), (.int 0), (.int 0), (.int 0), (.int 0), (.int 0)] (.int 0) := (F309.keep K310 nin0)
    obtain ⟨cl317, Ar317, qk317, sz317, nn317, Ha317, Gf317⟩ := id F316
    have hin318 : ¬ ((3 : Int32) < 0 ∨ cl317.slots.size ≤ ((3 : Int32)).toNatClampNeg) := inb_of sz317 ⟨by decide, by decide⟩
    obtain ⟨T319, h319, X319, e319, W319, st319⟩ := stC X310 hx hZ rfl Ar317 (j := (3 : Int32)) hin318 (g := (mkF m 107 #[qI ia, qI ib, .val (.long ip), .second, qI 2, qI ja, qI xc_280, qI xc_281, qU, qU, qU, qU] [(.int 98), (.int 3), (.ref b282), (.ref b282)])) rfl rfl (hb hby at_107)
    have N319 := Fr.snoc X319 N310 ge282
    have F320 : Arv Z h319 b282 k282 .char (18 : Int32) [(.int 47), (.int (nar .char xc_280)), (.int 47), (.int 98), (.int 0), (.int 0), (.int 0), (.int 0), (.int 0), (.int 0), (.int 0), (.int 0), (.int 0), (.int 0), (.int 0), (.int 0), (.int 0), (.int 0)] (.int 0) := Arv.set Ar317 qk317 sz317 nn317 Ha317 Gf317 (fits_nar_char _) W319 3 rfl (Nat.le_of_ble_eq_true rfl)
    refine Go.by st319 ?_
    show Go p e below _ (T319.setTop (mkF m 108 #[qI ia, qI ib, .val (.long ip), .second, qI 2, qI ja, qI xc_280, qI xc_281, qU, qU, qU, qU] [(.ref b282)]))
    refine Go.by (fun t k => XS.dup X319.here hx rfl (hb hby at_108) rfl rfl (XS.iconst X319.here hx rfl (hb hby at_109) (XS.iconst X319.here hx rfl (hb hby at_110) (XS.iload X319.here hx rfl (hb hby at_111) rfl (XS.iload X319.here hx rfl (hb hby at_113) rfl (XS.iload X319.here hx rfl (hb hby at_115) rfl (XS.iload X319.here hx rfl (hb hby at_117) rfl (XS.lloadN X319.here hx rfl (hb hby at_119) rfl k)))))))) ?_
    show Go p e below _ (T319.setTop (mkF m 120 #[qI ia, qI ib, .val (.long ip), .second, qI 2, qI ja, qI xc_280, qI xc_281, qU, qU, qU, qU] [(.long ip), (.int xc_281), (.int xc_280), (.int ja), (.int 2), (.int 4), (.int 4), (.ref b282), (.ref b282)]))
    have F322 : Old Z n0 h319 := ((F311.keep K310 all0).wr W319 ge282)
    have F323 : Keep h0 h319 [] := ((F312.trans K310 all0).wr W319 (Or.inr sz282))
    have F324 : T310.heap.size ≤ h319.size := (Nat.le_trans hk310 (Nat.le_of_eq W319.size.symm))
    have F325 : CHr Z own_EL s.vm h0 T310.vm h319 := (own_chW A310 W319 (Safe.exa hZ.alike F315 (by decide) (by decide)))
    obtain ⟨_, _, ⟨T321, L321, k321, n321⟩, -, X321, sn321, gr321, ⟨Lc321, hQ321, l321, y321, z321, C321⟩, st321⟩ := callSS X319 hx (y := (⟨"com/example/bare_lock/barelock/zookeeper/LockPathsChrootPinLaw", "at", "(IIICCJ)C"⟩ : MethodName)) hown (mvT hZ (hw _ (mg 7 rfl))) (mvT hZ (hw _ (mg 8 rfl))) (mvT hZ (hw _ (mg 4 rfl))) (mvT hZ (hw _ (mg 9 rfl))) (by decide) (backOfSH (W := 3) (at_lit l Z a0 hw [] (4 : Int32) (2 : Int32) ja xc_280 xc_281 ip (97 : Int32) cs fm h319 n0 F322 P0 P1 hcs (by decide) (by decide) (by decide) (own_gd (n := 2) (by decide) rfl) hfm) hZ (hw _ (mg 9 rfl)) (hw _ (mg 4 rfl)) (by decide) (by decide) hEL F325.1) (g := (mkF m 120 #[qI ia, qI ib, .val (.long ip), .second, qI 2, qI ja, qI xc_280, qI xc_281, qU, qU, qU, qU] [(.long ip), (.int xc_281), (.int xc_280), (.int ja), (.int 2), (.int 4), (.int 4), (.ref b282), (.ref b282)])) rfl (by rw [hml]; rfl) (argsL := [(.int 4), (.int 2), (.int ja), (.int xc_280), (.int xc_281), (.long ip)]) (rest := [(.int 4), (.ref b282), (.ref b282)]) (lenOf pd_23 rfl) rfl (by show 2 * 0 + _ ≤ _; exact Nat.le_of_eq rfl) (hb hby at_120) (fun _ _ => ⟨rfl, e319, (by decide : 5 + 2 ≤ _), (by decide : 114 + 48 ≤ _)⟩)
    dsimp only [Pt.U, Pt.locs, Pt.cells, Pt.slots] at X321 l321 y321 z321 st321 hQ321 sn321 gr321 C321
    subst y321 z321
    obtain ⟨X321, hS, hZ, hown⟩ := rebS hS (n1 := T319.heap.size) (by rw [e319]; exact F324) X321 sn321 gr321 hZ hown
    have hk321 : T321.heap.size ≤ T321.heap.size := Nat.le_refl _
    have A321 := F325.trans C321
    obtain ⟨rfl, N321q, K321⟩ := hQ321
    have N321 : Fr n0 L321 := by rw [l321]; exact Fr.app N319 N321q
    have X321 := own_mr X321 7 162 (by decide) (by decide)
    refine Go.tr st321 ?_
    show Go p e below _ (T321.setTop (mkF m 123 #[qI ia, qI ib, .val (.long ip), .second, qI 2, qI ja, qI xc_280, qI xc_281, qU, qU, qU, qU] [(.int (own_lc (97 : Int32))), (.int 4), (.ref b282), (.ref b282)]))
    rw [show T321.setTop (mkF m 123 #[qI ia, qI ib, .val (.long ip), .second, qI 2, qI ja, qI xc_280, qI xc_281, qU, qU, qU, qU] [(.int (own_lc (97 : Int32))), (.int 4), (.ref b282), (.ref b282)]) = T321.setTop (mkF m 123 #[qI ia, qI ib, .val (.long ip), .second, qI 2, qI ja, qI xc_280, qI xc_281, qU, qU, qU, qU] [(.int 97), (.int 4), (.ref b282), (.ref b282)]) from by rw [show own_lc (97 : Int32) = (97 : Int32) from by decide]]
    show Go p e below _ (T321.setTop (mkF m 123 #[qI ia, qI ib, .val (.long ip), .second, qI 2, qI ja, qI xc_280, qI xc_281, qU, qU, qU, qU] [(.int 97), (.int 4), (.ref b282), (.ref b282)]))
    have F326 : Exa Z T321.heap b282 "[C" := ((F315.wr W319).keep K321)
    have F327 : Arv Z T321.heap b282 k282 .char (18 : Int32) [(.int 47), (.int (nar .char xc_280)), (.int 47), (.int 98), (.int 0), (.int 0), (.int 0), (.int 0), (.int 0), (.int 0), (.int 0), (.int 0), (.int 0), (.int 0), (.int 0), (.int 0), (.int 0), (.int 0)] (.int 0) := (F320.keep K321 nin0)
    obtain ⟨cl328, Ar328, qk328, sz328, nn328, Ha328, Gf328⟩ := id F327
    have hin329 : ¬ ((4 : Int32) < 0 ∨ cl328.slots.size ≤ ((4 : Int32)).toNatClampNeg) := inb_of sz328 ⟨by decide, by decide⟩
    obtain ⟨T330, h330, X330, e330, W330, st330⟩ := stC X321 hx hZ rfl Ar328 (j := (4 : Int32)) hin329 (g := (mkF m 123 #[qI ia, qI ib, .val (.long ip), .second, qI 2, qI ja, qI xc_280, qI xc_281, qU, qU, qU, qU] [(.int 97), (.int 4), (.ref b282), (.ref b282)])) rfl rfl (hb hby at_123)
    have N330 := Fr.snoc X330 N321 ge282
    have F331 : Arv Z h330 b282 k282 .char (18 : Int32) [(.int 47), (.int (nar .char xc_280)), (.int 47), (.int 98), (.int 97), (.int 0), (.int 0), (.int 0), (.int 0), (.int 0), (.int 0), (.int 0), (.int 0), (.int 0), (.int 0), (.int 0), (.int 0), (.int 0)] (.int 0) := Arv.set Ar328 qk328 sz328 nn328 Ha328 Gf328 (fits_nar_char _) W330 4 rfl (Nat.le_of_ble_eq_true rfl)
    refine Go.by st330 ?_
    show Go p e below _ (T330.setTop (mkF m 124 #[qI ia, qI ib, .val (.long ip), .second, qI 2, qI ja, qI xc_280, qI xc_281, qU, qU, qU, qU] [(.ref b282)]))
    refine Go.by (fun t k => XS.dup X330.here hx rfl (hb hby at_124) rfl rfl (XS.iconst X330.here hx rfl (hb hby at_125) (XS.iconst X330.here hx rfl (hb hby at_126) (XS.iload X330.here hx rfl (hb hby at_127) rfl (XS.iload X330.here hx rfl (hb hby at_129) rfl (XS.iload X330.here hx rfl (hb hby at_131) rfl (XS.iload X330.here hx rfl (hb hby at_133) rfl (XS.lloadN X330.here hx rfl (hb hby at_135) rfl k)))))))) ?_
    show Go p e below _ (T330.setTop (mkF m 136 #[qI ia, qI ib, .val (.long ip), .second, qI 2, qI ja, qI xc_280, qI xc_281, qU, qU, qU, qU] [(.long ip), (.int xc_281), (.int xc_280), (.int ja), (.int 2), (.int 5), (.int 5), (.ref b282), (.ref b282)]))
    have F333 : Old Z n0 h330 := ((F322.keep K321 all0).wr W330 ge282)
    have F334 : Keep h0 h330 [] := ((F323.trans K321 all0).wr W330 (Or.inr sz282))
    have F335 : T321.heap.size ≤ h330.size := (Nat.le_trans hk321 (Nat.le_of_eq W330.size.symm))
    have F336 : CHr Z own_EL s.vm h0 T321.vm h330 := (own_chW A321 W330 (Safe.exa hZ.alike F326 (by decide) (by decide)))
    obtain ⟨_, _, ⟨T332, L332, k332, n332⟩, -, X332, sn332, gr332, ⟨Lc332, hQ332, l332, y332, z332, C332⟩, st332⟩ := callSS X330 hx (y := (⟨"com/example/bare_lock/barelock/zookeeper/LockPathsChrootPinLaw", "at", "(IIICCJ)C"⟩ : MethodName)) hown (mvT hZ (hw _ (mg 7 rfl))) (mvT hZ (hw _ (mg 8 rfl))) (mvT hZ (hw _ (mg 4 rfl))) (mvT hZ (hw _ (mg 9 rfl))) (by decide) (backOfSH (W := 3) (at_lit l Z a0 hw [] (5 : Int32) (2 : Int32) ja xc_280 xc_281 ip (114 : Int32) cs fm h330 n0 F333 P0 P1 hcs (by decide) (by decide) (by decide) (own_gd (n := 3) (by decide) rfl) hfm) hZ (hw _ (mg 9 rfl)) (hw _ (mg 4 rfl)) (by decide) (by decide) hEL F336.1) (g := (mkF m 136 #[qI ia, qI ib, .val (.long ip), .second, qI 2, qI ja, qI xc_280, qI xc_281, qU, qU, qU, qU] [(.long ip), (.int xc_281), (.int xc_280), (.int ja), (.int 2), (.int 5), (.int 5), (.ref b282), (.ref b282)])) rfl (by rw [hml]; rfl) (argsL := [(.int 5), (.int 2), (.int ja), (.int xc_280), (.int xc_281), (.long ip)]) (rest := [(.int 5), (.ref b282), (.ref b282)]) (lenOf pd_23 rfl) rfl (by show 2 * 0 + _ ≤ _; exact Nat.le_of_eq rfl) (hb hby at_136) (fun _ _ => ⟨rfl, e330, (by decide : 7 + 2 ≤ _), (by decide : 162 + 48 ≤ _)⟩)
    dsimp only [Pt.U, Pt.locs, Pt.cells, Pt.slots] at X332 l332 y332 z332 st332 hQ332 sn332 gr332 C332
    subst y332 z332
    obtain ⟨X332, hS, hZ, hown⟩ := rebS hS (n1 := T330.heap.size) (by rw [e330]; exact F335) X332 sn332 gr332 hZ hown
    have hk332 : T332.heap.size ≤ T332.heap.size := Nat.le_refl _
    have A332 := F336.trans C332
    obtain ⟨rfl, N332q, K332⟩ := hQ332
    have N332 : Fr n0 L332 := by rw [l332]; exact Fr.app N330 N332q
    have X332 := own_mr X332 9 210 (by decide) (by decide)
    refine Go.tr st332 ?_
    show Go p e below _ (T332.setTop (mkF m 139 #[qI ia, qI ib, .val (.long ip), .second, qI 2, qI ja, qI xc_280, qI xc_281, qU, qU, qU, qU] [(.int (own_lc (114 : Int32))), (.int 5), (.ref b282), (.ref b282)]))
    rw [show T332.setTop (mkF m 139 #[qI ia, qI ib, .val (.long ip), .second, qI 2, qI ja, qI xc_280, qI xc_281, qU, qU, qU, qU] [(.int (own_lc (114 : Int32))), (.int 5), (.ref b282), (.ref b282)]) = T332.setTop (mkF m 139 #[qI ia, qI ib, .val (.long ip), .second, qI 2, qI ja, qI xc_280, qI xc_281, qU, qU, qU, qU] [(.int 114), (.int 5), (.ref b282), (.ref b282)]) from by rw [show own_lc (114 : Int32) = (114 : Int32) from by decide]]
    show Go p e below _ (T332.setTop (mkF m 139 #[qI ia, qI ib, .val (.long ip), .second, qI 2, qI ja, qI xc_280, qI xc_281, qU, qU, qU, qU] [(.int 114), (.int 5), (.ref b282), (.ref b282)]))
    have F337 : Exa Z T332.heap b282 "[C" := ((F326.wr W330).keep K332)
    have F338 : Arv Z T332.heap b282 k282 .char (18 : Int32) [(.int 47), (.int (nar .char xc_280)), (.int 47), (.int 98), (.int 97), (.int 0), (.int 0), (.int 0), (.int 0), (.int 0), (.int 0), (.int 0), (.int 0), (.int 0), (.int 0), (.int 0), (.int 0), (.int 0)] (.int 0) := (F331.keep K332 nin0)
    obtain ⟨cl339, Ar339, qk339, sz339, nn339, Ha339, Gf339⟩ := id F338
    have hin340 : ¬ ((5 : Int32) < 0 ∨ cl339.slots.size ≤ ((5 : Int32)).toNatClampNeg) := inb_of sz339 ⟨by decide, by decide⟩
    obtain ⟨T341, h341, X341, e341, W341, st341⟩ := stC X332 hx hZ rfl Ar339 (j := (5 : Int32)) hin340 (g := (mkF m 139 #[qI ia, qI ib, .val (.long ip), .second, qI 2, qI ja, qI xc_280, qI xc_281, qU, qU, qU, qU] [(.int 114), (.int 5), (.ref b282), (.ref b282)])) rfl rfl (hb hby at_139)
    have N341 := Fr.snoc X341 N332 ge282
    have F342 : Arv Z h341 b282 k282 .char (18 : Int32) [(.int 47), (.int (nar .char xc_280)), (.int 47), (.int 98), (.int 97), (.int 114), (.int 0), (.int 0), (.int 0), (.int 0), (.int 0), (.int 0), (.int 0), (.int 0), (.int 0), (.int 0), (.int 0), (.int 0)] (.int 0) := Arv.set Ar339 qk339 sz339 nn339 Ha339 Gf339 (fits_nar_char _) W341 5 rfl (Nat.le_of_ble_eq_true rfl)
    refine Go.by st341 ?_
    show Go p e below _ (T341.setTop (mkF m 140 #[qI ia, qI ib, .val (.long ip), .second, qI 2, qI ja, qI xc_280, qI xc_281, qU, qU, qU, qU] [(.ref b282)]))
    refine Go.by (fun t k => XS.dup X341.here hx rfl (hb hby at_140) rfl rfl (XS.bipush X341.here hx rfl (hb hby at_141) (XS.bipush X341.here hx rfl (hb hby at_143) (XS.iload X341.here hx rfl (hb hby at_145) rfl (XS.iload X341.here hx rfl (hb hby at_147) rfl (XS.iload X341.here hx rfl (hb hby at_149) rfl (XS.iload X341.here hx rfl (hb hby at_151) rfl (XS.lloadN X341.here hx rfl (hb hby at_153) rfl k)))))))) ?_
    show Go p e below _ (T341.setTop (mkF m 154 #[qI ia, qI ib, .val (.long ip), .second, qI 2, qI ja, qI xc_280, qI xc_281, qU, qU, qU, qU] [(.long ip), (.int xc_281), (.int xc_280), (.int ja), (.int 2), (.int 6), (.int 6), (.ref b282), (.ref b282)]))
    have F344 : Old Z n0 h341 := ((F333.keep K332 all0).wr W341 ge282)
    have F345 : Keep h0 h341 [] := ((F334.trans K332 all0).wr W341 (Or.inr sz282))
    have F346 : T332.heap.size ≤ h341.size := (Nat.le_trans hk332 (Nat.le_of_eq W341.size.symm))
    have F347 : CHr Z own_EL s.vm h0 T332.vm h341 := (own_chW A332 W341 (Safe.exa hZ.alike F337 (by decide) (by decide)))
    obtain ⟨_, _, ⟨T343, L343, k343, n343⟩, -, X343, sn343, gr343, ⟨Lc343, hQ343, l343, y343, z343, C343⟩, st343⟩ := callSS X341 hx (y := (⟨"com/example/bare_lock/barelock/zookeeper/LockPathsChrootPinLaw", "at", "(IIICCJ)C"⟩ : MethodName)) hown (mvT hZ (hw _ (mg 7 rfl))) (mvT hZ (hw _ (mg 8 rfl))) (mvT hZ (hw _ (mg 4 rfl))) (mvT hZ (hw _ (mg 9 rfl))) (by decide) (backOfSH (W := 3) (at_lit l Z a0 hw [] (6 : Int32) (2 : Int32) ja xc_280 xc_281 ip (101 : Int32) cs fm h341 n0 F344 P0 P1 hcs (by decide) (by decide) (by decide) (own_gd (n := 4) (by decide) rfl) hfm) hZ (hw _ (mg 9 rfl)) (hw _ (mg 4 rfl)) (by decide) (by decide) hEL F347.1) (g := (mkF m 154 #[qI ia, qI ib, .val (.long ip), .second, qI 2, qI ja, qI xc_280, qI xc_281, qU, qU, qU, qU] [(.long ip), (.int xc_281), (.int xc_280), (.int ja), (.int 2), (.int 6), (.int 6), (.ref b282), (.ref b282)])) rfl (by rw [hml]; rfl) (argsL := [(.int 6), (.int 2), (.int ja), (.int xc_280), (.int xc_281), (.long ip)]) (rest := [(.int 6), (.ref b282), (.ref b282)]) (lenOf pd_23 rfl) rfl (by show 2 * 0 + _ ≤ _; exact Nat.le_of_eq rfl) (hb hby at_154) (fun _ _ => ⟨rfl, e341, (by decide : 9 + 2 ≤ _), (by decide : 210 + 48 ≤ _)⟩)
    dsimp only [Pt.U, Pt.locs, Pt.cells, Pt.slots] at X343 l343 y343 z343 st343 hQ343 sn343 gr343 C343
    subst y343 z343
    obtain ⟨X343, hS, hZ, hown⟩ := rebS hS (n1 := T341.heap.size) (by rw [e341]; exact F346) X343 sn343 gr343 hZ hown
    have hk343 : T343.heap.size ≤ T343.heap.size := Nat.le_refl _
    have A343 := F347.trans C343
    obtain ⟨rfl, N343q, K343⟩ := hQ343
    have N343 : Fr n0 L343 := by rw [l343]; exact Fr.app N341 N343q
    have X343 := own_mr X343 11 258 (by decide) (by decide)
    refine Go.tr st343 ?_
    show Go p e below _ (T343.setTop (mkF m 157 #[qI ia, qI ib, .val (.long ip), .second, qI 2, qI ja, qI xc_280, qI xc_281, qU, qU, qU, qU] [(.int (own_lc (101 : Int32))), (.int 6), (.ref b282), (.ref b282)]))
    rw [show T343.setTop (mkF m 157 #[qI ia, qI ib, .val (.long ip), .second, qI 2, qI ja, qI xc_280, qI xc_281, qU, qU, qU, qU] [(.int (own_lc (101 : Int32))), (.int 6), (.ref b282), (.ref b282)]) = T343.setTop (mkF m 157 #[qI ia, qI ib, .val (.long ip), .second, qI 2, qI ja, qI xc_280, qI xc_281, qU, qU, qU, qU] [(.int 101), (.int 6), (.ref b282), (.ref b282)]) from by rw [show own_lc (101 : Int32) = (101 : Int32) from by decide]]
    show Go p e below _ (T343.setTop (mkF m 157 #[qI ia, qI ib, .val (.long ip), .second, qI 2, qI ja, qI xc_280, qI xc_281, qU, qU, qU, qU] [(.int 101), (.int 6), (.ref b282), (.ref b282)]))
    have F348 : Exa Z T343.heap b282 "[C" := ((F337.wr W341).keep K343)
    have F349 : Arv Z T343.heap b282 k282 .char (18 : Int32) [(.int 47), (.int (nar .char xc_280)), (.int 47), (.int 98), (.int 97), (.int 114), (.int 0), (.int 0), (.int 0), (.int 0), (.int 0), (.int 0), (.int 0), (.int 0), (.int 0), (.int 0), (.int 0), (.int 0)] (.int 0) := (F342.keep K343 nin0)
    obtain ⟨cl350, Ar350, qk350, sz350, nn350, Ha350, Gf350⟩ := id F349
    have hin351 : ¬ ((6 : Int32) < 0 ∨ cl350.slots.size ≤ ((6 : Int32)).toNatClampNeg) := inb_of sz350 ⟨by decide, by decide⟩
    obtain ⟨T352, h352, X352, e352, W352, st352⟩ := stC X343 hx hZ rfl Ar350 (j := (6 : Int32)) hin351 (g := (mkF m 157 #[qI ia, qI ib, .val (.long ip), .second, qI 2, qI ja, qI xc_280, qI xc_281, qU, qU, qU, qU] [(.int 101), (.int 6), (.ref b282), (.ref b282)])) rfl rfl (hb hby at_157)
    have N352 := Fr.snoc X352 N343 ge282
    have F353 : Arv Z h352 b282 k282 .char (18 : Int32) [(.int 47), (.int (nar .char xc_280)), (.int 47), (.int 98), (.int 97), (.int 114), (.int 101), (.int 0), (.int 0), (.int 0), (.int 0), (.int 0), (.int 0), (.int 0), (.int 0), (.int 0), (.int 0), (.int 0)] (.int 0) := Arv.set Ar350 qk350 sz350 nn350 Ha350 Gf350 (fits_nar_char _) W352 6 rfl (Nat.le_of_ble_eq_true rfl)
    refine Go.by st352 ?_
    show Go p e below _ (T352.setTop (mkF m 158 #[qI ia, qI ib, .val (.long ip), .second, qI 2, qI ja, qI xc_280, qI xc_281, qU, qU, qU, qU] [(.ref b282)]))
    refine Go.by (fun t k => XS.dup X352.here hx rfl (hb hby at_158) rfl rfl (XS.bipush X352.here hx rfl (hb hby at_159) (XS.bipush X352.here hx rfl (hb hby at_161) (XS.iload X352.here hx rfl (hb hby at_163) rfl (XS.iload X352.here hx rfl (hb hby at_165) rfl (XS.iload X352.here hx rfl (hb hby at_167) rfl (XS.iload X352.here hx rfl (hb hby at_169) rfl (XS.lloadN X352.here hx rfl (hb hby at_171) rfl k)))))))) ?_
    show Go p e below _ (T352.setTop (mkF m 172 #[qI ia, qI ib, .val (.long ip), .second, qI 2, qI ja, qI xc_280, qI xc_281, qU, qU, qU, qU] [(.long ip), (.int xc_281), (.int xc_280), (.int ja), (.int 2), (.int 7), (.int 7), (.ref b282), (.ref b282)]))
    have F355 : Old Z n0 h352 := ((F344.keep K343 all0).wr W352 ge282)
    have F356 : Keep h0 h352 [] := ((F345.trans K343 all0).wr W352 (Or.inr sz282))
    have F357 : T343.heap.size ≤ h352.size := (Nat.le_trans hk343 (Nat.le_of_eq W352.size.symm))
    have F358 : CHr Z own_EL s.vm h0 T343.vm h352 := (own_chW A343 W352 (Safe.exa hZ.alike F348 (by decide) (by decide)))
    obtain ⟨_, _, ⟨T354, L354, k354, n354⟩, -, X354, sn354, gr354, ⟨Lc354, hQ354, l354, y354, z354, C354⟩, st354⟩ := callSS X352 hx (y := (⟨"com/example/bare_lock/barelock/zookeeper/LockPathsChrootPinLaw", "at", "(IIICCJ)C"⟩ : MethodName)) hown (mvT hZ (hw _ (mg 7 rfl))) (mvT hZ (hw _ (mg 8 rfl))) (mvT hZ (hw _ (mg 4 rfl))) (mvT hZ (hw _ (mg 9 rfl))) (by decide) (backOfSH (W := 3) (at_lit l Z a0 hw [] (7 : Int32) (2 : Int32) ja xc_280 xc_281 ip (45 : Int32) cs fm h352 n0 F355 P0 P1 hcs (by decide) (by decide) (by decide) (own_gd (n := 5) (by decide) rfl) hfm) hZ (hw _ (mg 9 rfl)) (hw _ (mg 4 rfl)) (by decide) (by decide) hEL F358.1) (g := (mkF m 172 #[qI ia, qI ib, .val (.long ip), .second, qI 2, qI ja, qI xc_280, qI xc_281, qU, qU, qU, qU] [(.long ip), (.int xc_281), (.int xc_280), (.int ja), (.int 2), (.int 7), (.int 7), (.ref b282), (.ref b282)])) rfl (by rw [hml]; rfl) (argsL := [(.int 7), (.int 2), (.int ja), (.int xc_280), (.int xc_281), (.long ip)]) (rest := [(.int 7), (.ref b282), (.ref b282)]) (lenOf pd_23 rfl) rfl (by show 2 * 0 + _ ≤ _; exact Nat.le_of_eq rfl) (hb hby at_172) (fun _ _ => ⟨rfl, e352, (by decide : 11 + 2 ≤ _), (by decide : 258 + 48 ≤ _)⟩)
    dsimp only [Pt.U, Pt.locs, Pt.cells, Pt.slots] at X354 l354 y354 z354 st354 hQ354 sn354 gr354 C354
    subst y354 z354
    obtain ⟨X354, hS, hZ, hown⟩ := rebS hS (n1 := T352.heap.size) (by rw [e352]; exact F357) X354 sn354 gr354 hZ hown
    have hk354 : T354.heap.size ≤ T354.heap.size := Nat.le_refl _
    have A354 := F358.trans C354
    obtain ⟨rfl, N354q, K354⟩ := hQ354
    have N354 : Fr n0 L354 := by rw [l354]; exact Fr.app N352 N354q
    have X354 := own_mr X354 13 306 (by decide) (by decide)
    refine Go.tr st354 ?_
    show Go p e below _ (T354.setTop (mkF m 175 #[qI ia, qI ib, .val (.long ip), .second, qI 2, qI ja, qI xc_280, qI xc_281, qU, qU, qU, qU] [(.int (own_lc (45 : Int32))), (.int 7), (.ref b282), (.ref b282)]))
    rw [show T354.setTop (mkF m 175 #[qI ia, qI ib, .val (.long ip), .second, qI 2, qI ja, qI xc_280, qI xc_281, qU, qU, qU, qU] [(.int (own_lc (45 : Int32))), (.int 7), (.ref b282), (.ref b282)]) = T354.setTop (mkF m 175 #[qI ia, qI ib, .val (.long ip), .second, qI 2, qI ja, qI xc_280, qI xc_281, qU, qU, qU, qU] [(.int 45), (.int 7), (.ref b282), (.ref b282)]) from by rw [show own_lc (45 : Int32) = (45 : Int32) from by decide]]
    show Go p e below _ (T354.setTop (mkF m 175 #[qI ia, qI ib, .val (.long ip), .second, qI 2, qI ja, qI xc_280, qI xc_281, qU, qU, qU, qU] [(.int 45), (.int 7), (.ref b282), (.ref b282)]))
    have F359 : Exa Z T354.heap b282 "[C" := ((F348.wr W352).keep K354)
    have F360 : Arv Z T354.heap b282 k282 .char (18 : Int32) [(.int 47), (.int (nar .char xc_280)), (.int 47), (.int 98), (.int 97), (.int 114), (.int 101), (.int 0), (.int 0), (.int 0), (.int 0), (.int 0), (.int 0), (.int 0), (.int 0), (.int 0), (.int 0), (.int 0)] (.int 0) := (F353.keep K354 nin0)
    obtain ⟨cl361, Ar361, qk361, sz361, nn361, Ha361, Gf361⟩ := id F360
    have hin362 : ¬ ((7 : Int32) < 0 ∨ cl361.slots.size ≤ ((7 : Int32)).toNatClampNeg) := inb_of sz361 ⟨by decide, by decide⟩
    obtain ⟨T363, h363, X363, e363, W363, st363⟩ := stC X354 hx hZ rfl Ar361 (j := (7 : Int32)) hin362 (g := (mkF m 175 #[qI ia, qI ib, .val (.long ip), .second, qI 2, qI ja, qI xc_280, qI xc_281, qU, qU, qU, qU] [(.int 45), (.int 7), (.ref b282), (.ref b282)])) rfl rfl (hb hby at_175)
    have N363 := Fr.snoc X363 N354 ge282
    have F364 : Arv Z h363 b282 k282 .char (18 : Int32) [(.int 47), (.int (nar .char xc_280)), (.int 47), (.int 98), (.int 97), (.int 114), (.int 101), (.int 45), (.int 0), (.int 0), (.int 0), (.int 0), (.int 0), (.int 0), (.int 0), (.int 0), (.int 0), (.int 0)] (.int 0) := Arv.set Ar361 qk361 sz361 nn361 Ha361 Gf361 (fits_nar_char _) W363 7 rfl (Nat.le_of_ble_eq_true rfl)
    refine Go.by st363 ?_
    show Go p e below _ (T363.setTop (mkF m 176 #[qI ia, qI ib, .val (.long ip), .second, qI 2, qI ja, qI xc_280, qI xc_281, qU, qU, qU, qU] [(.ref b282)]))
    refine Go.by (fun t k => XS.dup X363.here hx rfl (hb hby at_176) rfl rfl (XS.bipush X363.here hx rfl (hb hby at_177) (XS.bipush X363.here hx rfl (hb hby at_179) (XS.iload X363.here hx rfl (hb hby at_181) rfl (XS.iload X363.here hx rfl (hb hby at_183) rfl (XS.iload X363.here hx rfl (hb hby at_185) rfl (XS.iload X363.here hx rfl (hb hby at_187) rfl (XS.lloadN X363.here hx rfl (hb hby at_189) rfl k)))))))) ?_
    show Go p e below _ (T363.setTop (mkF m 190 #[qI ia, qI ib, .val (.long ip), .second, qI 2, qI ja, qI xc_280, qI xc_281, qU, qU, qU, qU] [(.long ip), (.int xc_281), (.int xc_280), (.int ja), (.int 2), (.int 8), (.int 8), (.ref b282), (.ref b282)]))
    have F366 : Old Z n0 h363 := ((F355.keep K354 all0).wr W363 ge282)
    have F367 : Keep h0 h363 [] := ((F356.trans K354 all0).wr W363 (Or.inr sz282))
    have F368 : T354.heap.size ≤ h363.size := (Nat.le_trans hk354 (Nat.le_of_eq W363.size.symm))
    have F369 : CHr Z own_EL s.vm h0 T354.vm h363 := (own_chW A354 W363 (Safe.exa hZ.alike F359 (by decide) (by decide)))
    obtain ⟨_, _, ⟨T365, L365, k365, n365⟩, -, X365, sn365, gr365, ⟨Lc365, hQ365, l365, y365, z365, C365⟩, st365⟩ := callSS X363 hx (y := (⟨"com/example/bare_lock/barelock/zookeeper/LockPathsChrootPinLaw", "at", "(IIICCJ)C"⟩ : MethodName)) hown (mvT hZ (hw _ (mg 7 rfl))) (mvT hZ (hw _ (mg 8 rfl))) (mvT hZ (hw _ (mg 4 rfl))) (mvT hZ (hw _ (mg 9 rfl))) (by decide) (backOfSH (W := 3) (at_lit l Z a0 hw [] (8 : Int32) (2 : Int32) ja xc_280 xc_281 ip (108 : Int32) cs fm h363 n0 F366 P0 P1 hcs (by decide) (by decide) (by decide) (own_gd (n := 6) (by decide) rfl) hfm) hZ (hw _ (mg 9 rfl)) (hw _ (mg 4 rfl)) (by decide) (by decide) hEL F369.1) (g := (mkF m 190 #[qI ia, qI ib, .val (.long ip), .second, qI 2, qI ja, qI xc_280, qI xc_281, qU, qU, qU, qU] [(.long ip), (.int xc_281), (.int xc_280), (.int ja), (.int 2), (.int 8), (.int 8), (.ref b282), (.ref b282)])) rfl (by rw [hml]; rfl) (argsL := [(.int 8), (.int 2), (.int ja), (.int xc_280), (.int xc_281), (.long ip)]) (rest := [(.int 8), (.ref b282), (.ref b282)]) (lenOf pd_23 rfl) rfl (by show 2 * 0 + _ ≤ _; exact Nat.le_of_eq rfl) (hb hby at_190) (fun _ _ => ⟨rfl, e363, (by decide : 13 + 2 ≤ _), (by decide : 306 + 48 ≤ _)⟩)
    dsimp only [Pt.U, Pt.locs, Pt.cells, Pt.slots] at X365 l365 y365 z365 st365 hQ365 sn365 gr365 C365
    subst y365 z365
    obtain ⟨X365, hS, hZ, hown⟩ := rebS hS (n1 := T363.heap.size) (by rw [e363]; exact F368) X365 sn365 gr365 hZ hown
    have hk365 : T365.heap.size ≤ T365.heap.size := Nat.le_refl _
    have A365 := F369.trans C365
    obtain ⟨rfl, N365q, K365⟩ := hQ365
    have N365 : Fr n0 L365 := by rw [l365]; exact Fr.app N363 N365q
    have X365 := own_mr X365 15 354 (by decide) (by decide)
    refine Go.tr st365 ?_
    show Go p e below _ (T365.setTop (mkF m 193 #[qI ia, qI ib, .val (.long ip), .second, qI 2, qI ja, qI xc_280, qI xc_281, qU, qU, qU, qU] [(.int (own_lc (108 : Int32))), (.int 8), (.ref b282), (.ref b282)]))
    rw [show T365.setTop (mkF m 193 #[qI ia, qI ib, .val (.long ip), .second, qI 2, qI ja, qI xc_280, qI xc_281, qU, qU, qU, qU] [(.int (own_lc (108 : Int32))), (.int 8), (.ref b282), (.ref b282)]) = T365.setTop (mkF m 193 #[qI ia, qI ib, .val (.long ip), .second, qI 2, qI ja, qI xc_280, qI xc_281, qU, qU, qU, qU] [(.int 108), (.int 8), (.ref b282), (.ref b282)]) from by rw [show own_lc (108 : Int32) = (108 : Int32) from by decide]]
    show Go p e below _ (T365.setTop (mkF m 193 #[qI ia, qI ib, .val (.long ip), .second, qI 2, qI ja, qI xc_280, qI xc_281, qU, qU, qU, qU] [(.int 108), (.int 8), (.ref b282), (.ref b282)]))
    have F370 : Exa Z T365.heap b282 "[C" := ((F359.wr W363).keep K365)
    have F371 : Arv Z T365.heap b282 k282 .char (18 : Int32) [(.int 47), (.int (nar .char xc_280)), (.int 47), (.int 98), (.int 97), (.int 114), (.int 101), (.int 45), (.int 0), (.int 0), (.int 0), (.int 0), (.int 0), (.int 0), (.int 0), (.int 0), (.int 0), (.int 0)] (.int 0) := (F364.keep K365 nin0)
    obtain ⟨cl372, Ar372, qk372, sz372, nn372, Ha372, Gf372⟩ := id F371
    have hin373 : ¬ ((8 : Int32) < 0 ∨ cl372.slots.size ≤ ((8 : Int32)).toNatClampNeg) := inb_of sz372 ⟨by decide, by decide⟩
    obtain ⟨T374, h374, X374, e374, W374, st374⟩ := stC X365 hx hZ rfl Ar372 (j := (8 : Int32)) hin373 (g := (mkF m 193 #[qI ia, qI ib, .val (.long ip), .second, qI 2, qI ja, qI xc_280, qI xc_281, qU, qU, qU, qU] [(.int 108), (.int 8), (.ref b282), (.ref b282)])) rfl rfl (hb hby at_193)
    have N374 := Fr.snoc X374 N365 ge282
    have F375 : Arv Z h374 b282 k282 .char (18 : Int32) [(.int 47), (.int (nar .char xc_280)), (.int 47), (.int 98), (.int 97), (.int 114), (.int 101), (.int 45), (.int 108), (.int 0), (.int 0), (.int 0), (.int 0), (.int 0), (.int 0), (.int 0), (.int 0), (.int 0)] (.int 0) := Arv.set Ar372 qk372 sz372 nn372 Ha372 Gf372 (fits_nar_char _) W374 8 rfl (Nat.le_of_ble_eq_true rfl)
    refine Go.by st374 ?_
    show Go p e below _ (T374.setTop (mkF m 194 #[qI ia, qI ib, .val (.long ip), .second, qI 2, qI ja, qI xc_280, qI xc_281, qU, qU, qU, qU] [(.ref b282)]))
    refine Go.by (fun t k => XS.dup X374.here hx rfl (hb hby at_194) rfl rfl (XS.bipush X374.here hx rfl (hb hby at_195) (XS.bipush X374.here hx rfl (hb hby at_197) (XS.iload X374.here hx rfl (hb hby at_199) rfl (XS.iload X374.here hx rfl (hb hby at_201) rfl (XS.iload X374.here hx rfl (hb hby at_203) rfl (XS.iload X374.here hx rfl (hb hby at_205) rfl (XS.lloadN X374.here hx rfl (hb hby at_207) rfl k)))))))) ?_
    show Go p e below _ (T374.setTop (mkF m 208 #[qI ia, qI ib, .val (.long ip), .second, qI 2, qI ja, qI xc_280, qI xc_281, qU, qU, qU, qU] [(.long ip), (.int xc_281), (.int xc_280), (.int ja), (.int 2), (.int 9), (.int 9), (.ref b282), (.ref b282)]))
    have F377 : Old Z n0 h374 := ((F366.keep K365 all0).wr W374 ge282)
    have F378 : Keep h0 h374 [] := ((F367.trans K365 all0).wr W374 (Or.inr sz282))
    have F379 : T365.heap.size ≤ h374.size := (Nat.le_trans hk365 (Nat.le_of_eq W374.size.symm))
    have F380 : CHr Z own_EL s.vm h0 T365.vm h374 := (own_chW A365 W374 (Safe.exa hZ.alike F370 (by decide) (by decide)))
    obtain ⟨_, _, ⟨T376, L376, k376, n376⟩, -, X376, sn376, gr376, ⟨Lc376, hQ376, l376, y376, z376, C376⟩, st376⟩ := callSS X374 hx (y := (⟨"com/example/bare_lock/barelock/zookeeper/LockPathsChrootPinLaw", "at", "(IIICCJ)C"⟩ : MethodName)) hown (mvT hZ (hw _ (mg 7 rfl))) (mvT hZ (hw _ (mg 8 rfl))) (mvT hZ (hw _ (mg 4 rfl))) (mvT hZ (hw _ (mg 9 rfl))) (by decide) (backOfSH (W := 3) (at_lit l Z a0 hw [] (9 : Int32) (2 : Int32) ja xc_280 xc_281 ip (111 : Int32) cs fm h374 n0 F377 P0 P1 hcs (by decide) (by decide) (by decide) (own_gd (n := 7) (by decide) rfl) hfm) hZ (hw _ (mg 9 rfl)) (hw _ (mg 4 rfl)) (by decide) (by decide) hEL F380.1) (g := (mkF m 208 #[qI ia, qI ib, .val (.long ip), .second, qI 2, qI ja, qI xc_280, qI xc_281, qU, qU, qU, qU] [(.long ip), (.int xc_281), (.int xc_280), (.int ja), (.int 2), (.int 9), (.int 9), (.ref b282), (.ref b282)])) rfl (by rw [hml]; rfl) (argsL := [(.int 9), (.int 2), (.int ja), (.int xc_280), (.int xc_281), (.long ip)]) (rest := [(.int 9), (.ref b282), (.ref b282)]) (lenOf pd_23 rfl) rfl (by show 2 * 0 + _ ≤ _; exact Nat.le_of_eq rfl) (hb hby at_208) (fun _ _ => ⟨rfl, e374, (by decide : 15 + 2 ≤ _), (by decide : 354 + 48 ≤ _)⟩)
    dsimp only [Pt.U, Pt.locs, Pt.cells, Pt.slots] at X376 l376 y376 z376 st376 hQ376 sn376 gr376 C376
    subst y376 z376
    obtain ⟨X376, hS, hZ, hown⟩ := rebS hS (n1 := T374.heap.size) (by rw [e374]; exact F379) X376 sn376 gr376 hZ hown
    have hk376 : T376.heap.size ≤ T376.heap.size := Nat.le_refl _
    have A376 := F380.trans C376
    obtain ⟨rfl, N376q, K376⟩ := hQ376
    have N376 : Fr n0 L376 := by rw [l376]; exact Fr.app N374 N376q
    have X376 := own_mr X376 17 402 (by decide) (by decide)
    refine Go.tr st376 ?_
    show Go p e below _ (T376.setTop (mkF m 211 #[qI ia, qI ib, .val (.long ip), .second, qI 2, qI ja, qI xc_280, qI xc_281, qU, qU, qU, qU] [(.int (own_lc (111 : Int32))), (.int 9), (.ref b282), (.ref b282)]))
    rw [show T376.setTop (mkF m 211 #[qI ia, qI ib, .val (.long ip), .second, qI 2, qI ja, qI xc_280, qI xc_281, qU, qU, qU, qU] [(.int (own_lc (111 : Int32))), (.int 9), (.ref b282), (.ref b282)]) = T376.setTop (mkF m 211 #[qI ia, qI ib, .val (.long ip), .second, qI 2, qI ja, qI xc_280, qI xc_281, qU, qU, qU, qU] [(.int 111), (.int 9), (.ref b282), (.ref b282)]) from by rw [show own_lc (111 : Int32) = (111 : Int32) from by decide]]
    show Go p e below _ (T376.setTop (mkF m 211 #[qI ia, qI ib, .val (.long ip), .second, qI 2, qI ja, qI xc_280, qI xc_281, qU, qU, qU, qU] [(.int 111), (.int 9), (.ref b282), (.ref b282)]))
    have F381 : Exa Z T376.heap b282 "[C" := ((F370.wr W374).keep K376)
    have F382 : Arv Z T376.heap b282 k282 .char (18 : Int32) [(.int 47), (.int (nar .char xc_280)), (.int 47), (.int 98), (.int 97), (.int 114), (.int 101), (.int 45), (.int 108), (.int 0), (.int 0), (.int 0), (.int 0), (.int 0), (.int 0), (.int 0), (.int 0), (.int 0)] (.int 0) := (F375.keep K376 nin0)
    obtain ⟨cl383, Ar383, qk383, sz383, nn383, Ha383, Gf383⟩ := id F382
    have hin384 : ¬ ((9 : Int32) < 0 ∨ cl383.slots.size ≤ ((9 : Int32)).toNatClampNeg) := inb_of sz383 ⟨by decide, by decide⟩
    obtain ⟨T385, h385, X385, e385, W385, st385⟩ := stC X376 hx hZ rfl Ar383 (j := (9 : Int32)) hin384 (g := (mkF m 211 #[qI ia, qI ib, .val (.long ip), .second, qI 2, qI ja, qI xc_280, qI xc_281, qU, qU, qU, qU] [(.int 111), (.int 9), (.ref b282), (.ref b282)])) rfl rfl (hb hby at_211)
    have N385 := Fr.snoc X385 N376 ge282
    have F386 : Arv Z h385 b282 k282 .char (18 : Int32) [(.int 47), (.int (nar .char xc_280)), (.int 47), (.int 98), (.int 97), (.int 114), (.int 101), (.int 45), (.int 108), (.int 111), (.int 0), (.int 0), (.int 0), (.int 0), (.int 0), (.int 0), (.int 0), (.int 0)] (.int 0) := Arv.set Ar383 qk383 sz383 nn383 Ha383 Gf383 (fits_nar_char _) W385 9 rfl (Nat.le_of_ble_eq_true rfl)
    refine Go.by st385 ?_
    show Go p e below _ (T385.setTop (mkF m 212 #[qI ia, qI ib, .val (.long ip), .second, qI 2, qI ja, qI xc_280, qI xc_281, qU, qU, qU, qU] [(.ref b282)]))
    refine Go.by (fun t k => XS.dup X385.here hx rfl (hb hby at_212) rfl rfl (XS.bipush X385.here hx rfl (hb hby at_213) (XS.bipush X385.here hx rfl (hb hby at_215) (XS.iload X385.here hx rfl (hb hby at_217) rfl (XS.iload X385.here hx rfl (hb hby at_219) rfl (XS.iload X385.here hx rfl (hb hby at_221) rfl (XS.iload X385.here hx rfl (hb hby at_223) rfl (XS.lloadN X385.here hx rfl (hb hby at_225) rfl k)))))))) ?_
    show Go p e below _ (T385.setTop (mkF m 226 #[qI ia, qI ib, .val (.long ip), .second, qI 2, qI ja, qI xc_280, qI xc_281, qU, qU, qU, qU] [(.long ip), (.int xc_281), (.int xc_280), (.int ja), (.int 2), (.int 10), (.int 10), (.ref b282), (.ref b282)]))
    have F388 : Old Z n0 h385 := ((F377.keep K376 all0).wr W385 ge282)
    have F389 : Keep h0 h385 [] := ((F378.trans K376 all0).wr W385 (Or.inr sz282))
    have F390 : T376.heap.size ≤ h385.size := (Nat.le_trans hk376 (Nat.le_of_eq W385.size.symm))
    have F391 : CHr Z own_EL s.vm h0 T376.vm h385 := (own_chW A376 W385 (Safe.exa hZ.alike F381 (by decide) (by decide)))
    obtain ⟨_, _, ⟨T387, L387, k387, n387⟩, -, X387, sn387, gr387, ⟨Lc387, hQ387, l387, y387, z387, C387⟩, st387⟩ := callSS X385 hx (y := (⟨"com/example/bare_lock/barelock/zookeeper/LockPathsChrootPinLaw", "at", "(IIICCJ)C"⟩ : MethodName)) hown (mvT hZ (hw _ (mg 7 rfl))) (mvT hZ (hw _ (mg 8 rfl))) (mvT hZ (hw _ (mg 4 rfl))) (mvT hZ (hw _ (mg 9 rfl))) (by decide) (backOfSH (W := 3) (at_lit l Z a0 hw [] (10 : Int32) (2 : Int32) ja xc_280 xc_281 ip (99 : Int32) cs fm h385 n0 F388 P0 P1 hcs (by decide) (by decide) (by decide) (own_gd (n := 8) (by decide) rfl) hfm) hZ (hw _ (mg 9 rfl)) (hw _ (mg 4 rfl)) (by decide) (by decide) hEL F391.1) (g := (mkF m 226 #[qI ia, qI ib, .val (.long ip), .second, qI 2, qI ja, qI xc_280, qI xc_281, qU, qU, qU, qU] [(.long ip), (.int xc_281), (.int xc_280), (.int ja), (.int 2), (.int 10), (.int 10), (.ref b282), (.ref b282)])) rfl (by rw [hml]; rfl) (argsL := [(.int 10), (.int 2), (.int ja), (.int xc_280), (.int xc_281), (.long ip)]) (rest := [(.int 10), (.ref b282), (.ref b282)]) (lenOf pd_23 rfl) rfl (by show 2 * 0 + _ ≤ _; exact Nat.le_of_eq rfl) (hb hby at_226) (fun _ _ => ⟨rfl, e385, (by decide : 17 + 2 ≤ _), (by decide : 402 + 48 ≤ _)⟩)
    dsimp only [Pt.U, Pt.locs, Pt.cells, Pt.slots] at X387 l387 y387 z387 st387 hQ387 sn387 gr387 C387
    subst y387 z387
    obtain ⟨X387, hS, hZ, hown⟩ := rebS hS (n1 := T385.heap.size) (by rw [e385]; exact F390) X387 sn387 gr387 hZ hown
    have hk387 : T387.heap.size ≤ T387.heap.size := Nat.le_refl _
    have A387 := F391.trans C387
    obtain ⟨rfl, N387q, K387⟩ := hQ387
    have N387 : Fr n0 L387 := by rw [l387]; exact Fr.app N385 N387q
    have X387 := own_mr X387 19 450 (by decide) (by decide)
    refine Go.tr st387 ?_
    show Go p e below _ (T387.setTop (mkF m 229 #[qI ia, qI ib, .val (.long ip), .second, qI 2, qI ja, qI xc_280, qI xc_281, qU, qU, qU, qU] [(.int (own_lc (99 : Int32))), (.int 10), (.ref b282), (.ref b282)]))
    rw [show T387.setTop (mkF m 229 #[qI ia, qI ib, .val (.long ip), .second, qI 2, qI ja, qI xc_280, qI xc_281, qU, qU, qU, qU] [(.int (own_lc (99 : Int32))), (.int 10), (.ref b282), (.ref b282)]) = T387.setTop (mkF m 229 #[qI ia, qI ib, .val (.long ip), .second, qI 2, qI ja, qI xc_280, qI xc_281, qU, qU, qU, qU] [(.int 99), (.int 10), (.ref b282), (.ref b282)]) from by rw [show own_lc (99 : Int32) = (99 : Int32) from by decide]]
    show Go p e below _ (T387.setTop (mkF m 229 #[qI ia, qI ib, .val (.long ip), .second, qI 2, qI ja, qI xc_280, qI xc_281, qU, qU, qU, qU] [(.int 99), (.int 10), (.ref b282), (.ref b282)]))
    have F392 : Exa Z T387.heap b282 "[C" := ((F381.wr W385).keep K387)
    have F393 : Arv Z T387.heap b282 k282 .char (18 : Int32) [(.int 47), (.int (nar .char xc_280)), (.int 47), (.int 98), (.int 97), (.int 114), (.int 101), (.int 45), (.int 108), (.int 111), (.int 0), (.int 0), (.int 0), (.int 0), (.int 0), (.int 0), (.int 0), (.int 0)] (.int 0) := (F386.keep K387 nin0)
    obtain ⟨cl394, Ar394, qk394, sz394, nn394, Ha394, Gf394⟩ := id F393
    have hin395 : ¬ ((10 : Int32) < 0 ∨ cl394.slots.size ≤ ((10 : Int32)).toNatClampNeg) := inb_of sz394 ⟨by decide, by decide⟩
    obtain ⟨T396, h396, X396, e396, W396, st396⟩ := stC X387 hx hZ rfl Ar394 (j := (10 : Int32)) hin395 (g := (mkF m 229 #[qI ia, qI ib, .val (.long ip), .second, qI 2, qI ja, qI xc_280, qI xc_281, qU, qU, qU, qU] [(.int 99), (.int 10), (.ref b282), (.ref b282)])) rfl rfl (hb hby at_229)
    have N396 := Fr.snoc X396 N387 ge282
    have F397 : Arv Z h396 b282 k282 .char (18 : Int32) [(.int 47), (.int (nar .char xc_280)), (.int 47), (.int 98), (.int 97), (.int 114), (.int 101), (.int 45), (.int 108), (.int 111), (.int 99), (.int 0), (.int 0), (.int 0), (.int 0), (.int 0), (.int 0), (.int 0)] (.int 0) := Arv.set Ar394 qk394 sz394 nn394 Ha394 Gf394 (fits_nar_char _) W396 10 rfl (Nat.le_of_ble_eq_true rfl)
    refine Go.by st396 ?_
    show Go p e below _ (T396.setTop (mkF m 230 #[qI ia, qI ib, .val (.long ip), .second, qI 2, qI ja, qI xc_280, qI xc_281, qU, qU, qU, qU] [(.ref b282)]))
    refine Go.by (fun t k => XS.dup X396.here hx rfl (hb hby at_230) rfl rfl (XS.bipush X396.here hx rfl (hb hby at_231) (XS.bipush X396.here hx rfl (hb hby at_233) (XS.iload X396.here hx rfl (hb hby at_235) rfl (XS.iload X396.here hx rfl (hb hby at_237) rfl (XS.iload X396.here hx rfl (hb hby at_239) rfl (XS.iload X396.here hx rfl (hb hby at_241) rfl (XS.lloadN X396.here hx rfl (hb hby at_243) rfl k)))))))) ?_
    show Go p e below _ (T396.setTop (mkF m 244 #[qI ia, qI ib, .val (.long ip), .second, qI 2, qI ja, qI xc_280, qI xc_281, qU, qU, qU, qU] [(.long ip), (.int xc_281), (.int xc_280), (.int ja), (.int 2), (.int 11), (.int 11), (.ref b282), (.ref b282)]))
    have F399 : Old Z n0 h396 := ((F388.keep K387 all0).wr W396 ge282)
    have F400 : Keep h0 h396 [] := ((F389.trans K387 all0).wr W396 (Or.inr sz282))
    have F401 : T387.heap.size ≤ h396.size := (Nat.le_trans hk387 (Nat.le_of_eq W396.size.symm))
    have F402 : CHr Z own_EL s.vm h0 T387.vm h396 := (own_chW A387 W396 (Safe.exa hZ.alike F392 (by decide) (by decide)))
    obtain ⟨_, _, ⟨T398, L398, k398, n398⟩, -, X398, sn398, gr398, ⟨Lc398, hQ398, l398, y398, z398, C398⟩, st398⟩ := callSS X396 hx (y := (⟨"com/example/bare_lock/barelock/zookeeper/LockPathsChrootPinLaw", "at", "(IIICCJ)C"⟩ : MethodName)) hown (mvT hZ (hw _ (mg 7 rfl))) (mvT hZ (hw _ (mg 8 rfl))) (mvT hZ (hw _ (mg 4 rfl))) (mvT hZ (hw _ (mg 9 rfl))) (by decide) (backOfSH (W := 3) (at_lit l Z a0 hw [] (11 : Int32) (2 : Int32) ja xc_280 xc_281 ip (107 : Int32) cs fm h396 n0 F399 P0 P1 hcs (by decide) (by decide) (by decide) (own_gd (n := 9) (by decide) rfl) hfm) hZ (hw _ (mg 9 rfl)) (hw _ (mg 4 rfl)) (by decide) (by decide) hEL F402.1) (g := (mkF m 244 #[qI ia, qI ib, .val (.long ip), .second, qI 2, qI ja, qI xc_280, qI xc_281, qU, qU, qU, qU] [(.long ip), (.int xc_281), (.int xc_280), (.int ja), (.int 2), (.int 11), (.int 11), (.ref b282), (.ref b282)])) rfl (by rw [hml]; rfl) (argsL := [(.int 11), (.int 2), (.int ja), (.int xc_280), (.int xc_281), (.long ip)]) (rest := [(.int 11), (.ref b282), (.ref b282)]) (lenOf pd_23 rfl) rfl (by show 2 * 0 + _ ≤ _; exact Nat.le_of_eq rfl) (hb hby at_244) (fun _ _ => ⟨rfl, e396, (by decide : 19 + 2 ≤ _), (by decide : 450 + 48 ≤ _)⟩)
    dsimp only [Pt.U, Pt.locs, Pt.cells, Pt.slots] at X398 l398 y398 z398 st398 hQ398 sn398 gr398 C398
    subst y398 z398
    obtain ⟨X398, hS, hZ, hown⟩ := rebS hS (n1 := T396.heap.size) (by rw [e396]; exact F401) X398 sn398 gr398 hZ hown
    have hk398 : T398.heap.size ≤ T398.heap.size := Nat.le_refl _
    have A398 := F402.trans C398
    obtain ⟨rfl, N398q, K398⟩ := hQ398
    have N398 : Fr n0 L398 := by rw [l398]; exact Fr.app N396 N398q
    have X398 := own_mr X398 21 498 (by decide) (by decide)
    refine Go.tr st398 ?_
    show Go p e below _ (T398.setTop (mkF m 247 #[qI ia, qI ib, .val (.long ip), .second, qI 2, qI ja, qI xc_280, qI xc_281, qU, qU, qU, qU] [(.int (own_lc (107 : Int32))), (.int 11), (.ref b282), (.ref b282)]))
    rw [show T398.setTop (mkF m 247 #[qI ia, qI ib, .val (.long ip), .second, qI 2, qI ja, qI xc_280, qI xc_281, qU, qU, qU, qU] [(.int (own_lc (107 : Int32))), (.int 11), (.ref b282), (.ref b282)]) = T398.setTop (mkF m 247 #[qI ia, qI ib, .val (.long ip), .second, qI 2, qI ja, qI xc_280, qI xc_281, qU, qU, qU, qU] [(.int 107), (.int 11), (.ref b282), (.ref b282)]) from by rw [show own_lc (107 : Int32) = (107 : Int32) from by decide]]
    show Go p e below _ (T398.setTop (mkF m 247 #[qI ia, qI ib, .val (.long ip), .second, qI 2, qI ja, qI xc_280, qI xc_281, qU, qU, qU, qU] [(.int 107), (.int 11), (.ref b282), (.ref b282)]))
    have F403 : Exa Z T398.heap b282 "[C" := ((F392.wr W396).keep K398)
    have F404 : Arv Z T398.heap b282 k282 .char (18 : Int32) [(.int 47), (.int (nar .char xc_280)), (.int 47), (.int 98), (.int 97), (.int 114), (.int 101), (.int 45), (.int 108), (.int 111), (.int 99), (.int 0), (.int 0), (.int 0), (.int 0), (.int 0), (.int 0), (.int 0)] (.int 0) := (F397.keep K398 nin0)
    obtain ⟨cl405, Ar405, qk405, sz405, nn405, Ha405, Gf405⟩ := id F404
    have hin406 : ¬ ((11 : Int32) < 0 ∨ cl405.slots.size ≤ ((11 : Int32)).toNatClampNeg) := inb_of sz405 ⟨by decide, by decide⟩
    obtain ⟨T407, h407, X407, e407, W407, st407⟩ := stC X398 hx hZ rfl Ar405 (j := (11 : Int32)) hin406 (g := (mkF m 247 #[qI ia, qI ib, .val (.long ip), .second, qI 2, qI ja, qI xc_280, qI xc_281, qU, qU, qU, qU] [(.int 107), (.int 11), (.ref b282), (.ref b282)])) rfl rfl (hb hby at_247)
    have N407 := Fr.snoc X407 N398 ge282
    have F408 : Arv Z h407 b282 k282 .char (18 : Int32) [(.int 47), (.int (nar .char xc_280)), (.int 47), (.int 98), (.int 97), (.int 114), (.int 101), (.int 45), (.int 108), (.int 111), (.int 99), (.int 107), (.int 0), (.int 0), (.int 0), (.int 0), (.int 0), (.int 0)] (.int 0) := Arv.set Ar405 qk405 sz405 nn405 Ha405 Gf405 (fits_nar_char _) W407 11 rfl (Nat.le_of_ble_eq_true rfl)
    refine Go.by st407 ?_
    show Go p e below _ (T407.setTop (mkF m 248 #[qI ia, qI ib, .val (.long ip), .second, qI 2, qI ja, qI xc_280, qI xc_281, qU, qU, qU, qU] [(.ref b282)]))
    refine Go.by (fun t k => XS.dup X407.here hx rfl (hb hby at_248) rfl rfl (XS.bipush X407.here hx rfl (hb hby at_249) (XS.bipush X407.here hx rfl (hb hby at_251) (XS.iload X407.here hx rfl (hb hby at_253) rfl (XS.iload X407.here hx rfl (hb hby at_255) rfl (XS.iload X407.here hx rfl (hb hby at_257) rfl (XS.iload X407.here hx rfl (hb hby at_259) rfl (XS.lloadN X407.here hx rfl (hb hby at_261) rfl k)))))))) ?_
    show Go p e below _ (T407.setTop (mkF m 262 #[qI ia, qI ib, .val (.long ip), .second, qI 2, qI ja, qI xc_280, qI xc_281, qU, qU, qU, qU] [(.long ip), (.int xc_281), (.int xc_280), (.int ja), (.int 2), (.int 12), (.int 12), (.ref b282), (.ref b282)]))
    have F410 : Old Z n0 h407 := ((F399.keep K398 all0).wr W407 ge282)
    have F411 : Keep h0 h407 [] := ((F400.trans K398 all0).wr W407 (Or.inr sz282))
    have F412 : T398.heap.size ≤ h407.size := (Nat.le_trans hk398 (Nat.le_of_eq W407.size.symm))
    have F413 : CHr Z own_EL s.vm h0 T398.vm h407 := (own_chW A398 W407 (Safe.exa hZ.alike F403 (by decide) (by decide)))
    obtain ⟨_, _, ⟨T409, L409, k409, n409⟩, -, X409, sn409, gr409, ⟨Lc409, hQ409, l409, y409, z409, C409⟩, st409⟩ := callSS X407 hx (y := (⟨"com/example/bare_lock/barelock/zookeeper/LockPathsChrootPinLaw", "at", "(IIICCJ)C"⟩ : MethodName)) hown (mvT hZ (hw _ (mg 7 rfl))) (mvT hZ (hw _ (mg 8 rfl))) (mvT hZ (hw _ (mg 4 rfl))) (mvT hZ (hw _ (mg 9 rfl))) (by decide) (backOfSH (W := 3) (at_lit l Z a0 hw [] (12 : Int32) (2 : Int32) ja xc_280 xc_281 ip (47 : Int32) cs fm h407 n0 F410 P0 P1 hcs (by decide) (by decide) (by decide) (own_gd (n := 10) (by decide) rfl) hfm) hZ (hw _ (mg 9 rfl)) (hw _ (mg 4 rfl)) (by decide) (by decide) hEL F413.1) (g := (mkF m 262 #[qI ia, qI ib, .val (.long ip), .second, qI 2, qI ja, qI xc_280, qI xc_281, qU, qU, qU, qU] [(.long ip), (.int xc_281), (.int xc_280), (.int ja), (.int 2), (.int 12), (.int 12), (.ref b282), (.ref b282)])) rfl (by rw [hml]; rfl) (argsL := [(.int 12), (.int 2), (.int ja), (.int xc_280), (.int xc_281), (.long ip)]) (rest := [(.int 12), (.ref b282), (.ref b282)]) (lenOf pd_23 rfl) rfl (by show 2 * 0 + _ ≤ _; exact Nat.le_of_eq rfl) (hb hby at_262) (fun _ _ => ⟨rfl, e407, (by decide : 21 + 2 ≤ _), (by decide : 498 + 48 ≤ _)⟩)
    dsimp only [Pt.U, Pt.locs, Pt.cells, Pt.slots] at X409 l409 y409 z409 st409 hQ409 sn409 gr409 C409
    subst y409 z409
    obtain ⟨X409, hS, hZ, hown⟩ := rebS hS (n1 := T407.heap.size) (by rw [e407]; exact F412) X409 sn409 gr409 hZ hown
    have hk409 : T409.heap.size ≤ T409.heap.size := Nat.le_refl _
    have A409 := F413.trans C409
    obtain ⟨rfl, N409q, K409⟩ := hQ409
    have N409 : Fr n0 L409 := by rw [l409]; exact Fr.app N407 N409q
    have X409 := own_mr X409 23 546 (by decide) (by decide)
    refine Go.tr st409 ?_
    show Go p e below _ (T409.setTop (mkF m 265 #[qI ia, qI ib, .val (.long ip), .second, qI 2, qI ja, qI xc_280, qI xc_281, qU, qU, qU, qU] [(.int (own_lc (47 : Int32))), (.int 12), (.ref b282), (.ref b282)]))
    rw [show T409.setTop (mkF m 265 #[qI ia, qI ib, .val (.long ip), .second, qI 2, qI ja, qI xc_280, qI xc_281, qU, qU, qU, qU] [(.int (own_lc (47 : Int32))), (.int 12), (.ref b282), (.ref b282)]) = T409.setTop (mkF m 265 #[qI ia, qI ib, .val (.long ip), .second, qI 2, qI ja, qI xc_280, qI xc_281, qU, qU, qU, qU] [(.int 47), (.int 12), (.ref b282), (.ref b282)]) from by rw [show own_lc (47 : Int32) = (47 : Int32) from by decide]]
    show Go p e below _ (T409.setTop (mkF m 265 #[qI ia, qI ib, .val (.long ip), .second, qI 2, qI ja, qI xc_280, qI xc_281, qU, qU, qU, qU] [(.int 47), (.int 12), (.ref b282), (.ref b282)]))
    have F414 : Exa Z T409.heap b282 "[C" := ((F403.wr W407).keep K409)
    have F415 : Arv Z T409.heap b282 k282 .char (18 : Int32) [(.int 47), (.int (nar .char xc_280)), (.int 47), (.int 98), (.int 97), (.int 114), (.int 101), (.int 45), (.int 108), (.int 111), (.int 99), (.int 107), (.int 0), (.int 0), (.int 0), (.int 0), (.int 0), (.int 0)] (.int 0) := (F408.keep K409 nin0)
    obtain ⟨cl416, Ar416, qk416, sz416, nn416, Ha416, Gf416⟩ := id F415
    have hin417 : ¬ ((12 : Int32) < 0 ∨ cl416.slots.size ≤ ((12 : Int32)).toNatClampNeg) := inb_of sz416 ⟨by decide, by decide⟩
    obtain ⟨T418, h418, X418, e418, W418, st418⟩ := stC X409 hx hZ rfl Ar416 (j := (12 : Int32)) hin417 (g := (mkF m 265 #[qI ia, qI ib, .val (.long ip), .second, qI 2, qI ja, qI xc_280, qI xc_281, qU, qU, qU, qU] [(.int 47), (.int 12), (.ref b282), (.ref b282)])) rfl rfl (hb hby at_265)
    have N418 := Fr.snoc X418 N409 ge282
    have F419 : Arv Z h418 b282 k282 .char (18 : Int32) [(.int 47), (.int (nar .char xc_280)), (.int 47), (.int 98), (.int 97), (.int 114), (.int 101), (.int 45), (.int 108), (.int 111), (.int 99), (.int 107), (.int 47), (.int 0), (.int 0), (.int 0), (.int 0), (.int 0)] (.int 0) := Arv.set Ar416 qk416 sz416 nn416 Ha416 Gf416 (fits_nar_char _) W418 12 rfl (Nat.le_of_ble_eq_true rfl)
    refine Go.by st418 ?_
    show Go p e below _ (T418.setTop (mkF m 266 #[qI ia, qI ib, .val (.long ip), .second, qI 2, qI ja, qI xc_280, qI xc_281, qU, qU, qU, qU] [(.ref b282)]))
    refine Go.by (fun t k => XS.dup X418.here hx rfl (hb hby at_266) rfl rfl (XS.bipush X418.here hx rfl (hb hby at_267) (XS.bipush X418.here hx rfl (hb hby at_269) (XS.iload X418.here hx rfl (hb hby at_271) rfl (XS.iload X418.here hx rfl (hb hby at_273) rfl (XS.iload X418.here hx rfl (hb hby at_275) rfl (XS.iload X418.here hx rfl (hb hby at_277) rfl (XS.lloadN X418.here hx rfl (hb hby at_279) rfl k)))))))) ?_
    show Go p e below _ (T418.setTop (mkF m 280 #[qI ia, qI ib, .val (.long ip), .second, qI 2, qI ja, qI xc_280, qI xc_281, qU, qU, qU, qU] [(.long ip), (.int xc_281), (.int xc_280), (.int ja), (.int 2), (.int 13), (.int 13), (.ref b282), (.ref b282)]))
    have F421 : Old Z n0 h418 := ((F410.keep K409 all0).wr W418 ge282)
    have F422 : Keep h0 h418 [] := ((F411.trans K409 all0).wr W418 (Or.inr sz282))
    obtain ⟨_, _, ⟨T420, L420, k420, n420⟩, -, X420, ⟨Lc420, hQ420, l420, y420, z420⟩, st420⟩ := Jvm.LawKit.callS X418 hx (y := (⟨"com/example/bare_lock/barelock/zookeeper/LockPathsChrootPinLaw", "at", "(IIICCJ)C"⟩ : MethodName)) hown (mvT hZ (hw _ (mg 7 rfl))) (mvT hZ (hw _ (mg 8 rfl))) (mvT hZ (hw _ (mg 4 rfl))) (mvT hZ (hw _ (mg 9 rfl))) (by decide) (backOf (W := 3) (at_tail l Z a0 hw [] (13 : Int32) (2 : Int32) ja xc_280 xc_281 ip h418 n0 F421 (by decide) (by decide)) hZ (hw _ (mg 9 rfl)) (hw _ (mg 4 rfl)) (by decide) (by decide)) (g := (mkF m 280 #[qI ia, qI ib, .val (.long ip), .second, qI 2, qI ja, qI xc_280, qI xc_281, qU, qU, qU, qU] [(.long ip), (.int xc_281), (.int xc_280), (.int ja), (.int 2), (.int 13), (.int 13), (.ref b282), (.ref b282)])) rfl (by rw [hml]; rfl) (argsL := [(.int 13), (.int 2), (.int ja), (.int xc_280), (.int xc_281), (.long ip)]) (rest := [(.int 13), (.ref b282), (.ref b282)]) (lenOf pd_23 rfl) rfl (by show 2 * 0 + _ ≤ _; exact Nat.le_of_eq rfl) (hb hby at_280) (fun _ _ => ⟨rfl, e418, (by decide : 23 + 0 ≤ _), (by decide : 546 + 0 ≤ _)⟩)
    dsimp only [Pt.U, Pt.locs, Pt.cells, Pt.slots] at X420 l420 y420 z420 st420 hQ420
    subst y420 z420
    obtain ⟨tv_420, rfl, N420q, e420, hr_420, he_420, hn_420⟩ := hQ420
    have N420 : Fr n0 L420 := by rw [l420]; exact Fr.app N418 N420q
    have X420 := own_mr X420 23 546 (by decide) (by decide)
    refine Go.by st420 ?_
    show Go p e below _ (T420.setTop (mkF m 283 #[qI ia, qI ib, .val (.long ip), .second, qI 2, qI ja, qI xc_280, qI xc_281, qU, qU, qU, qU] [(.int tv_420), (.int 13), (.ref b282), (.ref b282)]))
    have F423 : Exa Z h418 b282 "[C" := (F414.wr W418)
    obtain ⟨cl424, Ar424, qk424, sz424, nn424, Ha424, Gf424⟩ := id F419
    have hin425 : ¬ ((13 : Int32) < 0 ∨ cl424.slots.size ≤ ((13 : Int32)).toNatClampNeg) := inb_of sz424 ⟨by decide, by decide⟩
    obtain ⟨T426, h426, X426, e426, W426, st426⟩ := stC X420 hx hZ e420 Ar424 (j := (13 : Int32)) hin425 (g := (mkF m 283 #[qI ia, qI ib, .val (.long ip), .second, qI 2, qI ja, qI xc_280, qI xc_281, qU, qU, qU, qU] [(.int tv_420), (.int 13), (.ref b282), (.ref b282)])) rfl rfl (hb hby at_283)
    have N426 := Fr.snoc X426 N420 ge282
    have F427 : Arv Z h426 b282 k282 .char (18 : Int32) [(.int 47), (.int (nar .char xc_280)), (.int 47), (.int 98), (.int 97), (.int 114), (.int 101), (.int 45), (.int 108), (.int 111), (.int 99), (.int 107), (.int 47), (.int (nar .char tv_420)), (.int 0), (.int 0), (.int 0), (.int 0)] (.int 0) := Arv.set Ar424 qk424 sz424 nn424 Ha424 Gf424 (fits_nar_char _) W426 13 rfl (Nat.le_of_ble_eq_true rfl)
    refine Go.by st426 ?_
    show Go p e below _ (T426.setTop (mkF m 284 #[qI ia, qI ib, .val (.long ip), .second, qI 2, qI ja, qI xc_280, qI xc_281, qU, qU, qU, qU] [(.ref b282)]))
    refine Go.by (fun t k => XS.dup X426.here hx rfl (hb hby at_284) rfl rfl (XS.bipush X426.here hx rfl (hb hby at_285) (XS.bipush X426.here hx rfl (hb hby at_287) (XS.iload X426.here hx rfl (hb hby at_289) rfl (XS.iload X426.here hx rfl (hb hby at_291) rfl (XS.iload X426.here hx rfl (hb hby at_293) rfl (XS.iload X426.here hx rfl (hb hby at_295) rfl (XS.lloadN X426.here hx rfl (hb hby at_297) rfl k)))))))) ?_
    show Go p e below _ (T426.setTop (mkF m 298 #[qI ia, qI ib, .val (.long ip), .second, qI 2, qI ja, qI xc_280, qI xc_281, qU, qU, qU, qU] [(.long ip), (.int xc_281), (.int xc_280), (.int ja), (.int 2), (.int 14), (.int 14), (.ref b282), (.ref b282)]))
    have F429 : Old Z n0 h426 := (F421.wr W426 ge282)
    have F430 : Keep h0 h426 [] := (F422.wr W426 (Or.inr sz282))
    obtain ⟨_, _, ⟨T428, L428, k428, n428⟩, -, X428, ⟨Lc428, hQ428, l428, y428, z428⟩, st428⟩ := Jvm.LawKit.callS X426 hx (y := (⟨"com/example/bare_lock/barelock/zookeeper/LockPathsChrootPinLaw", "at", "(IIICCJ)C"⟩ : MethodName)) hown (mvT hZ (hw _ (mg 7 rfl))) (mvT hZ (hw _ (mg 8 rfl))) (mvT hZ (hw _ (mg 4 rfl))) (mvT hZ (hw _ (mg 9 rfl))) (by decide) (backOf (W := 3) (at_tail l Z a0 hw [] (14 : Int32) (2 : Int32) ja xc_280 xc_281 ip h426 n0 F429 (by decide) (by decide)) hZ (hw _ (mg 9 rfl)) (hw _ (mg 4 rfl)) (by decide) (by decide)) (g := (mkF m 298 #[qI ia, qI ib, .val (.long ip), .second, qI 2, qI ja, qI xc_280, qI xc_281, qU, qU, qU, qU] [(.long ip), (.int xc_281), (.int xc_280), (.int ja), (.int 2), (.int 14), (.int 14), (.ref b282), (.ref b282)])) rfl (by rw [hml]; rfl) (argsL := [(.int 14), (.int 2), (.int ja), (.int xc_280), (.int xc_281), (.long ip)]) (rest := [(.int 14), (.ref b282), (.ref b282)]) (lenOf pd_23 rfl) rfl (by show 2 * 0 + _ ≤ _; exact Nat.le_of_eq rfl) (hb hby at_298) (fun _ _ => ⟨rfl, e426, (by decide : 23 + 0 ≤ _), (by decide : 546 + 0 ≤ _)⟩)
    dsimp only [Pt.U, Pt.locs, Pt.cells, Pt.slots] at X428 l428 y428 z428 st428 hQ428
    subst y428 z428
    obtain ⟨tv_428, rfl, N428q, e428, hr_428, he_428, hn_428⟩ := hQ428
    have N428 : Fr n0 L428 := by rw [l428]; exact Fr.app N426 N428q
    have X428 := own_mr X428 23 546 (by decide) (by decide)
    refine Go.by st428 ?_
    show Go p e below _ (T428.setTop (mkF m 301 #[qI ia, qI ib, .val (.long ip), .second, qI 2, qI ja, qI xc_280, qI xc_281, qU, qU, qU, qU] [(.int tv_428), (.int 14), (.ref b282), (.ref b282)]))
    have F431 : Exa Z h426 b282 "[C" := (F423.wr W426)
    obtain ⟨cl432, Ar432, qk432, sz432, nn432, Ha432, Gf432⟩ := id F427
    have hin433 : ¬ ((14 : Int32) < 0 ∨ cl432.slots.size ≤ ((14 : Int32)).toNatClampNeg) := inb_of sz432 ⟨by decide, by decide⟩
    obtain ⟨T434, h434, X434, e434, W434, st434⟩ := stC X428 hx hZ e428 Ar432 (j := (14 : Int32)) hin433 (g := (mkF m 301 #[qI ia, qI ib, .val (.long ip), .second, qI 2, qI ja, qI xc_280, qI xc_281, qU, qU, qU, qU] [(.int tv_428), (.int 14), (.ref b282), (.ref b282)])) rfl rfl (hb hby at_301)
    have N434 := Fr.snoc X434 N428 ge282
    have F435 : Arv Z h434 b282 k282 .char (18 : Int32) [(.int 47), (.int (nar .char xc_280)), (.int 47), (.int 98), (.int 97), (.int 114), (.int 101), (.int 45), (.int 108), (.int 111), (.int 99), (.int 107), (.int 47), (.int (nar .char tv_420)), (.int (nar .char tv_428)), (.int 0), (.int 0), (.int 0)] (.int 0) := Arv.set Ar432 qk432 sz432 nn432 Ha432 Gf432 (fits_nar_char _) W434 14 rfl (Nat.le_of_ble_eq_true rfl)
    refine Go.by st434 ?_
    show Go p e below _ (T434.setTop (mkF m 302 #[qI ia, qI ib, .val (.long ip), .second, qI 2, qI ja, qI xc_280, qI xc_281, qU, qU, qU, qU] [(.ref b282)]))
    refine Go.by (fun t k => XS.dup X434.here hx rfl (hb hby at_302) rfl rfl (XS.bipush X434.here hx rfl (hb hby at_303) (XS.bipush X434.here hx rfl (hb hby at_305) (XS.iload X434.here hx rfl (hb hby at_307) rfl (XS.iload X434.here hx rfl (hb hby at_309) rfl (XS.iload X434.here hx rfl (hb hby at_311) rfl (XS.iload X434.here hx rfl (hb hby at_313) rfl (XS.lloadN X434.here hx rfl (hb hby at_315) rfl k)))))))) ?_
    show Go p e below _ (T434.setTop (mkF m 316 #[qI ia, qI ib, .val (.long ip), .second, qI 2, qI ja, qI xc_280, qI xc_281, qU, qU, qU, qU] [(.long ip), (.int xc_281), (.int xc_280), (.int ja), (.int 2), (.int 15), (.int 15), (.ref b282), (.ref b282)]))
    have F437 : Old Z n0 h434 := (F429.wr W434 ge282)
    have F438 : Keep h0 h434 [] := (F430.wr W434 (Or.inr sz282))
    obtain ⟨_, _, ⟨T436, L436, k436, n436⟩, -, X436, ⟨Lc436, hQ436, l436, y436, z436⟩, st436⟩ := Jvm.LawKit.callS X434 hx (y := (⟨"com/example/bare_lock/barelock/zookeeper/LockPathsChrootPinLaw", "at", "(IIICCJ)C"⟩ : MethodName)) hown (mvT hZ (hw _ (mg 7 rfl))) (mvT hZ (hw _ (mg 8 rfl))) (mvT hZ (hw _ (mg 4 rfl))) (mvT hZ (hw _ (mg 9 rfl))) (by decide) (backOf (W := 3) (at_tail l Z a0 hw [] (15 : Int32) (2 : Int32) ja xc_280 xc_281 ip h434 n0 F437 (by decide) (by decide)) hZ (hw _ (mg 9 rfl)) (hw _ (mg 4 rfl)) (by decide) (by decide)) (g := (mkF m 316 #[qI ia, qI ib, .val (.long ip), .second, qI 2, qI ja, qI xc_280, qI xc_281, qU, qU, qU, qU] [(.long ip), (.int xc_281), (.int xc_280), (.int ja), (.int 2), (.int 15), (.int 15), (.ref b282), (.ref b282)])) rfl (by rw [hml]; rfl) (argsL := [(.int 15), (.int 2), (.int ja), (.int xc_280), (.int xc_281), (.long ip)]) (rest := [(.int 15), (.ref b282), (.ref b282)]) (lenOf pd_23 rfl) rfl (by show 2 * 0 + _ ≤ _; exact Nat.le_of_eq rfl) (hb hby at_316) (fun _ _ => ⟨rfl, e434, (by decide : 23 + 0 ≤ _), (by decide : 546 + 0 ≤ _)⟩)
    dsimp only [Pt.U, Pt.locs, Pt.cells, Pt.slots] at X436 l436 y436 z436 st436 hQ436
    subst y436 z436
    obtain ⟨tv_436, rfl, N436q, e436, hr_436, he_436, hn_436⟩ := hQ436
    have N436 : Fr n0 L436 := by rw [l436]; exact Fr.app N434 N436q
    have X436 := own_mr X436 23 546 (by decide) (by decide)
    refine Go.by st436 ?_
    show Go p e below _ (T436.setTop (mkF m 319 #[qI ia, qI ib, .val (.long ip), .second, qI 2, qI ja, qI xc_280, qI xc_281, qU, qU, qU, qU] [(.int tv_436), (.int 15), (.ref b282), (.ref b282)]))
    have F439 : Exa Z h434 b282 "[C" := (F431.wr W434)
    obtain ⟨cl440, Ar440, qk440, sz440, nn440, Ha440, Gf440⟩ := id F435
    have hin441 : ¬ ((15 : Int32) < 0 ∨ cl440.slots.size ≤ ((15 : Int32)).toNatClampNeg) := inb_of sz440 ⟨by decide, by decide⟩
    obtain ⟨T442, h442, X442, e442, W442, st442⟩ := stC X436 hx hZ e436 Ar440 (j := (15 : Int32)) hin441 (g := (mkF m 319 #[qI ia, qI ib, .val (.long ip), .second, qI 2, qI ja, qI xc_280, qI xc_281, qU, qU, qU, qU] [(.int tv_436), (.int 15), (.ref b282), (.ref b282)])) rfl rfl (hb hby at_319)
    have N442 := Fr.snoc X442 N436 ge282
    have F443 : Arv Z h442 b282 k282 .char (18 : Int32) [(.int 47), (.int (nar .char xc_280)), (.int 47), (.int 98), (.int 97), (.int 114), (.int 101), (.int 45), (.int 108), (.int 111), (.int 99), (.int 107), (.int 47), (.int (nar .char tv_420)), (.int (nar .char tv_428)), (.int (nar .char tv_436)), (.int 0), (.int 0)] (.int 0) := Arv.set Ar440 qk440 sz440 nn440 Ha440 Gf440 (fits_nar_char _) W442 15 rfl (Nat.le_of_ble_eq_true rfl)
    refine Go.by st442 ?_
    show Go p e below _ (T442.setTop (mkF m 320 #[qI ia, qI ib, .val (.long ip), .second, qI 2, qI ja, qI xc_280, qI xc_281, qU, qU, qU, qU] [(.ref b282)]))
    refine Go.by (fun t k => XS.dup X442.here hx rfl (hb hby at_320) rfl rfl (XS.bipush X442.here hx rfl (hb hby at_321) (XS.bipush X442.here hx rfl (hb hby at_323) (XS.iload X442.here hx rfl (hb hby at_325) rfl (XS.iload X442.here hx rfl (hb hby at_327) rfl (XS.iload X442.here hx rfl (hb hby at_329) rfl (XS.iload X442.here hx rfl (hb hby at_331) rfl (XS.lloadN X442.here hx rfl (hb hby at_333) rfl k)))))))) ?_
    show Go p e below _ (T442.setTop (mkF m 334 #[qI ia, qI ib, .val (.long ip), .second, qI 2, qI ja, qI xc_280, qI xc_281, qU, qU, qU, qU] [(.long ip), (.int xc_281), (.int xc_280), (.int ja), (.int 2), (.int 16), (.int 16), (.ref b282), (.ref b282)]))
    have F445 : Old Z n0 h442 := (F437.wr W442 ge282)
    have F446 : Keep h0 h442 [] := (F438.wr W442 (Or.inr sz282))
    obtain ⟨_, _, ⟨T444, L444, k444, n444⟩, -, X444, ⟨Lc444, hQ444, l444, y444, z444⟩, st444⟩ := Jvm.LawKit.callS X442 hx (y := (⟨"com/example/bare_lock/barelock/zookeeper/LockPathsChrootPinLaw", "at", "(IIICCJ)C"⟩ : MethodName)) hown (mvT hZ (hw _ (mg 7 rfl))) (mvT hZ (hw _ (mg 8 rfl))) (mvT hZ (hw _ (mg 4 rfl))) (mvT hZ (hw _ (mg 9 rfl))) (by decide) (backOf (W := 3) (at_tail l Z a0 hw [] (16 : Int32) (2 : Int32) ja xc_280 xc_281 ip h442 n0 F445 (by decide) (by decide)) hZ (hw _ (mg 9 rfl)) (hw _ (mg 4 rfl)) (by decide) (by decide)) (g := (mkF m 334 #[qI ia, qI ib, .val (.long ip), .second, qI 2, qI ja, qI xc_280, qI xc_281, qU, qU, qU, qU] [(.long ip), (.int xc_281), (.int xc_280), (.int ja), (.int 2), (.int 16), (.int 16), (.ref b282), (.ref b282)])) rfl (by rw [hml]; rfl) (argsL := [(.int 16), (.int 2), (.int ja), (.int xc_280), (.int xc_281), (.long ip)]) (rest := [(.int 16), (.ref b282), (.ref b282)]) (lenOf pd_23 rfl) rfl (by show 2 * 0 + _ ≤ _; exact Nat.le_of_eq rfl) (hb hby at_334) (fun _ _ => ⟨rfl, e442, (by decide : 23 + 0 ≤ _), (by decide : 546 + 0 ≤ _)⟩)
    dsimp only [Pt.U, Pt.locs, Pt.cells, Pt.slots] at X444 l444 y444 z444 st444 hQ444
    subst y444 z444
    obtain ⟨tv_444, rfl, N444q, e444, hr_444, he_444, hn_444⟩ := hQ444
    have N444 : Fr n0 L444 := by rw [l444]; exact Fr.app N442 N444q
    have X444 := own_mr X444 23 546 (by decide) (by decide)
    refine Go.by st444 ?_
    show Go p e below _ (T444.setTop (mkF m 337 #[qI ia, qI ib, .val (.long ip), .second, qI 2, qI ja, qI xc_280, qI xc_281, qU, qU, qU, qU] [(.int tv_444), (.int 16), (.ref b282), (.ref b282)]))
    have F447 : Exa Z h442 b282 "[C" := (F439.wr W442)
    obtain ⟨cl448, Ar448, qk448, sz448, nn448, Ha448, Gf448⟩ := id F443
    have hin449 : ¬ ((16 : Int32) < 0 ∨ cl448.slots.size ≤ ((16 : Int32)).toNatClampNeg) := inb_of sz448 ⟨by decide, by decide⟩
    obtain ⟨T450, h450, X450, e450, W450, st450⟩ := stC X444 hx hZ e444 Ar448 (j := (16 : Int32)) hin449 (g := (mkF m 337 #[qI ia, qI ib, .val (.long ip), .second, qI 2, qI ja, qI xc_280, qI xc_281, qU, qU, qU, qU] [(.int tv_444), (.int 16), (.ref b282), (.ref b282)])) rfl rfl (hb hby at_337)
    have N450 := Fr.snoc X450 N444 ge282
    have F451 : Arv Z h450 b282 k282 .char (18 : Int32) [(.int 47), (.int (nar .char xc_280)), (.int 47), (.int 98), (.int 97), (.int 114), (.int 101), (.int 45), (.int 108), (.int 111), (.int 99), (.int 107), (.int 47), (.int (nar .char tv_420)), (.int (nar .char tv_428)), (.int (nar .char tv_436)), (.int (nar .char tv_444)), (.int 0)] (.int 0) := Arv.set Ar448 qk448 sz448 nn448 Ha448 Gf448 (fits_nar_char _) W450 16 rfl (Nat.le_of_ble_eq_true rfl)
    refine Go.by st450 ?_
    show Go p e below _ (T450.setTop (mkF m 338 #[qI ia, qI ib, .val (.long ip), .second, qI 2, qI ja, qI xc_280, qI xc_281, qU, qU, qU, qU] [(.ref b282)]))
    refine Go.by (fun t k => XS.dup X450.here hx rfl (hb hby at_338) rfl rfl (XS.bipush X450.here hx rfl (hb hby at_339) (XS.bipush X450.here hx rfl (hb hby at_341) (XS.iload X450.here hx rfl (hb hby at_343) rfl (XS.iload X450.here hx rfl (hb hby at_345) rfl (XS.iload X450.here hx rfl (hb hby at_347) rfl (XS.iload X450.here hx rfl (hb hby at_349) rfl (XS.lloadN X450.here hx rfl (hb hby at_351) rfl k)))))))) ?_
    show Go p e below _ (T450.setTop (mkF m 352 #[qI ia, qI ib, .val (.long ip), .second, qI 2, qI ja, qI xc_280, qI xc_281, qU, qU, qU, qU] [(.long ip), (.int xc_281), (.int xc_280), (.int ja), (.int 2), (.int 17), (.int 17), (.ref b282), (.ref b282)]))
    have F453 : Old Z n0 h450 := (F445.wr W450 ge282)
    have F454 : Keep h0 h450 [] := (F446.wr W450 (Or.inr sz282))
    obtain ⟨_, _, ⟨T452, L452, k452, n452⟩, -, X452, ⟨Lc452, hQ452, l452, y452, z452⟩, st452⟩ := Jvm.LawKit.callS X450 hx (y := (⟨"com/example/bare_lock/barelock/zookeeper/LockPathsChrootPinLaw", "at", "(IIICCJ)C"⟩ : MethodName)) hown (mvT hZ (hw _ (mg 7 rfl))) (mvT hZ (hw _ (mg 8 rfl))) (mvT hZ (hw _ (mg 4 rfl))) (mvT hZ (hw _ (mg 9 rfl))) (by decide) (backOf (W := 3) (at_tail l Z a0 hw [] (17 : Int32) (2 : Int32) ja xc_280 xc_281 ip h450 n0 F453 (by decide) (by decide)) hZ (hw _ (mg 9 rfl)) (hw _ (mg 4 rfl)) (by decide) (by decide)) (g := (mkF m 352 #[qI ia, qI ib, .val (.long ip), .second, qI 2, qI ja, qI xc_280, qI xc_281, qU, qU, qU, qU] [(.long ip), (.int xc_281), (.int xc_280), (.int ja), (.int 2), (.int 17), (.int 17), (.ref b282), (.ref b282)])) rfl (by rw [hml]; rfl) (argsL := [(.int 17), (.int 2), (.int ja), (.int xc_280), (.int xc_281), (.long ip)]) (rest := [(.int 17), (.ref b282), (.ref b282)]) (lenOf pd_23 rfl) rfl (by show 2 * 0 + _ ≤ _; exact Nat.le_of_eq rfl) (hb hby at_352) (fun _ _ => ⟨rfl, e450, (by decide : 23 + 0 ≤ _), (by decide : 546 + 0 ≤ _)⟩)
    dsimp only [Pt.U, Pt.locs, Pt.cells, Pt.slots] at X452 l452 y452 z452 st452 hQ452
    subst y452 z452
    obtain ⟨tv_452, rfl, N452q, e452, hr_452, he_452, hn_452⟩ := hQ452
    have N452 : Fr n0 L452 := by rw [l452]; exact Fr.app N450 N452q
    have X452 := own_mr X452 23 546 (by decide) (by decide)
    refine Go.by st452 ?_
    show Go p e below _ (T452.setTop (mkF m 355 #[qI ia, qI ib, .val (.long ip), .second, qI 2, qI ja, qI xc_280, qI xc_281, qU, qU, qU, qU] [(.int tv_452), (.int 17), (.ref b282), (.ref b282)]))
    have F455 : Exa Z h450 b282 "[C" := (F447.wr W450)
    obtain ⟨cl456, Ar456, qk456, sz456, nn456, Ha456, Gf456⟩ := id F451
    have hin457 : ¬ ((17 : Int32) < 0 ∨ cl456.slots.size ≤ ((17 : Int32)).toNatClampNeg) := inb_of sz456 ⟨by decide, by decide⟩
    obtain ⟨T458, h458, X458, e458, W458, st458⟩ := stC X452 hx hZ e452 Ar456 (j := (17 : Int32)) hin457 (g := (mkF m 355 #[qI ia, qI ib, .val (.long ip), .second, qI 2, qI ja, qI xc_280, qI xc_281, qU, qU, qU, qU] [(.int tv_452), (.int 17), (.ref b282), (.ref b282)])) rfl rfl (hb hby at_355)
    have N458 := Fr.snoc X458 N452 ge282
    have F459 : Arv Z h458 b282 k282 .char (18 : Int32) [(.int 47), (.int (nar .char xc_280)), (.int 47), (.int 98), (.int 97), (.int 114), (.int 101), (.int 45), (.int 108), (.int 111), (.int 99), (.int 107), (.int 47), (.int (nar .char tv_420)), (.int (nar .char tv_428)), (.int (nar .char tv_436)), (.int (nar .char tv_444)), (.int (nar .char tv_452))] (.int 0) := Arv.set Ar456 qk456 sz456 nn456 Ha456 Gf456 (fits_nar_char _) W458 17 rfl (Nat.le_of_ble_eq_true rfl)
    refine Go.by st458 ?_
    show Go p e below _ (T458.setTop (mkF m 356 #[qI ia, qI ib, .val (.long ip), .second, qI 2, qI ja, qI xc_280, qI xc_281, qU, qU, qU, qU] [(.ref b282)]))
    have F460 : Arv Z h458 b282 k282 .char (18 : Int32) [(.int 47), (.int xc_280), (.int 47), (.int 98), (.int 97), (.int 114), (.int 101), (.int 45), (.int 108), (.int 111), (.int 99), (.int 107), (.int 47), (.int tv_420), (.int tv_428), (.int tv_436), (.int tv_444), (.int tv_452)] (.int 0) := by have q := F459; rw [own_narc ⟨hxx_280.1, hxx_280.2.1⟩, own_narc hr_420, own_narc hr_428, own_narc hr_436, own_narc hr_444, own_narc hr_452] at q; exact q
    refine Go.by (fun t k => XS.astore X458.here hx rfl (hb hby at_356) rfl rfl (l' := #[qI ia, qI ib, .val (.long ip), .second, qI 2, qI ja, qI xc_280, qI xc_281, .val (.ref b282), qU, qU, qU]) rfl k) ?_
    show Go p e below _ (T458.setTop (mkF m 358 #[qI ia, qI ib, .val (.long ip), .second, qI 2, qI ja, qI xc_280, qI xc_281, .val (.ref b282), qU, qU, qU] []))
    have F461 : Exa Z h458 b282 "[C" := (F455.wr W458)
    have F462 : Old Z n0 h458 := (F453.wr W458 ge282)
    have F463 : Keep h0 h458 [] := (F454.wr W458 (Or.inr sz282))
    obtain ⟨T464, h464, X464, e464, E464, A464, D464, -, st464⟩ := newO X458 hx hZ hown (hw _ (mg 47 rfl)) (hw _ (mg 12 rfl)) (hw _ (mg 11 rfl)) e458 (g := (mkF m 358 #[qI ia, qI ib, .val (.long ip), .second, qI 2, qI ja, qI xc_280, qI xc_281, .val (.ref b282), qU, qU, qU] [])) rfl (hb hby at_358) (by decide) (by decide)
    obtain ⟨b464, g464⟩ : ∃ z, z = h458.size := ⟨_, rfl⟩
    rw [← g464] at A464 D464 st464
    have gl464 : h458.size ≤ b464 := Nat.le_of_eq g464.symm
    have ge464 : n0 ≤ b464 := Nat.le_trans (own_old_size F462) gl464
    have sz464 : h0.size ≤ b464 := Nat.le_trans F463.1 gl464
    have ne465 : b282 ≠ b464 := Nat.ne_of_lt (Nat.lt_of_lt_of_le F461.lt gl464)
    have F466 : Fld Z h464 b464 "java/lang/String" "value" "[B" .null := D464 (Or.inr (hw _ (mg 14 rfl))) (ty := (.array .byte)) (by decide)
    have F467 : Fld Z h464 b464 "java/lang/String" "coder" "B" (.int 0) := D464 (Or.inr (hw _ (mg 15 rfl))) (ty := .byte) (by decide)
    refine Go.by st464 ?_
    show Go p e below _ (T464.setTop (mkF m 361 #[qI ia, qI ib, .val (.long ip), .second, qI 2, qI ja, qI xc_280, qI xc_281, .val (.ref b282), qU, qU, qU] [(.ref b464)]))
    refine Go.by (fun t k => XS.dup X464.here hx rfl (hb hby at_361) rfl rfl (XS.aload X464.here hx rfl (hb hby at_362) rfl rfl k)) ?_
    show Go p e below _ (T464.setTop (mkF m 364 #[qI ia, qI ib, .val (.long ip), .second, qI 2, qI ja, qI xc_280, qI xc_281, .val (.ref b282), qU, qU, qU] [(.ref b282), (.ref b464), (.ref b464)]))
    have F469 : Old Z n0 h464 := (F462.ext E464)
    have F470 : Arv Z h464 b282 k282 .char (18 : Int32) [(.int 47), (.int xc_280), (.int 47), (.int 98), (.int 97), (.int 114), (.int 101), (.int 45), (.int 108), (.int 111), (.int 99), (.int 107), (.int 47), (.int tv_420), (.int tv_428), (.int tv_436), (.int tv_444), (.int tv_452)] (.int 0) := (F460.ext E464)
    have F471 : Exa Z h464 b282 "[C" := (F461.ext E464)
    have F472 : Keep h0 h464 [] := (F463.ext E464)
    obtain ⟨_, _, ⟨T468, L468, k468, n468⟩, -, X468, ⟨Lc468, hQ468, l468, y468, z468⟩, st468⟩ := X464.specialBack hx (y := (⟨"java/lang/String", "<init>", "([C)V"⟩ : MethodName)) rfl hown (mvT hZ (hw _ (mg 48 rfl))) (mvT hZ (hw _ (mg 49 rfl))) (mvT hZ (hw _ (mg 50 rfl))) (by decide) (backOf (W := 1) (init1_18 l Z a0 hw [] b464 b282 k282 (47 : Int32) xc_280 (47 : Int32) (98 : Int32) (97 : Int32) (114 : Int32) (101 : Int32) (45 : Int32) (108 : Int32) (111 : Int32) (99 : Int32) (107 : Int32) (47 : Int32) tv_420 tv_428 tv_436 tv_444 tv_452 cs h464 n0 F469 A464 F466 F467 F470 P0 ge464 ne465 hcs (by decide) ⟨hxx_280.1, hxx_280.2.1⟩ (by decide) (by decide) (by decide) (by decide) (by decide) (by decide) (by decide) (by decide) (by decide) (by decide) (by decide) hr_420 hr_428 hr_436 hr_444 hr_452) hZ (hw _ (mg 50 rfl)) (hw _ (mg 11 rfl)) (by decide) (by decide)) (g := (mkF m 364 #[qI ia, qI ib, .val (.long ip), .second, qI 2, qI ja, qI xc_280, qI xc_281, .val (.ref b282), qU, qU, qU] [(.ref b282), (.ref b464), (.ref b464)])) rfl (by rw [hml]; rfl) (Steps.refl _) (a := b464) (argsL := [(.ref b282)]) (rest := [(.ref b464)]) (lenOf pd_24 rfl) rfl (by show 2 * 0 + _ ≤ _; exact Nat.le_of_eq rfl) (hb hby at_364) (fun _ _ => ⟨rfl, e464, (by decide : 24 + 1 ≤ _), (by decide : 550 + 18 ≤ _)⟩)
    dsimp only [Pt.U, Pt.locs, Pt.cells, Pt.slots] at X468 l468 y468 z468 st468 hQ468
    subst y468 z468
    obtain ⟨xb_468, kb_468, rfl, N468q, K468, fz468_xb, F468_0, F468_1, F468_2, F468_3⟩ := hQ468
    have N468 : Fr n0 L468 := by rw [l468]; exact Fr.app N458 N468q
    have X468 := own_mr X468 25 568 (by decide) (by decide)
    have ge_xb_468 : n0 ≤ xb_468 := Nat.le_trans (own_old_size F469) fz468_xb
    have sz_xb_468 : h0.size ≤ xb_468 := Nat.le_trans F472.1 fz468_xb
    have ne473 : b282 ≠ xb_468 := Nat.ne_of_lt (Nat.lt_of_lt_of_le F471.lt fz468_xb)
    have ne474 : b464 ≠ xb_468 := Nat.ne_of_lt (Nat.lt_of_lt_of_le A464.lt fz468_xb)
    refine Go.tr st468 ?_
    show Go p e below _ (T468.setTop (mkF m 367 #[qI ia, qI ib, .val (.long ip), .second, qI 2, qI ja, qI xc_280, qI xc_281, .val (.ref b282), qU, qU, qU] [(.ref b464)]))
    refine Go.by (fun t k => XS.astore X468.here hx rfl (hb hby at_367) rfl rfl (l' := #[qI ia, qI ib, .val (.long ip), .second, qI 2, qI ja, qI xc_280, qI xc_281, .val (.ref b282), .val (.ref b464), qU, qU]) rfl (XS.iload X468.here hx rfl (hb hby at_369) rfl (XS.ifYes X468.here hx rfl (pc0 := 371) (pc' := 381) rfl (hb hby at_371) rfl ((if0 _ _).trans (feq (by decide : ¬ ((2 : Int32) = (0 : Int32)))).2) (by decide) (by decide) (XS.iload X468.here hx rfl (hb hby at_381) rfl (XS.iconst X468.here hx rfl (hb hby at_383) (XS.icmpNo X468.here hx rfl (hb hby at_384) rfl (teq rfl).2 k)))))) ?_
    show Go p e below _ (T468.setTop (mkF m 387 #[qI ia, qI ib, .val (.long ip), .second, qI 2, qI ja, qI xc_280, qI xc_281, .val (.ref b282), .val (.ref b464), qU, qU] []))
    have F475 : Exa Z T468.heap b282 "[C" := (F471.keep K468)
    have F476 : Old Z n0 T468.heap := (F469.keep K468 (allS ge464 all0))
    have F477 : Keep h0 T468.heap [] := (F472.trans K468 (allS (Or.inr sz464) all0))
    obtain ⟨T478, h478, X478, e478, E478, A478, D478, -, st478⟩ := newO X468 hx hZ hown (hw _ (mg 47 rfl)) (hw _ (mg 12 rfl)) (hw _ (mg 11 rfl)) rfl (g := (mkF m 387 #[qI ia, qI ib, .val (.long ip), .second, qI 2, qI ja, qI xc_280, qI xc_281, .val (.ref b282), .val (.ref b464), qU, qU] [])) rfl (hb hby at_387) (by decide) (by decide)
    obtain ⟨b478, g478⟩ : ∃ z, z = T468.heap.size := ⟨_, rfl⟩
    rw [← g478] at A478 D478 st478
    have gl478 : T468.heap.size ≤ b478 := Nat.le_of_eq g478.symm
    have ge478 : n0 ≤ b478 := Nat.le_trans (own_old_size F476) gl478
    have sz478 : h0.size ≤ b478 := Nat.le_trans F477.1 gl478
    have ne479 : b282 ≠ b478 := Nat.ne_of_lt (Nat.lt_of_lt_of_le F475.lt gl478)
    have ne480 : b464 ≠ b478 := Nat.ne_of_lt (Nat.lt_of_lt_of_le F468_0.lt gl478)
    have ne481 : xb_468 ≠ b478 := Nat.ne_of_lt (Nat.lt_of_lt_of_le F468_3.lt gl478)
    have F482 : Fld Z h478 b478 "java/lang/String" "value" "[B" .null := D478 (Or.inr (hw _ (mg 14 rfl))) (ty := (.array .byte)) (by decide)
    have F483 : Fld Z h478 b478 "java/lang/String" "coder" "B" (.int 0) := D478 (Or.inr (hw _ (mg 15 rfl))) (ty := .byte) (by decide)
    refine Go.by st478 ?_
    show Go p e below _ (T478.setTop (mkF m 390 #[qI ia, qI ib, .val (.long ip), .second, qI 2, qI ja, qI xc_280, qI xc_281, .val (.ref b282), .val (.ref b464), qU, qU] [(.ref b478)]))
    refine Go.by (fun t k => XS.dup X478.here hx rfl (hb hby at_390) rfl rfl (XS.iconst X478.here hx rfl (hb hby at_391) k)) ?_
    show Go p e below _ (T478.setTop (mkF m 392 #[qI ia, qI ib, .val (.long ip), .second, qI 2, qI ja, qI xc_280, qI xc_281, .val (.ref b282), .val (.ref b464), qU, qU] [(.int 2), (.ref b478), (.ref b478)]))
    have F484 : Exa Z h478 b282 "[C" := (F475.ext E478)
    have F485 : Exa Z h478 b464 "java/lang/String" := (F468_0.ext E478)
    have F486 : Arv Z h478 xb_468 kb_468 .byte (18 : Int32) [(.int (qB 47)), (.int (qB xc_280)), (.int (qB 47)), (.int (qB 98)), (.int (qB 97)), (.int (qB 114)), (.int (qB 101)), (.int (qB 45)), (.int (qB 108)), (.int (qB 111)), (.int (qB 99)), (.int (qB 107)), (.int (qB 47)), (.int (qB tv_420)), (.int (qB tv_428)), (.int (qB tv_436)), (.int (qB tv_444)), (.int (qB tv_452))] (.int 0) := (F468_3.ext E478)
    have F487 : Old Z n0 h478 := (F476.ext E478)
    have F488 : Keep h0 h478 [] := (F477.ext E478)
    obtain ⟨T489, h489, k489, X489, e489, E489, A489, Q489, st489⟩ := newPE X478 hx hZ (hw _ (mg 6 rfl)) e478 (g := (mkF m 392 #[qI ia, qI ib, .val (.long ip), .second, qI 2, qI ja, qI xc_280, qI xc_281, .val (.ref b282), .val (.ref b464), qU, qU] [(.int 2), (.ref b478), (.ref b478)])) rfl (hb hby at_392) rfl (by decide) (cap := 2) (by decide) (by decide) (by decide) (by decide) (ad := "[C") (by decide)
    obtain ⟨b489, g489⟩ : ∃ z, z = h478.size := ⟨_, rfl⟩
    rw [← g489] at A489 Q489 st489
    have gl489 : h478.size ≤ b489 := Nat.le_of_eq g489.symm
    have ge489 : n0 ≤ b489 := Nat.le_trans (own_old_size F487) gl489
    have sz489 : h0.size ≤ b489 := Nat.le_trans F488.1 gl489
    have ne490 : b282 ≠ b489 := Nat.ne_of_lt (Nat.lt_of_lt_of_le F484.lt gl489)
    have ne491 : b464 ≠ b489 := Nat.ne_of_lt (Nat.lt_of_lt_of_le F485.lt gl489)
    have ne492 : xb_468 ≠ b489 := Nat.ne_of_lt (Nat.lt_of_lt_of_le F486.lt gl489)
    have ne493 : b478 ≠ b489 := Nat.ne_of_lt (Nat.lt_of_lt_of_le A478.lt gl489)
    have F494 : Arv Z h489 b489 k489 .char (2 : Int32) [(.int 0), (.int 0)] (.int 0) := (Arv.new A489 (by decide)).pad (pad_rep [] (.int 0) 2)
    refine Go.by st489 ?_
    show Go p e below _ (T489.setTop (mkF m 394 #[qI ia, qI ib, .val (.long ip), .second, qI 2, qI ja, qI xc_280, qI xc_281, .val (.ref b282), .val (.ref b464), qU, qU] [(.ref b489), (.ref b478), (.ref b478)]))
    refine Go.by (fun t k => XS.dup X489.here hx rfl (hb hby at_394) rfl rfl (XS.iconst X489.here hx rfl (hb hby at_395) (XS.bipush X489.here hx rfl (hb hby at_396) k))) ?_
    show Go p e below _ (T489.setTop (mkF m 398 #[qI ia, qI ib, .val (.long ip), .second, qI 2, qI ja, qI xc_280, qI xc_281, .val (.ref b282), .val (.ref b464), qU, qU] [(.int 47), (.int 0), (.ref b489), (.ref b489), (.ref b478), (.ref b478)]))
    obtain ⟨cl495, Ar495, qk495, sz495, nn495, Ha495, Gf495⟩ := id F494
    have hin496 : ¬ ((0 : Int32) < 0 ∨ cl495.slots.size ≤ ((0 : Int32)).toNatClampNeg) := inb_of sz495 ⟨by decide, by decide⟩
    obtain ⟨T497, h497, X497, e497, W497, st497⟩ := stC X489 hx hZ e489 Ar495 (j := (0 : Int32)) hin496 (g := (mkF m 398 #[qI ia, qI ib, .val (.long ip), .second, qI 2, qI ja, qI xc_280, qI xc_281, .val (.ref b282), .val (.ref b464), qU, qU] [(.int 47), (.int 0), (.ref b489), (.ref b489), (.ref b478), (.ref b478)])) rfl rfl (hb hby at_398)
    have N497 := Fr.snoc X497 N468 ge489
    have F498 : Arv Z h497 b489 k489 .char (2 : Int32) [(.int 47), (.int 0)] (.int 0) := Arv.set Ar495 qk495 sz495 nn495 Ha495 Gf495 (fits_nar_char _) W497 0 rfl (Nat.le_of_ble_eq_true rfl)
    refine Go.by st497 ?_
    show Go p e below _ (T497.setTop (mkF m 399 #[qI ia, qI ib, .val (.long ip), .second, qI 2, qI ja, qI xc_280, qI xc_281, .val (.ref b282), .val (.ref b464), qU, qU] [(.ref b489), (.ref b478), (.ref b478)]))
    refine Go.by (fun t k => XS.dup X497.here hx rfl (hb hby at_399) rfl rfl (XS.iconst X497.here hx rfl (hb hby at_400) (XS.iload X497.here hx rfl (hb hby at_401) rfl k))) ?_
    show Go p e below _ (T497.setTop (mkF m 403 #[qI ia, qI ib, .val (.long ip), .second, qI 2, qI ja, qI xc_280, qI xc_281, .val (.ref b282), .val (.ref b464), qU, qU] [(.int xc_280), (.int 1), (.ref b489), (.ref b489), (.ref b478), (.ref b478)]))
    have F499 : Exa Z h497 b489 "[C" := (Q489.wr W497)
    obtain ⟨cl500, Ar500, qk500, sz500, nn500, Ha500, Gf500⟩ := id F498
    have hin501 : ¬ ((1 : Int32) < 0 ∨ cl500.slots.size ≤ ((1 : Int32)).toNatClampNeg) := inb_of sz500 ⟨by decide, by decide⟩
    obtain ⟨T502, h502, X502, e502, W502, st502⟩ := stC X497 hx hZ e497 Ar500 (j := (1 : Int32)) hin501 (g := (mkF m 403 #[qI ia, qI ib, .val (.long ip), .second, qI 2, qI ja, qI xc_280, qI xc_281, .val (.ref b282), .val (.ref b464), qU, qU] [(.int xc_280), (.int 1), (.ref b489), (.ref b489), (.ref b478), (.ref b478)])) rfl rfl (hb hby at_403)
    have N502 := Fr.snoc X502 N497 ge489
    have F503 : Arv Z h502 b489 k489 .char (2 : Int32) [(.int 47), (.int (nar .char xc_280))] (.int 0) := Arv.set Ar500 qk500 sz500 nn500 Ha500 Gf500 (fits_nar_char _) W502 1 rfl (Nat.le_of_ble_eq_true rfl)
    refine Go.by st502 ?_
    show Go p e below _ (T502.setTop (mkF m 404 #[qI ia, qI ib, .val (.long ip), .second, qI 2, qI ja, qI xc_280, qI xc_281, .val (.ref b282), .val (.ref b464), qU, qU] [(.ref b489), (.ref b478), (.ref b478)]))
    have F504 : Arv Z h502 b489 k489 .char (2 : Int32) [(.int 47), (.int xc_280)] (.int 0) := by have q := F503; rw [own_narc ⟨hxx_280.1, hxx_280.2.1⟩] at q; exact q
    have F506 : Old Z n0 h502 := (((F487.ext E489).wr W497 ge489).wr W502 ge489)
    have F507 : Exa Z h502 b478 "java/lang/String" := (((A478.ext E489).wr W497).wr W502)
    have F508 : Fld Z h502 b478 "java/lang/String" "value" "[B" .null := (((F482.ext E489).other W497 (Or.inl ne493)).other W502 (Or.inl ne493))
    have F509 : Fld Z h502 b478 "java/lang/String" "coder" "B" (.int 0) := (((F483.ext E489).other W497 (Or.inl ne493)).other W502 (Or.inl ne493))
    have F510 : Exa Z h502 b282 "[C" := (((F484.ext E489).wr W497).wr W502)
    have F511 : Exa Z h502 b464 "java/lang/String" := (((F485.ext E489).wr W497).wr W502)
    have F512 : Arv Z h502 xb_468 kb_468 .byte (18 : Int32) [(.int (qB 47)), (.int (qB xc_280)), (.int (qB 47)), (.int (qB 98)), (.int (qB 97)), (.int (qB 114)), (.int (qB 101)), (.int (qB 45)), (.int (qB 108)), (.int (qB 111)), (.int (qB 99)), (.int (qB 107)), (.int (qB 47)), (.int (qB tv_420)), (.int (qB tv_428)), (.int (qB tv_436)), (.int (qB tv_444)), (.int (qB tv_452))] (.int 0) := (((F486.ext E489).other W497 ne492).other W502 ne492)
    have F513 : Exa Z h502 b489 "[C" := (F499.wr W502)
    have F514 : Keep h0 h502 [] := (((F488.ext E489).wr W497 (Or.inr sz489)).wr W502 (Or.inr sz489))
    obtain ⟨_, _, ⟨T505, L505, k505, n505⟩, -, X505, ⟨Lc505, hQ505, l505, y505, z505⟩, st505⟩ := X502.specialBack hx (y := (⟨"java/lang/String", "<init>", "([C)V"⟩ : MethodName)) rfl hown (mvT hZ (hw _ (mg 48 rfl))) (mvT hZ (hw _ (mg 49 rfl))) (mvT hZ (hw _ (mg 50 rfl))) (by decide) (backOf (W := 1) (init1_2 l Z a0 hw [] b478 b489 k489 (47 : Int32) xc_280 cs h502 n0 F506 F507 F508 F509 F504 P0 ge478 (Ne.symm ne493) hcs (by decide) ⟨hxx_280.1, hxx_280.2.1⟩) hZ (hw _ (mg 50 rfl)) (hw _ (mg 11 rfl)) (by decide) (by decide)) (g := (mkF m 404 #[qI ia, qI ib, .val (.long ip), .second, qI 2, qI ja, qI xc_280, qI xc_281, .val (.ref b282), .val (.ref b464), qU, qU] [(.ref b489), (.ref b478), (.ref b478)])) rfl (by rw [hml]; rfl) (Steps.refl _) (a := b478) (argsL := [(.ref b489)]) (rest := [(.ref b478)]) (lenOf pd_24 rfl) rfl (by show 2 * 0 + _ ≤ _; exact Nat.le_of_eq rfl) (hb hby at_404) (fun _ _ => ⟨rfl, e502, (by decide : 27 + 1 ≤ _), (by decide : 574 + 2 ≤ _)⟩)
    dsimp only [Pt.U, Pt.locs, Pt.cells, Pt.slots] at X505 l505 y505 z505 st505 hQ505
    subst y505 z505
    obtain ⟨xb_505, kb_505, rfl, N505q, K505, fz505_xb, F505_0, F505_1, F505_2, F505_3⟩ := hQ505
    have N505 : Fr n0 L505 := by rw [l505]; exact Fr.app N502 N505q
    have X505 := own_mr X505 28 576 (by decide) (by decide)
    have ge_xb_505 : n0 ≤ xb_505 := Nat.le_trans (own_old_size F506) fz505_xb
    have sz_xb_505 : h0.size ≤ xb_505 := Nat.le_trans F514.1 fz505_xb
    have ne515 : b282 ≠ xb_505 := Nat.ne_of_lt (Nat.lt_of_lt_of_le F510.lt fz505_xb)
    have ne516 : b464 ≠ xb_505 := Nat.ne_of_lt (Nat.lt_of_lt_of_le F511.lt fz505_xb)
    have ne517 : xb_468 ≠ xb_505 := Nat.ne_of_lt (Nat.lt_of_lt_of_le F512.lt fz505_xb)
    have ne518 : b478 ≠ xb_505 := Nat.ne_of_lt (Nat.lt_of_lt_of_le F507.lt fz505_xb)
    have ne519 : b489 ≠ xb_505 := Nat.ne_of_lt (Nat.lt_of_lt_of_le F513.lt fz505_xb)
    refine Go.tr st505 ?_
    show Go p e below _ (T505.setTop (mkF m 407 #[qI ia, qI ib, .val (.long ip), .second, qI 2, qI ja, qI xc_280, qI xc_281, .val (.ref b282), .val (.ref b464), qU, qU] [(.ref b478)]))
    refine Go.by (fun t k => XS.astore X505.here hx rfl (hb hby at_407) rfl rfl (l' := #[qI ia, qI ib, .val (.long ip), .second, qI 2, qI ja, qI xc_280, qI xc_281, .val (.ref b282), .val (.ref b464), .val (.ref b478), qU]) rfl (XS.goto X505.here hx rfl (pc0 := 409) (pc' := 444) rfl (hb hby at_409) (by decide) (by decide) (XS.aload X505.here hx rfl (hb hby at_444) rfl rfl k))) ?_
    show Go p e below _ (T505.setTop (mkF m 446 #[qI ia, qI ib, .val (.long ip), .second, qI 2, qI ja, qI xc_280, qI xc_281, .val (.ref b282), .val (.ref b464), .val (.ref b478), qU] [(.ref b464)]))
    rcases hja with hja | hja | hja
    · skip
      have F521 : Old Z n0 T505.heap := (F506.keep K505 (allS ge478 all0))
      have F522 : Exa Z T505.heap b464 "java/lang/String" := (F511.keep K505)
      have F523 : Fld Z T505.heap b464 "java/lang/String" "coder" "B" (.int 0) := (((((F468_1.ext E478).ext E489).other W497 (Or.inl ne491)).other W502 (Or.inl ne491)).keep K505 (ninS ne480 nin0))
      have F524 : Fld Z T505.heap b464 "java/lang/String" "value" "[B" (.ref xb_468) := (((((F468_2.ext E478).ext E489).other W497 (Or.inl ne491)).other W502 (Or.inl ne491)).keep K505 (ninS ne480 nin0))
      have F525 : Arv Z T505.heap xb_468 kb_468 .byte (18 : Int32) [(.int (qB 47)), (.int (qB xc_280)), (.int (qB 47)), (.int (qB 98)), (.int (qB 97)), (.int (qB 114)), (.int (qB 101)), (.int (qB 45)), (.int (qB 108)), (.int (qB 111)), (.int (qB 99)), (.int (qB 107)), (.int (qB 47)), (.int (qB tv_420)), (.int (qB tv_428)), (.int (qB tv_436)), (.int (qB tv_444)), (.int (qB tv_452))] (.int 0) := (F512.keep K505 (ninS ne481 nin0))
      have hl526 : own_last [(.int (qB 47)), (.int (qB xc_280)), (.int (qB 47)), (.int (qB 98)), (.int (qB 97)), (.int (qB 114)), (.int (qB 101)), (.int (qB 45)), (.int (qB 108)), (.int (qB 111)), (.int (qB 99)), (.int (qB 107)), (.int (qB 47)), (.int (qB tv_420)), (.int (qB tv_428)), (.int (qB tv_436)), (.int (qB tv_444)), (.int (qB tv_452))] (18 : Int32) (14 : Int32) := by
        refine ⟨by decide, ?_, ?_⟩
        · show Value.int (qB tv_428) = .int 47; rw [he_428 (by rw [hja]; decide)]; rfl
        · intro q ha1 ha2; have ha1 : 14 < q := ha1; have ha2 : q < 18 := ha2
          rcases (by omega : q = 15 ∨ q = 16 ∨ q = 17) with rfl | rfl | rfl
          · exact (own_b47 hr_436 (hn_436 (by rw [hja]; decide)))
          · exact (own_b47 hr_444 (hn_444 (by rw [hja]; decide)))
          · exact (own_b47 hr_452 (hn_452 (by rw [hja]; decide)))
      have hl527 : own_last (own_tk [(.int (qB 47)), (.int (qB xc_280)), (.int (qB 47)), (.int (qB 98)), (.int (qB 97)), (.int (qB 114)), (.int (qB 101)), (.int (qB 45)), (.int (qB 108)), (.int (qB 111)), (.int (qB 99)), (.int (qB 107)), (.int (qB 47)), (.int (qB tv_420)), (.int (qB tv_428)), (.int (qB tv_436)), (.int (qB tv_444)), (.int (qB tv_452))] (14 : Int32)) (14 : Int32) (12 : Int32) := by
        refine own_last_tk ⟨by decide, rfl, ?_⟩
        intro q ha1 ha2; have ha1 : 12 < q := ha1; have ha2 : q < 14 := ha2
        rcases (by omega : q = 13) with rfl
        · exact (own_b47 hr_420 (hn_420 (by rw [hja]; decide)))
      have F528 : Keep h0 T505.heap [] := (F514.trans K505 (allS (Or.inr sz478) all0))
      have F529 : T409.heap.size ≤ T505.heap.size := (Nat.le_trans (Nat.le_trans (Nat.le_trans (Nat.le_trans (Nat.le_trans (Nat.le_trans (Nat.le_trans (Nat.le_trans (Nat.le_trans (Nat.le_trans (Nat.le_trans (Nat.le_trans (Nat.le_trans hk409 (Nat.le_of_eq W418.size.symm)) (Nat.le_of_eq W426.size.symm)) (Nat.le_of_eq W434.size.symm)) (Nat.le_of_eq W442.size.symm)) (Nat.le_of_eq W450.size.symm)) (Nat.le_of_eq W458.size.symm)) E464.1) K468.1) E478.1) E489.1) (Nat.le_of_eq W497.size.symm)) (Nat.le_of_eq W502.size.symm)) K505.1)
      have F530 : CHr Z own_EL s.vm h0 T409.vm T505.heap := (own_chK (own_chW (own_chW (own_chE (own_chE (own_chK (own_chE (own_chW (own_chW (own_chW (own_chW (own_chW (own_chW A409 W418 (Safe.exa hZ.alike F414 (by decide) (by decide))) W426 (Safe.exa hZ.alike F423 (by decide) (by decide))) W434 (Safe.exa hZ.alike F431 (by decide) (by decide))) W442 (Safe.exa hZ.alike F439 (by decide) (by decide))) W450 (Safe.exa hZ.alike F447 (by decide) (by decide))) W458 (Safe.exa hZ.alike F455 (by decide) (by decide))) E464) K468 (sfS (own_safeNull hZ.alike A464 F466) sf0)) E478) E489) W497 (Safe.exa hZ.alike Q489 (by decide) (by decide))) W502 (Safe.exa hZ.alike F499 (by decide) (by decide))) K505 (sfS (own_safeNull hZ.alike F507 F508) sf0))
      obtain ⟨_, _, ⟨T520, L520, k520, n520⟩, -, X520, sn520, gr520, ⟨Lc520, hQ520, l520, y520, z520, C520⟩, st520⟩ := callSS X505 hx (y := (⟨"com/example/bare_lock/barelock/zookeeper/LockPaths", "chroot", "(Ljava/lang/String;)Ljava/lang/String;"⟩ : MethodName)) hown (mvT hZ (hw _ (mg 69 rfl))) (mvT hZ (hw _ (mg 70 rfl))) (mvT hZ (hw _ (mg 71 rfl))) (mvT hZ (hw _ (mg 72 rfl))) (by decide) (backOfSH (W := 0) (chroot_p l Z a0 hw [] b464 xb_468 kb_468 ([(.int (qB 47)), (.int (qB xc_280)), (.int (qB 47)), (.int (qB 98)), (.int (qB 97)), (.int (qB 114)), (.int (qB 101)), (.int (qB 45)), (.int (qB 108)), (.int (qB 111)), (.int (qB 99)), (.int (qB 107)), (.int (qB 47)), (.int (qB tv_420)), (.int (qB tv_428)), (.int (qB tv_436)), (.int (qB tv_444)), (.int (qB tv_452))]) (14 : Int32) (12 : Int32) (2 : Int32) cs fm T505.heap n0 F521 P0 F522 F523 F524 F525 P1 hcs hfm hl526 hl527 (by decide) (by decide)) hZ (hw _ (mg 72 rfl)) (hw _ (mg 71 rfl)) (by decide) (by decide) hEL F530.1) (g := (mkF m 446 #[qI ia, qI ib, .val (.long ip), .second, qI 2, qI ja, qI xc_280, qI xc_281, .val (.ref b282), .val (.ref b464), .val (.ref b478), qU] [(.ref b464)])) rfl (by rw [hml]; rfl) (argsL := [(.ref b464)]) (rest := []) (lenOf pd_25 rfl) rfl (by show 2 * 0 + _ ≤ _; exact Nat.le_of_eq rfl) (hb hby at_446) (fun _ _ => ⟨rfl, rfl, (by decide : 28 + 6 ≤ _), (by decide : 576 + 88 ≤ _)⟩)
      dsimp only [Pt.U, Pt.locs, Pt.cells, Pt.slots] at X520 l520 y520 z520 st520 hQ520 sn520 gr520 C520
      subst y520 z520
      obtain ⟨X520, hS, hZ, hown⟩ := rebS hS (n1 := T505.heap.size) F529 X520 sn520 gr520 hZ hown
      have hk520 : T520.heap.size ≤ T520.heap.size := Nat.le_refl _
      have A520 := F530.trans C520
      obtain ⟨sb_520, xb_520, kb_520, rfl, N520q, K520, F520_0, F520_1, F520_2, F520_3⟩ := hQ520
      have N520 : Fr n0 L520 := by rw [l520]; exact Fr.app N505 N520q
      have X520 := own_mr X520 34 664 (by decide) (by decide)
      refine Go.tr st520 ?_
      show Go p e below _ (T520.setTop (mkF m 449 #[qI ia, qI ib, .val (.long ip), .second, qI 2, qI ja, qI xc_280, qI xc_281, .val (.ref b282), .val (.ref b464), .val (.ref b478), qU] [(.ref sb_520)]))
      refine Go.by (fun t k => XS.astore X520.here hx rfl (hb hby at_449) rfl rfl (l' := #[qI ia, qI ib, .val (.long ip), .second, qI 2, qI ja, qI xc_280, qI xc_281, .val (.ref b282), .val (.ref b464), .val (.ref b478), .val (.ref sb_520)]) rfl (XS.aload X520.here hx rfl (hb hby at_451) rfl rfl (XS.aload X520.here hx rfl (hb hby at_453) rfl rfl k))) ?_
      show Go p e below _ (T520.setTop (mkF m 455 #[qI ia, qI ib, .val (.long ip), .second, qI 2, qI ja, qI xc_280, qI xc_281, .val (.ref b282), .val (.ref b464), .val (.ref b478), .val (.ref sb_520)] [(.ref b478), (.ref sb_520)]))
      have F531 : Arv Z T520.heap xb_520 kb_520 .byte (2 : Int32) [(.int (qB 47)), (.int (qB xc_280))] (.int 0) := F520_3
      have F533 : Old Z n0 T520.heap := (F521.keep K520 all0)
      have F534 : Exa Z T520.heap b478 "java/lang/String" := (F505_0.keep K520)
      have F535 : Fld Z T520.heap b478 "java/lang/String" "coder" "B" (.int 0) := (F505_1.keep K520 nin0)
      have F536 : Fld Z T520.heap b478 "java/lang/String" "value" "[B" (.ref xb_505) := (F505_2.keep K520 nin0)
      have F537 : Arv Z T520.heap xb_505 kb_505 .byte (2 : Int32) [(.int (qB 47)), (.int (qB xc_280))] (.int 0) := (F505_3.keep K520 nin0)
      have F538 : Keep h0 T520.heap [] := (F528.trans K520 all0)
      obtain ⟨cq532, kq532, q532a, q532b, q532c⟩ := isOf hZ rfl F520_0
      obtain ⟨_, _, ⟨T532, L532, k532, n532⟩, -, X532, ⟨Lc532, hQ532, l532, y532, z532⟩, st532⟩ := X520.virtualBack hx (y := (⟨"java/lang/String", "equals", "(Ljava/lang/Object;)Z"⟩ : MethodName)) (z := (⟨"java/lang/String", "equals", "(Ljava/lang/Object;)Z"⟩ : MethodName)) hown (mvT hZ (hw _ (mg 139 rfl))) (mvT hZ (hw _ (mg 140 rfl))) (notFace_of_selects (args := #[]) (mvT hZ (hw _ (mg 142 rfl)))) (mvT hZ (hw _ (mg 142 rfl))) (mvT hZ (hw _ (mg 141 rfl))) (by decide) (backOf (W := 0) (str_eq l Z a0 hw [] sb_520 b478 xb_520 xb_505 kb_520 kb_505 (2 : Int32) ([(.int (qB 47)), (.int (qB xc_280))]) cs T520.heap n0 F533 P0 F520_0 F520_1 F520_2 F531 F534 F535 F536 F537 hcs) hZ (hw _ (mg 143 rfl)) (hw _ (mg 11 rfl)) (by decide) (by decide)) q532a q532c (g := (mkF m 455 #[qI ia, qI ib, .val (.long ip), .second, qI 2, qI ja, qI xc_280, qI xc_281, .val (.ref b282), .val (.ref b464), .val (.ref b478), .val (.ref sb_520)] [(.ref b478), (.ref sb_520)])) rfl (by rw [hml]; rfl) (Steps.refl _) (argsL := [(.ref b478)]) (rest := []) (lenOf pd_26 rfl) rfl (by show 2 * 0 + _ ≤ _; exact Nat.le_of_eq rfl) (hb hby at_455) (fun _ _ => ⟨rfl, rfl, (by decide : 34 + 0 ≤ _), (by decide : 664 + 0 ≤ _)⟩)
      dsimp only [Pt.U, Pt.locs, Pt.cells, Pt.slots] at X532 l532 y532 z532 st532 hQ532
      subst y532 z532
      obtain ⟨rfl, N532q, e532⟩ := hQ532
      have N532 : Fr n0 L532 := by rw [l532]; exact Fr.app N520 N532q
      have X532 := own_mr X532 34 664 (by decide) (by decide)
      refine Go.tr st532 ?_
      show Go p e below _ (T532.setTop (mkF m 458 #[qI ia, qI ib, .val (.long ip), .second, qI 2, qI ja, qI xc_280, qI xc_281, .val (.ref b282), .val (.ref b464), .val (.ref b478), .val (.ref sb_520)] [(.int 1)]))
      have hq : Q_law Z ia ib ip cs fm h0 n0 (some (.int (nar .boolean (1 : Int32)))) T520.heap _ := ⟨rfl, N532, F538⟩
      exact Go.retNH hS (by rw [e532]; exact hk520) (own_chEnd X532 e532 hZ hEL A520 hh) X532 hx (t := .boolean) Bd.returns (by simp) hlk (hb hby at_458) (by decide) (by decide) (by rw [e532]; exact hq)
    · skip
      have F540 : Old Z n0 T505.heap := (F506.keep K505 (allS ge478 all0))
      have F541 : Exa Z T505.heap b464 "java/lang/String" := (F511.keep K505)
      have F542 : Fld Z T505.heap b464 "java/lang/String" "coder" "B" (.int 0) := (((((F468_1.ext E478).ext E489).other W497 (Or.inl ne491)).other W502 (Or.inl ne491)).keep K505 (ninS ne480 nin0))
      have F543 : Fld Z T505.heap b464 "java/lang/String" "value" "[B" (.ref xb_468) := (((((F468_2.ext E478).ext E489).other W497 (Or.inl ne491)).other W502 (Or.inl ne491)).keep K505 (ninS ne480 nin0))
      have F544 : Arv Z T505.heap xb_468 kb_468 .byte (18 : Int32) [(.int (qB 47)), (.int (qB xc_280)), (.int (qB 47)), (.int (qB 98)), (.int (qB 97)), (.int (qB 114)), (.int (qB 101)), (.int (qB 45)), (.int (qB 108)), (.int (qB 111)), (.int (qB 99)), (.int (qB 107)), (.int (qB 47)), (.int (qB tv_420)), (.int (qB tv_428)), (.int (qB tv_436)), (.int (qB tv_444)), (.int (qB tv_452))] (.int 0) := (F512.keep K505 (ninS ne481 nin0))
      have hl545 : own_last [(.int (qB 47)), (.int (qB xc_280)), (.int (qB 47)), (.int (qB 98)), (.int (qB 97)), (.int (qB 114)), (.int (qB 101)), (.int (qB 45)), (.int (qB 108)), (.int (qB 111)), (.int (qB 99)), (.int (qB 107)), (.int (qB 47)), (.int (qB tv_420)), (.int (qB tv_428)), (.int (qB tv_436)), (.int (qB tv_444)), (.int (qB tv_452))] (18 : Int32) (15 : Int32) := by
        refine ⟨by decide, ?_, ?_⟩
        · show Value.int (qB tv_436) = .int 47; rw [he_436 (by rw [hja]; decide)]; rfl
        · intro q ha1 ha2; have ha1 : 15 < q := ha1; have ha2 : q < 18 := ha2
          rcases (by omega : q = 16 ∨ q = 17) with rfl | rfl
          · exact (own_b47 hr_444 (hn_444 (by rw [hja]; decide)))
          · exact (own_b47 hr_452 (hn_452 (by rw [hja]; decide)))
      have hl546 : own_last (own_tk [(.int (qB 47)), (.int (qB xc_280)), (.int (qB 47)), (.int (qB 98)), (.int (qB 97)), (.int (qB 114)), (.int (qB 101)), (.int (qB 45)), (.int (qB 108)), (.int (qB 111)), (.int (qB 99)), (.int (qB 107)), (.int (qB 47)), (.int (qB tv_420)), (.int (qB tv_428)), (.int (qB tv_436)), (.int (qB tv_444)), (.int (qB tv_452))] (15 : Int32)) (15 : Int32) (12 : Int32) := by
        refine own_last_tk ⟨by decide, rfl, ?_⟩
        intro q ha1 ha2; have ha1 : 12 < q := ha1; have ha2 : q < 15 := ha2
        rcases (by omega : q = 13 ∨ q = 14) with rfl | rfl
        · exact (own_b47 hr_420 (hn_420 (by rw [hja]; decide)))
        · exact (own_b47 hr_428 (hn_428 (by rw [hja]; decide)))
      have F547 : Keep h0 T505.heap [] := (F514.trans K505 (allS (Or.inr sz478) all0))
      have F548 : T409.heap.size ≤ T505.heap.size := (Nat.le_trans (Nat.le_trans (Nat.le_trans (Nat.le_trans (Nat.le_trans (Nat.le_trans (Nat.le_trans (Nat.le_trans (Nat.le_trans (Nat.le_trans (Nat.le_trans (Nat.le_trans (Nat.le_trans hk409 (Nat.le_of_eq W418.size.symm)) (Nat.le_of_eq W426.size.symm)) (Nat.le_of_eq W434.size.symm)) (Nat.le_of_eq W442.size.symm)) (Nat.le_of_eq W450.size.symm)) (Nat.le_of_eq W458.size.symm)) E464.1) K468.1) E478.1) E489.1) (Nat.le_of_eq W497.size.symm)) (Nat.le_of_eq W502.size.symm)) K505.1)
      have F549 : CHr Z own_EL s.vm h0 T409.vm T505.heap := (own_chK (own_chW (own_chW (own_chE (own_chE (own_chK (own_chE (own_chW (own_chW (own_chW (own_chW (own_chW (own_chW A409 W418 (Safe.exa hZ.alike F414 (by decide) (by decide))) W426 (Safe.exa hZ.alike F423 (by decide) (by decide))) W434 (Safe.exa hZ.alike F431 (by decide) (by decide))) W442 (Safe.exa hZ.alike F439 (by decide) (by decide))) W450 (Safe.exa hZ.alike F447 (by decide) (by decide))) W458 (Safe.exa hZ.alike F455 (by decide) (by decide))) E464) K468 (sfS (own_safeNull hZ.alike A464 F466) sf0)) E478) E489) W497 (Safe.exa hZ.alike Q489 (by decide) (by decide))) W502 (Safe.exa hZ.alike F499 (by decide) (by decide))) K505 (sfS (own_safeNull hZ.alike F507 F508) sf0))
      obtain ⟨_, _, ⟨T539, L539, k539, n539⟩, -, X539, sn539, gr539, ⟨Lc539, hQ539, l539, y539, z539, C539⟩, st539⟩ := callSS X505 hx (y := (⟨"com/example/bare_lock/barelock/zookeeper/LockPaths", "chroot", "(Ljava/lang/String;)Ljava/lang/String;"⟩ : MethodName)) hown (mvT hZ (hw _ (mg 69 rfl))) (mvT hZ (hw _ (mg 70 rfl))) (mvT hZ (hw _ (mg 71 rfl))) (mvT hZ (hw _ (mg 72 rfl))) (by decide) (backOfSH (W := 0) (chroot_p l Z a0 hw [] b464 xb_468 kb_468 ([(.int (qB 47)), (.int (qB xc_280)), (.int (qB 47)), (.int (qB 98)), (.int (qB 97)), (.int (qB 114)), (.int (qB 101)), (.int (qB 45)), (.int (qB 108)), (.int (qB 111)), (.int (qB 99)), (.int (qB 107)), (.int (qB 47)), (.int (qB tv_420)), (.int (qB tv_428)), (.int (qB tv_436)), (.int (qB tv_444)), (.int (qB tv_452))]) (15 : Int32) (12 : Int32) (2 : Int32) cs fm T505.heap n0 F540 P0 F541 F542 F543 F544 P1 hcs hfm hl545 hl546 (by decide) (by decide)) hZ (hw _ (mg 72 rfl)) (hw _ (mg 71 rfl)) (by decide) (by decide) hEL F549.1) (g := (mkF m 446 #[qI ia, qI ib, .val (.long ip), .second, qI 2, qI ja, qI xc_280, qI xc_281, .val (.ref b282), .val (.ref b464), .val (.ref b478), qU] [(.ref b464)])) rfl (by rw [hml]; rfl) (argsL := [(.ref b464)]) (rest := []) (lenOf pd_25 rfl) rfl (by show 2 * 0 + _ ≤ _; exact Nat.le_of_eq rfl) (hb hby at_446) (fun _ _ => ⟨rfl, rfl, (by decide : 28 + 6 ≤ _), (by decide : 576 + 88 ≤ _)⟩)
      dsimp only [Pt.U, Pt.locs, Pt.cells, Pt.slots] at X539 l539 y539 z539 st539 hQ539 sn539 gr539 C539
      subst y539 z539
      obtain ⟨X539, hS, hZ, hown⟩ := rebS hS (n1 := T505.heap.size) F548 X539 sn539 gr539 hZ hown
      have hk539 : T539.heap.size ≤ T539.heap.size := Nat.le_refl _
      have A539 := F549.trans C539
      obtain ⟨sb_539, xb_539, kb_539, rfl, N539q, K539, F539_0, F539_1, F539_2, F539_3⟩ := hQ539
      have N539 : Fr n0 L539 := by rw [l539]; exact Fr.app N505 N539q
      have X539 := own_mr X539 34 664 (by decide) (by decide)
      refine Go.tr st539 ?_
      show Go p e below _ (T539.setTop (mkF m 449 #[qI ia, qI ib, .val (.long ip), .second, qI 2, qI ja, qI xc_280, qI xc_281, .val (.ref b282), .val (.ref b464), .val (.ref b478), qU] [(.ref sb_539)]))
      refine Go.by (fun t k => XS.astore X539.here hx rfl (hb hby at_449) rfl rfl (l' := #[qI ia, qI ib, .val (.long ip), .second, qI 2, qI ja, qI xc_280, qI xc_281, .val (.ref b282), .val (.ref b464), .val (.ref b478), .val (.ref sb_539)]) rfl (XS.aload X539.here hx rfl (hb hby at_451) rfl rfl (XS.aload X539.here hx rfl (hb hby at_453) rfl rfl k))) ?_
      show Go p e below _ (T539.setTop (mkF m 455 #[qI ia, qI ib, .val (.long ip), .second, qI 2, qI ja, qI xc_280, qI xc_281, .val (.ref b282), .val (.ref b464), .val (.ref b478), .val (.ref sb_539)] [(.ref b478), (.ref sb_539)]))
      have F550 : Arv Z T539.heap xb_539 kb_539 .byte (2 : Int32) [(.int (qB 47)), (.int (qB xc_280))] (.int 0) := F539_3
      have F552 : Old Z n0 T539.heap := (F540.keep K539 all0)
      have F553 : Exa Z T539.heap b478 "java/lang/String" := (F505_0.keep K539)
      have F554 : Fld Z T539.heap b478 "java/lang/String" "coder" "B" (.int 0) := (F505_1.keep K539 nin0)
      have F555 : Fld Z T539.heap b478 "java/lang/String" "value" "[B" (.ref xb_505) := (F505_2.keep K539 nin0)
      have F556 : Arv Z T539.heap xb_505 kb_505 .byte (2 : Int32) [(.int (qB 47)), (.int (qB xc_280))] (.int 0) := (F505_3.keep K539 nin0)
      have F557 : Keep h0 T539.heap [] := (F547.trans K539 all0)
      obtain ⟨cq551, kq551, q551a, q551b, q551c⟩ := isOf hZ rfl F539_0
      obtain ⟨_, _, ⟨T551, L551, k551, n551⟩, -, X551, ⟨Lc551, hQ551, l551, y551, z551⟩, st551⟩ := X539.virtualBack hx (y := (⟨"java/lang/String", "equals", "(Ljava/lang/Object;)Z"⟩ : MethodName)) (z := (⟨"java/lang/String", "equals", "(Ljava/lang/Object;)Z"⟩ : MethodName)) hown (mvT hZ (hw _ (mg 139 rfl))) (mvT hZ (hw _ (mg 140 rfl))) (notFace_of_selects (args := #[]) (mvT hZ (hw _ (mg 142 rfl)))) (mvT hZ (hw _ (mg 142 rfl))) (mvT hZ (hw _ (mg 141 rfl))) (by decide) (backOf (W := 0) (str_eq l Z a0 hw [] sb_539 b478 xb_539 xb_505 kb_539 kb_505 (2 : Int32) ([(.int (qB 47)), (.int (qB xc_280))]) cs T539.heap n0 F552 P0 F539_0 F539_1 F539_2 F550 F553 F554 F555 F556 hcs) hZ (hw _ (mg 143 rfl)) (hw _ (mg 11 rfl)) (by decide) (by decide)) q551a q551c (g := (mkF m 455 #[qI ia, qI ib, .val (.long ip), .second, qI 2, qI ja, qI xc_280, qI xc_281, .val (.ref b282), .val (.ref b464), .val (.ref b478), .val (.ref sb_539)] [(.ref b478), (.ref sb_539)])) rfl (by rw [hml]; rfl) (Steps.refl _) (argsL := [(.ref b478)]) (rest := []) (lenOf pd_26 rfl) rfl (by show 2 * 0 + _ ≤ _; exact Nat.le_of_eq rfl) (hb hby at_455) (fun _ _ => ⟨rfl, rfl, (by decide : 34 + 0 ≤ _), (by decide : 664 + 0 ≤ _)⟩)
      dsimp only [Pt.U, Pt.locs, Pt.cells, Pt.slots] at X551 l551 y551 z551 st551 hQ551
      subst y551 z551
      obtain ⟨rfl, N551q, e551⟩ := hQ551
      have N551 : Fr n0 L551 := by rw [l551]; exact Fr.app N539 N551q
      have X551 := own_mr X551 34 664 (by decide) (by decide)
      refine Go.tr st551 ?_
      show Go p e below _ (T551.setTop (mkF m 458 #[qI ia, qI ib, .val (.long ip), .second, qI 2, qI ja, qI xc_280, qI xc_281, .val (.ref b282), .val (.ref b464), .val (.ref b478), .val (.ref sb_539)] [(.int 1)]))
      have hq : Q_law Z ia ib ip cs fm h0 n0 (some (.int (nar .boolean (1 : Int32)))) T539.heap _ := ⟨rfl, N551, F557⟩
      exact Go.retNH hS (by rw [e551]; exact hk539) (own_chEnd X551 e551 hZ hEL A539 hh) X551 hx (t := .boolean) Bd.returns (by simp) hlk (hb hby at_458) (by decide) (by decide) (by rw [e551]; exact hq)
    · skip
      have F559 : Old Z n0 T505.heap := (F506.keep K505 (allS ge478 all0))
      have F560 : Exa Z T505.heap b464 "java/lang/String" := (F511.keep K505)
      have F561 : Fld Z T505.heap b464 "java/lang/String" "coder" "B" (.int 0) := (((((F468_1.ext E478).ext E489).other W497 (Or.inl ne491)).other W502 (Or.inl ne491)).keep K505 (ninS ne480 nin0))
      have F562 : Fld Z T505.heap b464 "java/lang/String" "value" "[B" (.ref xb_468) := (((((F468_2.ext E478).ext E489).other W497 (Or.inl ne491)).other W502 (Or.inl ne491)).keep K505 (ninS ne480 nin0))
      have F563 : Arv Z T505.heap xb_468 kb_468 .byte (18 : Int32) [(.int (qB 47)), (.int (qB xc_280)), (.int (qB 47)), (.int (qB 98)), (.int (qB 97)), (.int (qB 114)), (.int (qB 101)), (.int (qB 45)), (.int (qB 108)), (.int (qB 111)), (.int (qB 99)), (.int (qB 107)), (.int (qB 47)), (.int (qB tv_420)), (.int (qB tv_428)), (.int (qB tv_436)), (.int (qB tv_444)), (.int (qB tv_452))] (.int 0) := (F512.keep K505 (ninS ne481 nin0))
      have hl564 : own_last [(.int (qB 47)), (.int (qB xc_280)), (.int (qB 47)), (.int (qB 98)), (.int (qB 97)), (.int (qB 114)), (.int (qB 101)), (.int (qB 45)), (.int (qB 108)), (.int (qB 111)), (.int (qB 99)), (.int (qB 107)), (.int (qB 47)), (.int (qB tv_420)), (.int (qB tv_428)), (.int (qB tv_436)), (.int (qB tv_444)), (.int (qB tv_452))] (18 : Int32) (16 : Int32) := by
        refine ⟨by decide, ?_, ?_⟩
        · show Value.int (qB tv_444) = .int 47; rw [he_444 (by rw [hja]; decide)]; rfl
        · intro q ha1 ha2; have ha1 : 16 < q := ha1; have ha2 : q < 18 := ha2
          rcases (by omega : q = 17) with rfl
          · exact (own_b47 hr_452 (hn_452 (by rw [hja]; decide)))
      have hl565 : own_last (own_tk [(.int (qB 47)), (.int (qB xc_280)), (.int (qB 47)), (.int (qB 98)), (.int (qB 97)), (.int (qB 114)), (.int (qB 101)), (.int (qB 45)), (.int (qB 108)), (.int (qB 111)), (.int (qB 99)), (.int (qB 107)), (.int (qB 47)), (.int (qB tv_420)), (.int (qB tv_428)), (.int (qB tv_436)), (.int (qB tv_444)), (.int (qB tv_452))] (16 : Int32)) (16 : Int32) (12 : Int32) := by
        refine own_last_tk ⟨by decide, rfl, ?_⟩
        intro q ha1 ha2; have ha1 : 12 < q := ha1; have ha2 : q < 16 := ha2
        rcases (by omega : q = 13 ∨ q = 14 ∨ q = 15) with rfl | rfl | rfl
        · exact (own_b47 hr_420 (hn_420 (by rw [hja]; decide)))
        · exact (own_b47 hr_428 (hn_428 (by rw [hja]; decide)))
        · exact (own_b47 hr_436 (hn_436 (by rw [hja]; decide)))
      have F566 : Keep h0 T505.heap [] := (F514.trans K505 (allS (Or.inr sz478) all0))
      have F567 : T409.heap.size ≤ T505.heap.size := (Nat.le_trans (Nat.le_trans (Nat.le_trans (Nat.le_trans (Nat.le_trans (Nat.le_trans (Nat.le_trans (Nat.le_trans (Nat.le_trans (Nat.le_trans (Nat.le_trans (Nat.le_trans (Nat.le_trans hk409 (Nat.le_of_eq W418.size.symm)) (Nat.le_of_eq W426.size.symm)) (Nat.le_of_eq W434.size.symm)) (Nat.le_of_eq W442.size.symm)) (Nat.le_of_eq W450.size.symm)) (Nat.le_of_eq W458.size.symm)) E464.1) K468.1) E478.1) E489.1) (Nat.le_of_eq W497.size.symm)) (Nat.le_of_eq W502.size.symm)) K505.1)
      have F568 : CHr Z own_EL s.vm h0 T409.vm T505.heap := (own_chK (own_chW (own_chW (own_chE (own_chE (own_chK (own_chE (own_chW (own_chW (own_chW (own_chW (own_chW (own_chW A409 W418 (Safe.exa hZ.alike F414 (by decide) (by decide))) W426 (Safe.exa hZ.alike F423 (by decide) (by decide))) W434 (Safe.exa hZ.alike F431 (by decide) (by decide))) W442 (Safe.exa hZ.alike F439 (by decide) (by decide))) W450 (Safe.exa hZ.alike F447 (by decide) (by decide))) W458 (Safe.exa hZ.alike F455 (by decide) (by decide))) E464) K468 (sfS (own_safeNull hZ.alike A464 F466) sf0)) E478) E489) W497 (Safe.exa hZ.alike Q489 (by decide) (by decide))) W502 (Safe.exa hZ.alike F499 (by decide) (by decide))) K505 (sfS (own_safeNull hZ.alike F507 F508) sf0))
      obtain ⟨_, _, ⟨T558, L558, k558, n558⟩, -, X558, sn558, gr558, ⟨Lc558, hQ558, l558, y558, z558, C558⟩, st558⟩ := callSS X505 hx (y := (⟨"com/example/bare_lock/barelock/zookeeper/LockPaths", "chroot", "(Ljava/lang/String;)Ljava/lang/String;"⟩ : MethodName)) hown (mvT hZ (hw _ (mg 69 rfl))) (mvT hZ (hw _ (mg 70 rfl))) (mvT hZ (hw _ (mg 71 rfl))) (mvT hZ (hw _ (mg 72 rfl))) (by decide) (backOfSH (W := 0) (chroot_p l Z a0 hw [] b464 xb_468 kb_468 ([(.int (qB 47)), (.int (qB xc_280)), (.int (qB 47)), (.int (qB 98)), (.int (qB 97)), (.int (qB 114)), (.int (qB 101)), (.int (qB 45)), (.int (qB 108)), (.int (qB 111)), (.int (qB 99)), (.int (qB 107)), (.int (qB 47)), (.int (qB tv_420)), (.int (qB tv_428)), (.int (qB tv_436)), (.int (qB tv_444)), (.int (qB tv_452))]) (16 : Int32) (12 : Int32) (2 : Int32) cs fm T505.heap n0 F559 P0 F560 F561 F562 F563 P1 hcs hfm hl564 hl565 (by decide) (by decide)) hZ (hw _ (mg 72 rfl)) (hw _ (mg 71 rfl)) (by decide) (by decide) hEL F568.1) (g := (mkF m 446 #[qI ia, qI ib, .val (.long ip), .second, qI 2, qI ja, qI xc_280, qI xc_281, .val (.ref b282), .val (.ref b464), .val (.ref b478), qU] [(.ref b464)])) rfl (by rw [hml]; rfl) (argsL := [(.ref b464)]) (rest := []) (lenOf pd_25 rfl) rfl (by show 2 * 0 + _ ≤ _; exact Nat.le_of_eq rfl) (hb hby at_446) (fun _ _ => ⟨rfl, rfl, (by decide : 28 + 6 ≤ _), (by decide : 576 + 88 ≤ _)⟩)
      dsimp only [Pt.U, Pt.locs, Pt.cells, Pt.slots] at X558 l558 y558 z558 st558 hQ558 sn558 gr558 C558
      subst y558 z558
      obtain ⟨X558, hS, hZ, hown⟩ := rebS hS (n1 := T505.heap.size) F567 X558 sn558 gr558 hZ hown
      have hk558 : T558.heap.size ≤ T558.heap.size := Nat.le_refl _
      have A558 := F568.trans C558
      obtain ⟨sb_558, xb_558, kb_558, rfl, N558q, K558, F558_0, F558_1, F558_2, F558_3⟩ := hQ558
      have N558 : Fr n0 L558 := by rw [l558]; exact Fr.app N505 N558q
      have X558 := own_mr X558 34 664 (by decide) (by decide)
      refine Go.tr st558 ?_
      show Go p e below _ (T558.setTop (mkF m 449 #[qI ia, qI ib, .val (.long ip), .second, qI 2, qI ja, qI xc_280, qI xc_281, .val (.ref b282), .val (.ref b464), .val (.ref b478), qU] [(.ref sb_558)]))
      refine Go.by (fun t k => XS.astore X558.here hx rfl (hb hby at_449) rfl rfl (l' := #[qI ia, qI ib, .val (.long ip), .second, qI 2, qI ja, qI xc_280, qI xc_281, .val (.ref b282), .val (.ref b464), .val (.ref b478), .val (.ref sb_558)]) rfl (XS.aload X558.here hx rfl (hb hby at_451) rfl rfl (XS.aload X558.here hx rfl (hb hby at_453) rfl rfl k))) ?_
      show Go p e below _ (T558.setTop (mkF m 455 #[qI ia, qI ib, .val (.long ip), .second, qI 2, qI ja, qI xc_280, qI xc_281, .val (.ref b282), .val (.ref b464), .val (.ref b478), .val (.ref sb_558)] [(.ref b478), (.ref sb_558)]))
      have F569 : Arv Z T558.heap xb_558 kb_558 .byte (2 : Int32) [(.int (qB 47)), (.int (qB xc_280))] (.int 0) := F558_3
      have F571 : Old Z n0 T558.heap := (F559.keep K558 all0)
      have F572 : Exa Z T558.heap b478 "java/lang/String" := (F505_0.keep K558)
      have F573 : Fld Z T558.heap b478 "java/lang/String" "coder" "B" (.int 0) := (F505_1.keep K558 nin0)
      have F574 : Fld Z T558.heap b478 "java/lang/String" "value" "[B" (.ref xb_505) := (F505_2.keep K558 nin0)
      have F575 : Arv Z T558.heap xb_505 kb_505 .byte (2 : Int32) [(.int (qB 47)), (.int (qB xc_280))] (.int 0) := (F505_3.keep K558 nin0)
      have F576 : Keep h0 T558.heap [] := (F566.trans K558 all0)
      obtain ⟨cq570, kq570, q570a, q570b, q570c⟩ := isOf hZ rfl F558_0
      obtain ⟨_, _, ⟨T570, L570, k570, n570⟩, -, X570, ⟨Lc570, hQ570, l570, y570, z570⟩, st570⟩ := X558.virtualBack hx (y := (⟨"java/lang/String", "equals", "(Ljava/lang/Object;)Z"⟩ : MethodName)) (z := (⟨"java/lang/String", "equals", "(Ljava/lang/Object;)Z"⟩ : MethodName)) hown (mvT hZ (hw _ (mg 139 rfl))) (mvT hZ (hw _ (mg 140 rfl))) (notFace_of_selects (args := #[]) (mvT hZ (hw _ (mg 142 rfl)))) (mvT hZ (hw _ (mg 142 rfl))) (mvT hZ (hw _ (mg 141 rfl))) (by decide) (backOf (W := 0) (str_eq l Z a0 hw [] sb_558 b478 xb_558 xb_505 kb_558 kb_505 (2 : Int32) ([(.int (qB 47)), (.int (qB xc_280))]) cs T558.heap n0 F571 P0 F558_0 F558_1 F558_2 F569 F572 F573 F574 F575 hcs) hZ (hw _ (mg 143 rfl)) (hw _ (mg 11 rfl)) (by decide) (by decide)) q570a q570c (g := (mkF m 455 #[qI ia, qI ib, .val (.long ip), .second, qI 2, qI ja, qI xc_280, qI xc_281, .val (.ref b282), .val (.ref b464), .val (.ref b478), .val (.ref sb_558)] [(.ref b478), (.ref sb_558)])) rfl (by rw [hml]; rfl) (Steps.refl _) (argsL := [(.ref b478)]) (rest := []) (lenOf pd_26 rfl) rfl (by show 2 * 0 + _ ≤ _; exact Nat.le_of_eq rfl) (hb hby at_455) (fun _ _ => ⟨rfl, rfl, (by decide : 34 + 0 ≤ _), (by decide : 664 + 0 ≤ _)⟩)
      dsimp only [Pt.U, Pt.locs, Pt.cells, Pt.slots] at X570 l570 y570 z570 st570 hQ570
      subst y570 z570
      obtain ⟨rfl, N570q, e570⟩ := hQ570
      have N570 : Fr n0 L570 := by rw [l570]; exact Fr.app N558 N570q
      have X570 := own_mr X570 34 664 (by decide) (by decide)
      refine Go.tr st570 ?_
      show Go p e below _ (T570.setTop (mkF m 458 #[qI ia, qI ib, .val (.long ip), .second, qI 2, qI ja, qI xc_280, qI xc_281, .val (.ref b282), .val (.ref b464), .val (.ref b478), .val (.ref sb_558)] [(.int 1)]))
      have hq : Q_law Z ia ib ip cs fm h0 n0 (some (.int (nar .boolean (1 : Int32)))) T558.heap _ := ⟨rfl, N570, F576⟩
      exact Go.retNH hS (by rw [e570]; exact hk558) (own_chEnd X570 e570 hZ hEL A558 hh) X570 hx (t := .boolean) Bd.returns (by simp) hlk (hb hby at_458) (by decide) (by decide) (by rw [e570]; exact hq)
  · skip
    rw [show s₁.setTop (mkF m 8 #[qI ia, qI ib, .val (.long ip), .second, qU, qU, qU, qU, qU, qU, qU, qU] [(.int ((2 : Int32) * ((ia &&& (2147483647 : Int32)) % (3 : Int32))))]) = s₁.setTop (mkF m 8 #[qI ia, qI ib, .val (.long ip), .second, qU, qU, qU, qU, qU, qU, qU, qU] [(.int 4)]) from by rw [hk]]
    show Go p e below _ (s₁.setTop (mkF m 8 #[qI ia, qI ib, .val (.long ip), .second, qU, qU, qU, qU, qU, qU, qU, qU] [(.int 4)]))
    refine Go.by (fun t k => XS.istore X0.here hx rfl (hb hby at_8) rfl (l' := #[qI ia, qI ib, .val (.long ip), .second, qI 4, qU, qU, qU, qU, qU, qU, qU]) rfl (XS.iconst X0.here hx rfl (hb hby at_10) (XS.iloadN X0.here hx rfl (hb hby at_11) rfl (XS.iconst X0.here hx rfl (hb hby at_12) (XS.iushr X0.here hx rfl (hb hby at_13) rfl k))))) ?_
    show Go p e below _ (s₁.setTop (mkF m 14 #[qI ia, qI ib, .val (.long ip), .second, qI 4, qU, qU, qU, qU, qU, qU, qU] [(.int ((ia.toUInt32 >>> ((4 : Int32) &&& 31).toUInt32).toInt32)), (.int 1)]))
    refine Go.by (fun t k => X0.ldcInt hx hown (mvT hZ (hw _ (mg 1 rfl))) (g := (mkF m 14 #[qI ia, qI ib, .val (.long ip), .second, qI 4, qU, qU, qU, qU, qU, qU, qU] [(.int ((ia.toUInt32 >>> ((4 : Int32) &&& 31).toUInt32).toInt32)), (.int 1)])) rfl (hb hby at_14) t k) ?_
    show Go p e below _ (s₁.setTop (mkF m 16 #[qI ia, qI ib, .val (.long ip), .second, qI 4, qU, qU, qU, qU, qU, qU, qU] [(.int 65535), (.int ((ia.toUInt32 >>> ((4 : Int32) &&& 31).toUInt32).toInt32)), (.int 1)]))
    refine Go.by (fun t k => XS.iand X0.here hx rfl (hb hby at_16) rfl (XS.iconst X0.here hx rfl (hb hby at_17) (XS.iload X0.here hx rfl (hb hby at_18) rfl (XS.isub X0.here hx rfl (hb hby at_20) rfl k)))) ?_
    show Go p e below _ (s₁.setTop (mkF m 21 #[qI ia, qI ib, .val (.long ip), .second, qI 4, qU, qU, qU, qU, qU, qU, qU] [(.int 1), (.int (((ia.toUInt32 >>> ((4 : Int32) &&& 31).toUInt32).toInt32) &&& (65535 : Int32))), (.int 1)]))
    refine Go.by (fun t k => iremM X0 hx rfl (hb hby at_21) rfl (by decide) k) ?_
    show Go p e below _ (s₁.setTop (mkF m 22 #[qI ia, qI ib, .val (.long ip), .second, qI 4, qU, qU, qU, qU, qU, qU, qU] [(.int ((((ia.toUInt32 >>> ((4 : Int32) &&& 31).toUInt32).toInt32) &&& (65535 : Int32)) % (1 : Int32))), (.int 1)]))
    refine Go.by (fun t k => XS.iadd X0.here hx rfl (hb hby at_22) rfl k) ?_
    show Go p e below _ (s₁.setTop (mkF m 23 #[qI ia, qI ib, .val (.long ip), .second, qI 4, qU, qU, qU, qU, qU, qU, qU] [(.int ((1 : Int32) + ((((ia.toUInt32 >>> ((4 : Int32) &&& 31).toUInt32).toInt32) &&& (65535 : Int32)) % (1 : Int32))))]))
    obtain ⟨ja, e_ja⟩ : ∃ q : Int32, q = ((1 : Int32) + ((((ia.toUInt32 >>> ((4 : Int32) &&& 31).toUInt32).toInt32) &&& (65535 : Int32)) % (1 : Int32))) := ⟨_, rfl⟩
    have hja : ja = (1 : Int32) := by rw [e_ja]; exact own_a1 _
    rw [show s₁.setTop (mkF m 23 #[qI ia, qI ib, .val (.long ip), .second, qI 4, qU, qU, qU, qU, qU, qU, qU] [(.int ((1 : Int32) + ((((ia.toUInt32 >>> ((4 : Int32) &&& 31).toUInt32).toInt32) &&& (65535 : Int32)) % (1 : Int32))))]) = s₁.setTop (mkF m 23 #[qI ia, qI ib, .val (.long ip), .second, qI 4, qU, qU, qU, qU, qU, qU, qU] [(.int ja)]) from by rw [e_ja]]
    show Go p e below _ (s₁.setTop (mkF m 23 #[qI ia, qI ib, .val (.long ip), .second, qI 4, qU, qU, qU, qU, qU, qU, qU] [(.int ja)]))
    refine Go.by (fun t k => XS.istore X0.here hx rfl (hb hby at_23) rfl (l' := #[qI ia, qI ib, .val (.long ip), .second, qI 4, qI ja, qU, qU, qU, qU, qU, qU]) rfl (XS.iloadN X0.here hx rfl (hb hby at_25) rfl k)) ?_
    show Go p e below _ (s₁.setTop (mkF m 26 #[qI ia, qI ib, .val (.long ip), .second, qI 4, qI ja, qU, qU, qU, qU, qU, qU] [(.int ib)]))
    obtain ⟨_, _, ⟨T577, L577, k577, n577⟩, -, X577, ⟨Lc577, hQ577, l577, y577, z577⟩, st577⟩ := Jvm.LawKit.callS X0 hx (y := (⟨"com/example/bare_lock/barelock/zookeeper/LockPathsChrootPinLaw", "chrootChar", "(I)C"⟩ : MethodName)) hown (mvT hZ (hw _ (mg 2 rfl))) (mvT hZ (hw _ (mg 3 rfl))) (mvT hZ (hw _ (mg 4 rfl))) (mvT hZ (hw _ (mg 5 rfl))) (by decide) (backOf (W := 0) (cchar l Z a0 hw [] ib h0 n0 O0) hZ (hw _ (mg 5 rfl)) (hw _ (mg 4 rfl)) (by decide) (by decide)) (g := (mkF m 26 #[qI ia, qI ib, .val (.long ip), .second, qI 4, qI ja, qU, qU, qU, qU, qU, qU] [(.int ib)])) rfl (by rw [hml]; rfl) (argsL := [(.int ib)]) (rest := []) (lenOf pd_4 rfl) rfl (by show 2 * 0 + _ ≤ _; exact Nat.le_of_eq rfl) (hb hby at_26) (fun _ _ => ⟨rfl, e0, (by decide : 0 + 0 ≤ _), (by decide : 0 + 0 ≤ _)⟩)
    dsimp only [Pt.U, Pt.locs, Pt.cells, Pt.slots] at X577 l577 y577 z577 st577 hQ577
    subst y577 z577
    obtain ⟨xc_577, rfl, N577q, e577, hxx_577⟩ := hQ577
    have N577 : Fr n0 L577 := by rw [l577]; exact Fr.app N0 N577q
    have X577 := own_mr X577 0 0 (by decide) (by decide)
    refine Go.by st577 ?_
    show Go p e below _ (T577.setTop (mkF m 29 #[qI ia, qI ib, .val (.long ip), .second, qI 4, qI ja, qU, qU, qU, qU, qU, qU] [(.int xc_577)]))
    refine Go.by (fun t k => XS.istore X577.here hx rfl (hb hby at_29) rfl (l' := #[qI ia, qI ib, .val (.long ip), .second, qI 4, qI ja, qI xc_577, qU, qU, qU, qU, qU]) rfl (XS.iloadN X577.here hx rfl (hb hby at_31) rfl (XS.bipush X577.here hx rfl (hb hby at_32) (XS.iushr X577.here hx rfl (hb hby at_34) rfl k)))) ?_
    show Go p e below _ (T577.setTop (mkF m 35 #[qI ia, qI ib, .val (.long ip), .second, qI 4, qI ja, qI xc_577, qU, qU, qU, qU, qU] [(.int ((ib.toUInt32 >>> ((8 : Int32) &&& 31).toUInt32).toInt32))]))
    obtain ⟨_, _, ⟨T578, L578, k578, n578⟩, -, X578, ⟨Lc578, hQ578, l578, y578, z578⟩, st578⟩ := Jvm.LawKit.callS X577 hx (y := (⟨"com/example/bare_lock/barelock/zookeeper/LockPathsChrootPinLaw", "chrootChar", "(I)C"⟩ : MethodName)) hown (mvT hZ (hw _ (mg 2 rfl))) (mvT hZ (hw _ (mg 3 rfl))) (mvT hZ (hw _ (mg 4 rfl))) (mvT hZ (hw _ (mg 5 rfl))) (by decide) (backOf (W := 0) (cchar l Z a0 hw [] ((ib.toUInt32 >>> ((8 : Int32) &&& 31).toUInt32).toInt32) h0 n0 O0) hZ (hw _ (mg 5 rfl)) (hw _ (mg 4 rfl)) (by decide) (by decide)) (g := (mkF m 35 #[qI ia, qI ib, .val (.long ip), .second, qI 4, qI ja, qI xc_577, qU, qU, qU, qU, qU] [(.int ((ib.toUInt32 >>> ((8 : Int32) &&& 31).toUInt32).toInt32))])) rfl (by rw [hml]; rfl) (argsL := [(.int ((ib.toUInt32 >>> ((8 : Int32) &&& 31).toUInt32).toInt32))]) (rest := []) (lenOf pd_4 rfl) rfl (by show 2 * 0 + _ ≤ _; exact Nat.le_of_eq rfl) (hb hby at_35) (fun _ _ => ⟨rfl, e577, (by decide : 0 + 0 ≤ _), (by decide : 0 + 0 ≤ _)⟩)
    dsimp only [Pt.U, Pt.locs, Pt.cells, Pt.slots] at X578 l578 y578 z578 st578 hQ578
    subst y578 z578
    obtain ⟨xc_578, rfl, N578q, e578, hxx_578⟩ := hQ578
    have N578 : Fr n0 L578 := by rw [l578]; exact Fr.app N577 N578q
    have X578 := own_mr X578 0 0 (by decide) (by decide)
    refine Go.by st578 ?_
    show Go p e below _ (T578.setTop (mkF m 38 #[qI ia, qI ib, .val (.long ip), .second, qI 4, qI ja, qI xc_577, qU, qU, qU, qU, qU] [(.int xc_578)]))
    refine Go.by (fun t k => XS.istore X578.here hx rfl (hb hby at_38) rfl (l' := #[qI ia, qI ib, .val (.long ip), .second, qI 4, qI ja, qI xc_577, qI xc_578, qU, qU, qU, qU]) rfl (XS.bipush X578.here hx rfl (hb hby at_40) k)) ?_
    show Go p e below _ (T578.setTop (mkF m 42 #[qI ia, qI ib, .val (.long ip), .second, qI 4, qI ja, qI xc_577, qI xc_578, qU, qU, qU, qU] [(.int 18)]))
    obtain ⟨T579, h579, k579, X579, e579, E579, A579, Q579, st579⟩ := newPE X578 hx hZ (hw _ (mg 6 rfl)) e578 (g := (mkF m 42 #[qI ia, qI ib, .val (.long ip), .second, qI 4, qI ja, qI xc_577, qI xc_578, qU, qU, qU, qU] [(.int 18)])) rfl (hb hby at_42) rfl (by decide) (cap := 18) (by decide) (by decide) (by decide) (by decide) (ad := "[C") (by decide)
    obtain ⟨b579, g579⟩ : ∃ z, z = h0.size := ⟨_, rfl⟩
    rw [← g579] at A579 Q579 st579
    have gl579 : h0.size ≤ b579 := Nat.le_of_eq g579.symm
    have ge579 : n0 ≤ b579 := Nat.le_trans (own_old_size O0) gl579
    have sz579 : h0.size ≤ b579 := Nat.le_trans (Keep.refl h0 []).1 gl579
    have F580 : Arv Z h579 b579 k579 .char (18 : Int32) [(.int 0), (.int 0), (.int 0), (.int 0), (.int 0), (.int 0), (.int 0), (.int 0), (.int 0), (.int 0), (.int 0), (.int 0), (.int 0), (.int 0), (.int 0), (.int 0), (.int 0), (.int 0)] (.int 0) := (Arv.new A579 (by decide)).pad (pad_rep [] (.int 0) 18)
    refine Go.by st579 ?_
    show Go p e below _ (T579.setTop (mkF m 44 #[qI ia, qI ib, .val (.long ip), .second, qI 4, qI ja, qI xc_577, qI xc_578, qU, qU, qU, qU] [(.ref b579)]))
    refine Go.by (fun t k => XS.dup X579.here hx rfl (hb hby at_44) rfl rfl (XS.iconst X579.here hx rfl (hb hby at_45) (XS.iconst X579.here hx rfl (hb hby at_46) (XS.iload X579.here hx rfl (hb hby at_47) rfl (XS.iload X579.here hx rfl (hb hby at_49) rfl (XS.iload X579.here hx rfl (hb hby at_51) rfl (XS.iload X579.here hx rfl (hb hby at_53) rfl (XS.lloadN X579.here hx rfl (hb hby at_55) rfl k)))))))) ?_
    show Go p e below _ (T579.setTop (mkF m 56 #[qI ia, qI ib, .val (.long ip), .second, qI 4, qI ja, qI xc_577, qI xc_578, qU, qU, qU, qU] [(.long ip), (.int xc_578), (.int xc_577), (.int ja), (.int 4), (.int 0), (.int 0), (.ref b579), (.ref b579)]))
    have F582 : Old Z n0 h579 := (O0.ext E579)
    have F583 : Keep h0 h579 [] := ((Keep.refl h0 []).ext E579)
    obtain ⟨_, _, ⟨T581, L581, k581, n581⟩, -, X581, ⟨Lc581, hQ581, l581, y581, z581⟩, st581⟩ := Jvm.LawKit.callS X579 hx (y := (⟨"com/example/bare_lock/barelock/zookeeper/LockPathsChrootPinLaw", "at", "(IIICCJ)C"⟩ : MethodName)) hown (mvT hZ (hw _ (mg 7 rfl))) (mvT hZ (hw _ (mg 8 rfl))) (mvT hZ (hw _ (mg 4 rfl))) (mvT hZ (hw _ (mg 9 rfl))) (by decide) (backOf (W := 3) (at_s l Z a0 hw [] (0 : Int32) (4 : Int32) ja xc_577 xc_578 ip h579 n0 F582 (by decide) (by decide) (by decide)) hZ (hw _ (mg 9 rfl)) (hw _ (mg 4 rfl)) (by decide) (by decide)) (g := (mkF m 56 #[qI ia, qI ib, .val (.long ip), .second, qI 4, qI ja, qI xc_577, qI xc_578, qU, qU, qU, qU] [(.long ip), (.int xc_578), (.int xc_577), (.int ja), (.int 4), (.int 0), (.int 0), (.ref b579), (.ref b579)])) rfl (by rw [hml]; rfl) (argsL := [(.int 0), (.int 4), (.int ja), (.int xc_577), (.int xc_578), (.long ip)]) (rest := [(.int 0), (.ref b579), (.ref b579)]) (lenOf pd_23 rfl) rfl (by show 2 * 0 + _ ≤ _; exact Nat.le_of_eq rfl) (hb hby at_56) (fun _ _ => ⟨rfl, e579, (by decide : 1 + 0 ≤ _), (by decide : 18 + 0 ≤ _)⟩)
    dsimp only [Pt.U, Pt.locs, Pt.cells, Pt.slots] at X581 l581 y581 z581 st581 hQ581
    subst y581 z581
    obtain ⟨rfl, N581q, e581⟩ := hQ581
    have N581 : Fr n0 L581 := by rw [l581]; exact Fr.app N578 N581q
    have X581 := own_mr X581 1 18 (by decide) (by decide)
    refine Go.by st581 ?_
    show Go p e below _ (T581.setTop (mkF m 59 #[qI ia, qI ib, .val (.long ip), .second, qI 4, qI ja, qI xc_577, qI xc_578, qU, qU, qU, qU] [(.int 47), (.int 0), (.ref b579), (.ref b579)]))
    obtain ⟨cl584, Ar584, qk584, sz584, nn584, Ha584, Gf584⟩ := id F580
    have hin585 : ¬ ((0 : Int32) < 0 ∨ cl584.slots.size ≤ ((0 : Int32)).toNatClampNeg) := inb_of sz584 ⟨by decide, by decide⟩
    obtain ⟨T586, h586, X586, e586, W586, st586⟩ := stC X581 hx hZ e581 Ar584 (j := (0 : Int32)) hin585 (g := (mkF m 59 #[qI ia, qI ib, .val (.long ip), .second, qI 4, qI ja, qI xc_577, qI xc_578, qU, qU, qU, qU] [(.int 47), (.int 0), (.ref b579), (.ref b579)])) rfl rfl (hb hby at_59)
    have N586 := Fr.snoc X586 N581 ge579
    have F587 : Arv Z h586 b579 k579 .char (18 : Int32) [(.int 47), (.int 0), (.int 0), (.int 0), (.int 0), (.int 0), (.int 0), (.int 0), (.int 0), (.int 0), (.int 0), (.int 0), (.int 0), (.int 0), (.int 0), (.int 0), (.int 0), (.int 0)] (.int 0) := Arv.set Ar584 qk584 sz584 nn584 Ha584 Gf584 (fits_nar_char _) W586 0 rfl (Nat.le_of_ble_eq_true rfl)
    refine Go.by st586 ?_
    show Go p e below _ (T586.setTop (mkF m 60 #[qI ia, qI ib, .val (.long ip), .second, qI 4, qI ja, qI xc_577, qI xc_578, qU, qU, qU, qU] [(.ref b579)]))
    refine Go.by (fun t k => XS.dup X586.here hx rfl (hb hby at_60) rfl rfl (XS.iconst X586.here hx rfl (hb hby at_61) (XS.iconst X586.here hx rfl (hb hby at_62) (XS.iload X586.here hx rfl (hb hby at_63) rfl (XS.iload X586.here hx rfl (hb hby at_65) rfl (XS.iload X586.here hx rfl (hb hby at_67) rfl (XS.iload X586.here hx rfl (hb hby at_69) rfl (XS.lloadN X586.here hx rfl (hb hby at_71) rfl k)))))))) ?_
    show Go p e below _ (T586.setTop (mkF m 72 #[qI ia, qI ib, .val (.long ip), .second, qI 4, qI ja, qI xc_577, qI xc_578, qU, qU, qU, qU] [(.long ip), (.int xc_578), (.int xc_577), (.int ja), (.int 4), (.int 1), (.int 1), (.ref b579), (.ref b579)]))
    have F589 : Old Z n0 h586 := (F582.wr W586 ge579)
    have F590 : Keep h0 h586 [] := (F583.wr W586 (Or.inr sz579))
    obtain ⟨_, _, ⟨T588, L588, k588, n588⟩, -, X588, ⟨Lc588, hQ588, l588, y588, z588⟩, st588⟩ := Jvm.LawKit.callS X586 hx (y := (⟨"com/example/bare_lock/barelock/zookeeper/LockPathsChrootPinLaw", "at", "(IIICCJ)C"⟩ : MethodName)) hown (mvT hZ (hw _ (mg 7 rfl))) (mvT hZ (hw _ (mg 8 rfl))) (mvT hZ (hw _ (mg 4 rfl))) (mvT hZ (hw _ (mg 9 rfl))) (by decide) (backOf (W := 3) (at_x l Z a0 hw [] (4 : Int32) ja xc_577 xc_578 ip h586 n0 F589 (by decide) ⟨hxx_577.1, hxx_577.2.1⟩) hZ (hw _ (mg 9 rfl)) (hw _ (mg 4 rfl)) (by decide) (by decide)) (g := (mkF m 72 #[qI ia, qI ib, .val (.long ip), .second, qI 4, qI ja, qI xc_577, qI xc_578, qU, qU, qU, qU] [(.long ip), (.int xc_578), (.int xc_577), (.int ja), (.int 4), (.int 1), (.int 1), (.ref b579), (.ref b579)])) rfl (by rw [hml]; rfl) (argsL := [(.int 1), (.int 4), (.int ja), (.int xc_577), (.int xc_578), (.long ip)]) (rest := [(.int 1), (.ref b579), (.ref b579)]) (lenOf pd_23 rfl) rfl (by show 2 * 0 + _ ≤ _; exact Nat.le_of_eq rfl) (hb hby at_72) (fun _ _ => ⟨rfl, e586, (by decide : 1 + 0 ≤ _), (by decide : 18 + 0 ≤ _)⟩)
    dsimp only [Pt.U, Pt.locs, Pt.cells, Pt.slots] at X588 l588 y588 z588 st588 hQ588
    subst y588 z588
    obtain ⟨rfl, N588q, e588⟩ := hQ588
    have N588 : Fr n0 L588 := by rw [l588]; exact Fr.app N586 N588q
    have X588 := own_mr X588 1 18 (by decide) (by decide)
    refine Go.by st588 ?_
    show Go p e below _ (T588.setTop (mkF m 75 #[qI ia, qI ib, .val (.long ip), .second, qI 4, qI ja, qI xc_577, qI xc_578, qU, qU, qU, qU] [(.int xc_577), (.int 1), (.ref b579), (.ref b579)]))
    have F591 : Exa Z h586 b579 "[C" := (Q579.wr W586)
    obtain ⟨cl592, Ar592, qk592, sz592, nn592, Ha592, Gf592⟩ := id F587
    have hin593 : ¬ ((1 : Int32) < 0 ∨ cl592.slots.size ≤ ((1 : Int32)).toNatClampNeg) := inb_of sz592 ⟨by decide, by decide⟩
    obtain ⟨T594, h594, X594, e594, W594, st594⟩ := stC X588 hx hZ e588 Ar592 (j := (1 : Int32)) hin593 (g := (mkF m 75 #[qI ia, qI ib, .val (.long ip), .second, qI 4, qI ja, qI xc_577, qI xc_578, qU, qU, qU, qU] [(.int xc_577), (.int 1), (.ref b579), (.ref b579)])) rfl rfl (hb hby at_75)
    have N594 := Fr.snoc X594 N588 ge579
    have F595 : Arv Z h594 b579 k579 .char (18 : Int32) [(.int 47), (.int (nar .char xc_577)), (.int 0), (.int 0), (.int 0), (.int 0), (.int 0), (.int 0), (.int 0), (.int 0), (.int 0), (.int 0), (.int 0), (.int 0), (.int 0), (.int 0), (.int 0), (.int 0)] (.int 0) := Arv.set Ar592 qk592 sz592 nn592 Ha592 Gf592 (fits_nar_char _) W594 1 rfl (Nat.le_of_ble_eq_true rfl)
    refine Go.by st594 ?_
    show Go p e below _ (T594.setTop (mkF m 76 #[qI ia, qI ib, .val (.long ip), .second, qI 4, qI ja, qI xc_577, qI xc_578, qU, qU, qU, qU] [(.ref b579)]))
    refine Go.by (fun t k => XS.dup X594.here hx rfl (hb hby at_76) rfl rfl (XS.iconst X594.here hx rfl (hb hby at_77) (XS.iconst X594.here hx rfl (hb hby at_78) (XS.iload X594.here hx rfl (hb hby at_79) rfl (XS.iload X594.here hx rfl (hb hby at_81) rfl (XS.iload X594.here hx rfl (hb hby at_83) rfl (XS.iload X594.here hx rfl (hb hby at_85) rfl (XS.lloadN X594.here hx rfl (hb hby at_87) rfl k)))))))) ?_
    show Go p e below _ (T594.setTop (mkF m 88 #[qI ia, qI ib, .val (.long ip), .second, qI 4, qI ja, qI xc_577, qI xc_578, qU, qU, qU, qU] [(.long ip), (.int xc_578), (.int xc_577), (.int ja), (.int 4), (.int 2), (.int 2), (.ref b579), (.ref b579)]))
    have F597 : Old Z n0 h594 := (F589.wr W594 ge579)
    have F598 : Keep h0 h594 [] := (F590.wr W594 (Or.inr sz579))
    obtain ⟨_, _, ⟨T596, L596, k596, n596⟩, -, X596, ⟨Lc596, hQ596, l596, y596, z596⟩, st596⟩ := Jvm.LawKit.callS X594 hx (y := (⟨"com/example/bare_lock/barelock/zookeeper/LockPathsChrootPinLaw", "at", "(IIICCJ)C"⟩ : MethodName)) hown (mvT hZ (hw _ (mg 7 rfl))) (mvT hZ (hw _ (mg 8 rfl))) (mvT hZ (hw _ (mg 4 rfl))) (mvT hZ (hw _ (mg 9 rfl))) (by decide) (backOf (W := 3) (at_s l Z a0 hw [] (2 : Int32) (4 : Int32) ja xc_577 xc_578 ip h594 n0 F597 (by decide) (by decide) (by decide)) hZ (hw _ (mg 9 rfl)) (hw _ (mg 4 rfl)) (by decide) (by decide)) (g := (mkF m 88 #[qI ia, qI ib, .val (.long ip), .second, qI 4, qI ja, qI xc_577, qI xc_578, qU, qU, qU, qU] [(.long ip), (.int xc_578), (.int xc_577), (.int ja), (.int 4), (.int 2), (.int 2), (.ref b579), (.ref b579)])) rfl (by rw [hml]; rfl) (argsL := [(.int 2), (.int 4), (.int ja), (.int xc_577), (.int xc_578), (.long ip)]) (rest := [(.int 2), (.ref b579), (.ref b579)]) (lenOf pd_23 rfl) rfl (by show 2 * 0 + _ ≤ _; exact Nat.le_of_eq rfl) (hb hby at_88) (fun _ _ => ⟨rfl, e594, (by decide : 1 + 0 ≤ _), (by decide : 18 + 0 ≤ _)⟩)
    dsimp only [Pt.U, Pt.locs, Pt.cells, Pt.slots] at X596 l596 y596 z596 st596 hQ596
    subst y596 z596
    obtain ⟨rfl, N596q, e596⟩ := hQ596
    have N596 : Fr n0 L596 := by rw [l596]; exact Fr.app N594 N596q
    have X596 := own_mr X596 1 18 (by decide) (by decide)
    refine Go.by st596 ?_
    show Go p e below _ (T596.setTop (mkF m 91 #[qI ia, qI ib, .val (.long ip), .second, qI 4, qI ja, qI xc_577, qI xc_578, qU, qU, qU, qU] [(.int 47), (.int 2), (.ref b579), (.ref b579)]))
    have F599 : Exa Z h594 b579 "[C" := (F591.wr W594)
    obtain ⟨cl600, Ar600, qk600, sz600, nn600, Ha600, Gf600⟩ := id F595
    have hin601 : ¬ ((2 : Int32) < 0 ∨ cl600.slots.size ≤ ((2 : Int32)).toNatClampNeg) := inb_of sz600 ⟨by decide, by decide⟩
    obtain ⟨T602, h602, X602, e602, W602, st602⟩ := stC X596 hx hZ e596 Ar600 (j := (2 : Int32)) hin601 (g := (mkF m 91 #[qI ia, qI ib, .val (.long ip), .second, qI 4, qI ja, qI xc_577, qI xc_578, qU, qU, qU, qU] [(.int 47), (.int 2), (.ref b579), (.ref b579)])) rfl rfl (hb hby at_91)
    have N602 := Fr.snoc X602 N596 ge579
    have F603 : Arv Z h602 b579 k579 .char (18 : Int32) [(.int 47), (.int (nar .char xc_577)), (.int 47), (.int 0), (.int 0), (.int 0), (.int 0), (.int 0), (.int 0), (.int 0), (.int 0), (.int 0), (.int 0), (.int 0), (.int 0), (.int 0), (.int 0), (.int 0)] (.int 0) := Arv.set Ar600 qk600 sz600 nn600 Ha600 Gf600 (fits_nar_char _) W602 2 rfl (Nat.le_of_ble_eq_true rfl)
    refine Go.by st602 ?_
    show Go p e below _ (T602.setTop (mkF m 92 #[qI ia, qI ib, .val (.long ip), .second, qI 4, qI ja, qI xc_577, qI xc_578, qU, qU, qU, qU] [(.ref b579)]))
    refine Go.by (fun t k => XS.dup X602.here hx rfl (hb hby at_92) rfl rfl (XS.iconst X602.here hx rfl (hb hby at_93) (XS.iconst X602.here hx rfl (hb hby at_94) (XS.iload X602.here hx rfl (hb hby at_95) rfl (XS.iload X602.here hx rfl (hb hby at_97) rfl (XS.iload X602.here hx rfl (hb hby at_99) rfl (XS.iload X602.here hx rfl (hb hby at_101) rfl (XS.lloadN X602.here hx rfl (hb hby at_103) rfl k)))))))) ?_
    show Go p e below _ (T602.setTop (mkF m 104 #[qI ia, qI ib, .val (.long ip), .second, qI 4, qI ja, qI xc_577, qI xc_578, qU, qU, qU, qU] [(.long ip), (.int xc_578), (.int xc_577), (.int ja), (.int 4), (.int 3), (.int 3), (.ref b579), (.ref b579)]))
    have F605 : Old Z n0 h602 := (F597.wr W602 ge579)
    have F606 : Keep h0 h602 [] := (F598.wr W602 (Or.inr sz579))
    obtain ⟨_, _, ⟨T604, L604, k604, n604⟩, -, X604, ⟨Lc604, hQ604, l604, y604, z604⟩, st604⟩ := Jvm.LawKit.callS X602 hx (y := (⟨"com/example/bare_lock/barelock/zookeeper/LockPathsChrootPinLaw", "at", "(IIICCJ)C"⟩ : MethodName)) hown (mvT hZ (hw _ (mg 7 rfl))) (mvT hZ (hw _ (mg 8 rfl))) (mvT hZ (hw _ (mg 4 rfl))) (mvT hZ (hw _ (mg 9 rfl))) (by decide) (backOf (W := 3) (at_y l Z a0 hw [] (4 : Int32) ja xc_577 xc_578 ip h602 n0 F605 (by decide) ⟨hxx_578.1, hxx_578.2.1⟩) hZ (hw _ (mg 9 rfl)) (hw _ (mg 4 rfl)) (by decide) (by decide)) (g := (mkF m 104 #[qI ia, qI ib, .val (.long ip), .second, qI 4, qI ja, qI xc_577, qI xc_578, qU, qU, qU, qU] [(.long ip), (.int xc_578), (.int xc_577), (.int ja), (.int 4), (.int 3), (.int 3), (.ref b579), (.ref b579)])) rfl (by rw [hml]; rfl) (argsL := [(.int 3), (.int 4), (.int ja), (.int xc_577), (.int xc_578), (.long ip)]) (rest := [(.int 3), (.ref b579), (.ref b579)]) (lenOf pd_23 rfl) rfl (by show 2 * 0 + _ ≤ _; exact Nat.le_of_eq rfl) (hb hby at_104) (fun _ _ => ⟨rfl, e602, (by decide : 1 + 0 ≤ _), (by decide : 18 + 0 ≤ _)⟩)
    dsimp only [Pt.U, Pt.locs, Pt.cells, Pt.slots] at X604 l604 y604 z604 st604 hQ604
    subst y604 z604
    obtain ⟨rfl, N604q, e604⟩ := hQ604
    have N604 : Fr n0 L604 := by rw [l604]; exact Fr.app N602 N604q
    have X604 := own_mr X604 1 18 (by decide) (by decide)
    refine Go.by st604 ?_
    show Go p e below _ (T604.setTop (mkF m 107 #[qI ia, qI ib, .val (.long ip), .second, qI 4, qI ja, qI xc_577, qI xc_578, qU, qU, qU, qU] [(.int xc_578), (.int 3), (.ref b579), (.ref b579)]))
    have F607 : Exa Z h602 b579 "[C" := (F599.wr W602)
    obtain ⟨cl608, Ar608, qk608, sz608, nn608, Ha608, Gf608⟩ := id F603
    have hin609 : ¬ ((3 : Int32) < 0 ∨ cl608.slots.size ≤ ((3 : Int32)).toNatClampNeg) := inb_of sz608 ⟨by decide, by decide⟩
    obtain ⟨T610, h610, X610, e610, W610, st610⟩ := stC X604 hx hZ e604 Ar608 (j := (3 : Int32)) hin609 (g := (mkF m 107 #[qI ia, qI ib, .val (.long ip), .second, qI 4, qI ja, qI xc_577, qI xc_578, qU, qU, qU, qU] [(.int xc_578), (.int 3), (.ref b579), (.ref b579)])) rfl rfl (hb hby at_107)
    have N610 := Fr.snoc X610 N604 ge579
    have F611 : Arv Z h610 b579 k579 .char (18 : Int32) [(.int 47), (.int (nar .char xc_577)), (.int 47), (.int (nar .char xc_578)), (.int 0), (.int 0), (.int 0), (.int 0), (.int 0), (.int 0), (.int 0), (.int 0), (.int 0), (.int 0), (.int 0), (.int 0), (.int 0), (.int 0)] (.int 0) := Arv.set Ar608 qk608 sz608 nn608 Ha608 Gf608 (fits_nar_char _) W610 3 rfl (Nat.le_of_ble_eq_true rfl)
    refine Go.by st610 ?_
    show Go p e below _ (T610.setTop (mkF m 108 #[qI ia, qI ib, .val (.long ip), .second, qI 4, qI ja, qI xc_577, qI xc_578, qU, qU, qU, qU] [(.ref b579)]))
    refine Go.by (fun t k => XS.dup X610.here hx rfl (hb hby at_108) rfl rfl (XS.iconst X610.here hx rfl (hb hby at_109) (XS.iconst X610.here hx rfl (hb hby at_110) (XS.iload X610.here hx rfl (hb hby at_111) rfl (XS.iload X610.here hx rfl (hb hby at_113) rfl (XS.iload X610.here hx rfl (hb hby at_115) rfl (XS.iload X610.here hx rfl (hb hby at_117) rfl (XS.lloadN X610.here hx rfl (hb hby at_119) rfl k)))))))) ?_
    show Go p e below _ (T610.setTop (mkF m 120 #[qI ia, qI ib, .val (.long ip), .second, qI 4, qI ja, qI xc_577, qI xc_578, qU, qU, qU, qU] [(.long ip), (.int xc_578), (.int xc_577), (.int ja), (.int 4), (.int 4), (.int 4), (.ref b579), (.ref b579)]))
    have F613 : Old Z n0 h610 := (F605.wr W610 ge579)
    have F614 : Keep h0 h610 [] := (F606.wr W610 (Or.inr sz579))
    have F615 : h0.size ≤ h610.size := (Nat.le_trans (Nat.le_trans (Nat.le_trans (Nat.le_trans (Nat.le_trans hk0 E579.1) (Nat.le_of_eq W586.size.symm)) (Nat.le_of_eq W594.size.symm)) (Nat.le_of_eq W602.size.symm)) (Nat.le_of_eq W610.size.symm))
    have F616 : CHr Z own_EL s.vm h0 s.vm h610 := (own_chW (own_chW (own_chW (own_chW (own_chE hR0 E579) W586 (Safe.exa hZ.alike Q579 (by decide) (by decide))) W594 (Safe.exa hZ.alike F591 (by decide) (by decide))) W602 (Safe.exa hZ.alike F599 (by decide) (by decide))) W610 (Safe.exa hZ.alike F607 (by decide) (by decide)))
    obtain ⟨_, _, ⟨T612, L612, k612, n612⟩, -, X612, sn612, gr612, ⟨Lc612, hQ612, l612, y612, z612, C612⟩, st612⟩ := callSS X610 hx (y := (⟨"com/example/bare_lock/barelock/zookeeper/LockPathsChrootPinLaw", "at", "(IIICCJ)C"⟩ : MethodName)) hown (mvT hZ (hw _ (mg 7 rfl))) (mvT hZ (hw _ (mg 8 rfl))) (mvT hZ (hw _ (mg 4 rfl))) (mvT hZ (hw _ (mg 9 rfl))) (by decide) (backOfSH (W := 3) (at_lit l Z a0 hw [] (4 : Int32) (4 : Int32) ja xc_577 xc_578 ip (47 : Int32) cs fm h610 n0 F613 P0 P1 hcs (by decide) (by decide) (by decide) (own_gd (n := 0) (by decide) rfl) hfm) hZ (hw _ (mg 9 rfl)) (hw _ (mg 4 rfl)) (by decide) (by decide) hEL F616.1) (g := (mkF m 120 #[qI ia, qI ib, .val (.long ip), .second, qI 4, qI ja, qI xc_577, qI xc_578, qU, qU, qU, qU] [(.long ip), (.int xc_578), (.int xc_577), (.int ja), (.int 4), (.int 4), (.int 4), (.ref b579), (.ref b579)])) rfl (by rw [hml]; rfl) (argsL := [(.int 4), (.int 4), (.int ja), (.int xc_577), (.int xc_578), (.long ip)]) (rest := [(.int 4), (.ref b579), (.ref b579)]) (lenOf pd_23 rfl) rfl (by show 2 * 0 + _ ≤ _; exact Nat.le_of_eq rfl) (hb hby at_120) (fun _ _ => ⟨rfl, e610, (by decide : 1 + 2 ≤ _), (by decide : 18 + 48 ≤ _)⟩)
    dsimp only [Pt.U, Pt.locs, Pt.cells, Pt.slots] at X612 l612 y612 z612 st612 hQ612 sn612 gr612 C612
    subst y612 z612
    obtain ⟨X612, hS, hZ, hown⟩ := rebS hS (n1 := T610.heap.size) (by rw [e610]; exact F615) X612 sn612 gr612 hZ hown
    have hk612 : T612.heap.size ≤ T612.heap.size := Nat.le_refl _
    have A612 := F616.trans C612
    obtain ⟨rfl, N612q, K612⟩ := hQ612
    have N612 : Fr n0 L612 := by rw [l612]; exact Fr.app N610 N612q
    have X612 := own_mr X612 3 66 (by decide) (by decide)
    refine Go.tr st612 ?_
    show Go p e below _ (T612.setTop (mkF m 123 #[qI ia, qI ib, .val (.long ip), .second, qI 4, qI ja, qI xc_577, qI xc_578, qU, qU, qU, qU] [(.int (own_lc (47 : Int32))), (.int 4), (.ref b579), (.ref b579)]))
    rw [show T612.setTop (mkF m 123 #[qI ia, qI ib, .val (.long ip), .second, qI 4, qI ja, qI xc_577, qI xc_578, qU, qU, qU, qU] [(.int (own_lc (47 : Int32))), (.int 4), (.ref b579), (.ref b579)]) = T612.setTop (mkF m 123 #[qI ia, qI ib, .val (.long ip), .second, qI 4, qI ja, qI xc_577, qI xc_578, qU, qU, qU, qU] [(.int 47), (.int 4), (.ref b579), (.ref b579)]) from by rw [show own_lc (47 : Int32) = (47 : Int32) from by decide]]
    show Go p e below _ (T612.setTop (mkF m 123 #[qI ia, qI ib, .val (.long ip), .second, qI 4, qI ja, qI xc_577, qI xc_578, qU, qU, qU, qU] [(.int 47), (.int 4), (.ref b579), (.ref b579)]))
    have F617 : Exa Z T612.heap b579 "[C" := ((F607.wr W610).keep K612)
    have F618 : Arv Z T612.heap b579 k579 .char (18 : Int32) [(.int 47), (.int (nar .char xc_577)), (.int 47), (.int (nar .char xc_578)), (.int 0), (.int 0), (.int 0), (.int 0), (.int 0), (.int 0), (.int 0), (.int 0), (.int 0), (.int 0), (.int 0), (.int 0), (.int 0), (.int 0)] (.int 0) := (F611.keep K612 nin0)
    obtain ⟨cl619, Ar619, qk619, sz619, nn619, Ha619, Gf619⟩ := id F618
    have hin620 : ¬ ((4 : Int32) < 0 ∨ cl619.slots.size ≤ ((4 : Int32)).toNatClampNeg) := inb_of sz619 ⟨by decide, by decide⟩
    obtain ⟨T621, h621, X621, e621, W621, st621⟩ := stC X612 hx hZ rfl Ar619 (j := (4 : Int32)) hin620 (g := (mkF m 123 #[qI ia, qI ib, .val (.long ip), .second, qI 4, qI ja, qI xc_577, qI xc_578, qU, qU, qU, qU] [(.int 47), (.int 4), (.ref b579), (.ref b579)])) rfl rfl (hb hby at_123)
    have N621 := Fr.snoc X621 N612 ge579
    have F622 : Arv Z h621 b579 k579 .char (18 : Int32) [(.int 47), (.int (nar .char xc_577)), (.int 47), (.int (nar .char xc_578)), (.int 47), (.int 0), (.int 0), (.int 0), (.int 0), (.int 0), (.int 0), (.int 0), (.int 0), (.int 0), (.int 0), (.int 0), (.int 0), (.int 0)] (.int 0) := Arv.set Ar619 qk619 sz619 nn619 Ha619 Gf619 (fits_nar_char _) W621 4 rfl (Nat.le_of_ble_eq_true rfl)
    refine Go.by st621 ?_
    show Go p e below _ (T621.setTop (mkF m 124 #[qI ia, qI ib, .val (.long ip), .second, qI 4, qI ja, qI xc_577, qI xc_578, qU, qU, qU, qU] [(.ref b579)]))
    refine Go.by (fun t k => XS.dup X621.here hx rfl (hb hby at_124) rfl rfl (XS.iconst X621.here hx rfl (hb hby at_125) (XS.iconst X621.here hx rfl (hb hby at_126) (XS.iload X621.here hx rfl (hb hby at_127) rfl (XS.iload X621.here hx rfl (hb hby at_129) rfl (XS.iload X621.here hx rfl (hb hby at_131) rfl (XS.iload X621.here hx rfl (hb hby at_133) rfl (XS.lloadN X621.here hx rfl (hb hby at_135) rfl k)))))))) ?_
    show Go p e below _ (T621.setTop (mkF m 136 #[qI ia, qI ib, .val (.long ip), .second, qI 4, qI ja, qI xc_577, qI xc_578, qU, qU, qU, qU] [(.long ip), (.int xc_578), (.int xc_577), (.int ja), (.int 4), (.int 5), (.int 5), (.ref b579), (.ref b579)]))
    have F624 : Old Z n0 h621 := ((F613.keep K612 all0).wr W621 ge579)
    have F625 : Keep h0 h621 [] := ((F614.trans K612 all0).wr W621 (Or.inr sz579))
    have F626 : T612.heap.size ≤ h621.size := (Nat.le_trans hk612 (Nat.le_of_eq W621.size.symm))
    have F627 : CHr Z own_EL s.vm h0 T612.vm h621 := (own_chW A612 W621 (Safe.exa hZ.alike F617 (by decide) (by decide)))
    obtain ⟨_, _, ⟨T623, L623, k623, n623⟩, -, X623, sn623, gr623, ⟨Lc623, hQ623, l623, y623, z623, C623⟩, st623⟩ := callSS X621 hx (y := (⟨"com/example/bare_lock/barelock/zookeeper/LockPathsChrootPinLaw", "at", "(IIICCJ)C"⟩ : MethodName)) hown (mvT hZ (hw _ (mg 7 rfl))) (mvT hZ (hw _ (mg 8 rfl))) (mvT hZ (hw _ (mg 4 rfl))) (mvT hZ (hw _ (mg 9 rfl))) (by decide) (backOfSH (W := 3) (at_lit l Z a0 hw [] (5 : Int32) (4 : Int32) ja xc_577 xc_578 ip (98 : Int32) cs fm h621 n0 F624 P0 P1 hcs (by decide) (by decide) (by decide) (own_gd (n := 1) (by decide) rfl) hfm) hZ (hw _ (mg 9 rfl)) (hw _ (mg 4 rfl)) (by decide) (by decide) hEL F627.1) (g := (mkF m 136 #[qI ia, qI ib, .val (.long ip), .second, qI 4, qI ja, qI xc_577, qI xc_578, qU, qU, qU, qU] [(.long ip), (.int xc_578), (.int xc_577), (.int ja), (.int 4), (.int 5), (.int 5), (.ref b579), (.ref b579)])) rfl (by rw [hml]; rfl) (argsL := [(.int 5), (.int 4), (.int ja), (.int xc_577), (.int xc_578), (.long ip)]) (rest := [(.int 5), (.ref b579), (.ref b579)]) (lenOf pd_23 rfl) rfl (by show 2 * 0 + _ ≤ _; exact Nat.le_of_eq rfl) (hb hby at_136) (fun _ _ => ⟨rfl, e621, (by decide : 3 + 2 ≤ _), (by decide : 66 + 48 ≤ _)⟩)
    dsimp only [Pt.U, Pt.locs, Pt.cells, Pt.slots] at X623 l623 y623 z623 st623 hQ623 sn623 gr623 C623
    subst y623 z623
    obtain ⟨X623, hS, hZ, hown⟩ := rebS hS (n1 := T621.heap.size) (by rw [e621]; exact F626) X623 sn623 gr623 hZ hown
    have hk623 : T623.heap.size ≤ T623.heap.size := Nat.le_refl _
    have A623 := F627.trans C623
    obtain ⟨rfl, N623q, K623⟩ := hQ623
    have N623 : Fr n0 L623 := by rw [l623]; exact Fr.app N621 N623q
    have X623 := own_mr X623 5 114 (by decide) (by decide)
    refine Go.tr st623 ?_
    show Go p e below _ (T623.setTop (mkF m 139 #[qI ia, qI ib, .val (.long ip), .second, qI 4, qI ja, qI xc_577, qI xc_578, qU, qU, qU, qU] [(.int (own_lc (98 : Int32))), (.int 5), (.ref b579), (.ref b579)]))
    rw [show T623.setTop (mkF m 139 #[qI ia, qI ib, .val (.long ip), .second, qI 4, qI ja, qI xc_577, qI xc_578, qU, qU, qU, qU] [(.int (own_lc (98 : Int32))), (.int 5), (.ref b579), (.ref b579)]) = T623.setTop (mkF m 139 #[qI ia, qI ib, .val (.long ip), .second, qI 4, qI ja, qI xc_577, qI xc_578, qU, qU, qU, qU] [(.int 98), (.int 5), (.ref b579), (.ref b579)]) from by rw [show own_lc (98 : Int32) = (98 : Int32) from by decide]]
    show Go p e below _ (T623.setTop (mkF m 139 #[qI ia, qI ib, .val (.long ip), .second, qI 4, qI ja, qI xc_577, qI xc_578, qU, qU, qU, qU] [(.int 98), (.int 5), (.ref b579), (.ref b579)]))
    have F628 : Exa Z T623.heap b579 "[C" := ((F617.wr W621).keep K623)
    have F629 : Arv Z T623.heap b579 k579 .char (18 : Int32) [(.int 47), (.int (nar .char xc_577)), (.int 47), (.int (nar .char xc_578)), (.int 47), (.int 0), (.int 0), (.int 0), (.int 0), (.int 0), (.int 0), (.int 0), (.int 0), (.int 0), (.int 0), (.int 0), (.int 0), (.int 0)] (.int 0) := (F622.keep K623 nin0)
    obtain ⟨cl630, Ar630, qk630, sz630, nn630, Ha630, Gf630⟩ := id F629
    have hin631 : ¬ ((5 : Int32) < 0 ∨ cl630.slots.size ≤ ((5 : Int32)).toNatClampNeg) := inb_of sz630 ⟨by decide, by decide⟩
    obtain ⟨T632, h632, X632, e632, W632, st632⟩ := stC X623 hx hZ rfl Ar630 (j := (5 : Int32)) hin631 (g := (mkF m 139 #[qI ia, qI ib, .val (.long ip), .second, qI 4, qI ja, qI xc_577, qI xc_578, qU, qU, qU, qU] [(.int 98), (.int 5), (.ref b579), (.ref b579)])) rfl rfl (hb hby at_139)
    have N632 := Fr.snoc X632 N623 ge579
    have F633 : Arv Z h632 b579 k579 .char (18 : Int32) [(.int 47), (.int (nar .char xc_577)), (.int 47), (.int (nar .char xc_578)), (.int 47), (.int 98), (.int 0), (.int 0), (.int 0), (.int 0), (.int 0), (.int 0), (.int 0), (.int 0), (.int 0), (.int 0), (.int 0), (.int 0)] (.int 0) := Arv.set Ar630 qk630 sz630 nn630 Ha630 Gf630 (fits_nar_char _) W632 5 rfl (Nat.le_of_ble_eq_true rfl)
    refine Go.by st632 ?_
    show Go p e below _ (T632.setTop (mkF m 140 #[qI ia, qI ib, .val (.long ip), .second, qI 4, qI ja, qI xc_577, qI xc_578, qU, qU, qU, qU] [(.ref b579)]))
    refine Go.by (fun t k => XS.dup X632.here hx rfl (hb hby at_140) rfl rfl (XS.bipush X632.here hx rfl (hb hby at_141) (XS.bipush X632.here hx rfl (hb hby at_143) (XS.iload X632.here hx rfl (hb hby at_145) rfl (XS.iload X632.here hx rfl (hb hby at_147) rfl (XS.iload X632.here hx rfl (hb hby at_149) rfl (XS.iload X632.here hx rfl (hb hby at_151) rfl (XS.lloadN X632.here hx rfl (hb hby at_153) rfl k)))))))) ?_
    show Go p e below _ (T632.setTop (mkF m 154 #[qI ia, qI ib, .val (.long ip), .second, qI 4, qI ja, qI xc_577, qI xc_578, qU, qU, qU, qU] [(.long ip), (.int xc_578), (.int xc_577), (.int ja), (.int 4), (.int 6), (.int 6), (.ref b579), (.ref b579)]))
    have F635 : Old Z n0 h632 := ((F624.keep K623 all0).wr W632 ge579)
    have F636 : Keep h0 h632 [] := ((F625.trans K623 all0).wr W632 (Or.inr sz579))
    have F637 : T623.heap.size ≤ h632.size := (Nat.le_trans hk623 (Nat.le_of_eq W632.size.symm))
    have F638 : CHr Z own_EL s.vm h0 T623.vm h632 := (own_chW A623 W632 (Safe.exa hZ.alike F628 (by decide) (by decide)))
    obtain ⟨_, _, ⟨T634, L634, k634, n634⟩, -, X634, sn634, gr634, ⟨Lc634, hQ634, l634, y634, z634, C634⟩, st634⟩ := callSS X632 hx (y := (⟨"com/example/bare_lock/barelock/zookeeper/LockPathsChrootPinLaw", "at", "(IIICCJ)C"⟩ : MethodName)) hown (mvT hZ (hw _ (mg 7 rfl))) (mvT hZ (hw _ (mg 8 rfl))) (mvT hZ (hw _ (mg 4 rfl))) (mvT hZ (hw _ (mg 9 rfl))) (by decide) (backOfSH (W := 3) (at_lit l Z a0 hw [] (6 : Int32) (4 : Int32) ja xc_577 xc_578 ip (97 : Int32) cs fm h632 n0 F635 P0 P1 hcs (by decide) (by decide) (by decide) (own_gd (n := 2) (by decide) rfl) hfm) hZ (hw _ (mg 9 rfl)) (hw _ (mg 4 rfl)) (by decide) (by decide) hEL F638.1) (g := (mkF m 154 #[qI ia, qI ib, .val (.long ip), .second, qI 4, qI ja, qI xc_577, qI xc_578, qU, qU, qU, qU] [(.long ip), (.int xc_578), (.int xc_577), (.int ja), (.int 4), (.int 6), (.int 6), (.ref b579), (.ref b579)])) rfl (by rw [hml]; rfl) (argsL := [(.int 6), (.int 4), (.int ja), (.int xc_577), (.int xc_578), (.long ip)]) (rest := [(.int 6), (.ref b579), (.ref b579)]) (lenOf pd_23 rfl) rfl (by show 2 * 0 + _ ≤ _; exact Nat.le_of_eq rfl) (hb hby at_154) (fun _ _ => ⟨rfl, e632, (by decide : 5 + 2 ≤ _), (by decide : 114 + 48 ≤ _)⟩)
    dsimp only [Pt.U, Pt.locs, Pt.cells, Pt.slots] at X634 l634 y634 z634 st634 hQ634 sn634 gr634 C634
    subst y634 z634
    obtain ⟨X634, hS, hZ, hown⟩ := rebS hS (n1 := T632.heap.size) (by rw [e632]; exact F637) X634 sn634 gr634 hZ hown
    have hk634 : T634.heap.size ≤ T634.heap.size := Nat.le_refl _
    have A634 := F638.trans C634
    obtain ⟨rfl, N634q, K634⟩ := hQ634
    have N634 : Fr n0 L634 := by rw [l634]; exact Fr.app N632 N634q
    have X634 := own_mr X634 7 162 (by decide) (by decide)
    refine Go.tr st634 ?_
    show Go p e below _ (T634.setTop (mkF m 157 #[qI ia, qI ib, .val (.long ip), .second, qI 4, qI ja, qI xc_577, qI xc_578, qU, qU, qU, qU] [(.int (own_lc (97 : Int32))), (.int 6), (.ref b579), (.ref b579)]))
    rw [show T634.setTop (mkF m 157 #[qI ia, qI ib, .val (.long ip), .second, qI 4, qI ja, qI xc_577, qI xc_578, qU, qU, qU, qU] [(.int (own_lc (97 : Int32))), (.int 6), (.ref b579), (.ref b579)]) = T634.setTop (mkF m 157 #[qI ia, qI ib, .val (.long ip), .second, qI 4, qI ja, qI xc_577, qI xc_578, qU, qU, qU, qU] [(.int 97), (.int 6), (.ref b579), (.ref b579)]) from by rw [show own_lc (97 : Int32) = (97 : Int32) from by decide]]
    show Go p e below _ (T634.setTop (mkF m 157 #[qI ia, qI ib, .val (.long ip), .second, qI 4, qI ja, qI xc_577, qI xc_578, qU, qU, qU, qU] [(.int 97), (.int 6), (.ref b579), (.ref b579)]))
    have F639 : Exa Z T634.heap b579 "[C" := ((F628.wr W632).keep K634)
    have F640 : Arv Z T634.heap b579 k579 .char (18 : Int32) [(.int 47), (.int (nar .char xc_577)), (.int 47), (.int (nar .char xc_578)), (.int 47), (.int 98), (.int 0), (.int 0), (.int 0), (.int 0), (.int 0), (.int 0), (.int 0), (.int 0), (.int 0), (.int 0), (.int 0), (.int 0)] (.int 0) := (F633.keep K634 nin0)
    obtain ⟨cl641, Ar641, qk641, sz641, nn641, Ha641, Gf641⟩ := id F640
    have hin642 : ¬ ((6 : Int32) < 0 ∨ cl641.slots.size ≤ ((6 : Int32)).toNatClampNeg) := inb_of sz641 ⟨by decide, by decide⟩
    obtain ⟨T643, h643, X643, e643, W643, st643⟩ := stC X634 hx hZ rfl Ar641 (j := (6 : Int32)) hin642 (g := (mkF m 157 #[qI ia, qI ib, .val (.long ip), .second, qI 4, qI ja, qI xc_577, qI xc_578, qU, qU, qU, qU] [(.int 97), (.int 6), (.ref b579), (.ref b579)])) rfl rfl (hb hby at_157)
    have N643 := Fr.snoc X643 N634 ge579
    have F644 : Arv Z h643 b579 k579 .char (18 : Int32) [(.int 47), (.int (nar .char xc_577)), (.int 47), (.int (nar .char xc_578)), (.int 47), (.int 98), (.int 97), (.int 0), (.int 0), (.int 0), (.int 0), (.int 0), (.int 0), (.int 0), (.int 0), (.int 0), (.int 0), (.int 0)] (.int 0) := Arv.set Ar641 qk641 sz641 nn641 Ha641 Gf641 (fits_nar_char _) W643 6 rfl (Nat.le_of_ble_eq_true rfl)
    refine Go.by st643 ?_
    show Go p e below _ (T643.setTop (mkF m 158 #[qI ia, qI ib, .val (.long ip), .second, qI 4, qI ja, qI xc_577, qI xc_578, qU, qU, qU, qU] [(.ref b579)]))
    refine Go.by (fun t k => XS.dup X643.here hx rfl (hb hby at_158) rfl rfl (XS.bipush X643.here hx rfl (hb hby at_159) (XS.bipush X643.here hx rfl (hb hby at_161) (XS.iload X643.here hx rfl (hb hby at_163) rfl (XS.iload X643.here hx rfl (hb hby at_165) rfl (XS.iload X643.here hx rfl (hb hby at_167) rfl (XS.iload X643.here hx rfl (hb hby at_169) rfl (XS.lloadN X643.here hx rfl (hb hby at_171) rfl k)))))))) ?_
    show Go p e below _ (T643.setTop (mkF m 172 #[qI ia, qI ib, .val (.long ip), .second, qI 4, qI ja, qI xc_577, qI xc_578, qU, qU, qU, qU] [(.long ip), (.int xc_578), (.int xc_577), (.int ja), (.int 4), (.int 7), (.int 7), (.ref b579), (.ref b579)]))
    have F646 : Old Z n0 h643 := ((F635.keep K634 all0).wr W643 ge579)
    have F647 : Keep h0 h643 [] := ((F636.trans K634 all0).wr W643 (Or.inr sz579))
    have F648 : T634.heap.size ≤ h643.size := (Nat.le_trans hk634 (Nat.le_of_eq W643.size.symm))
    have F649 : CHr Z own_EL s.vm h0 T634.vm h643 := (own_chW A634 W643 (Safe.exa hZ.alike F639 (by decide) (by decide)))
    obtain ⟨_, _, ⟨T645, L645, k645, n645⟩, -, X645, sn645, gr645, ⟨Lc645, hQ645, l645, y645, z645, C645⟩, st645⟩ := callSS X643 hx (y := (⟨"com/example/bare_lock/barelock/zookeeper/LockPathsChrootPinLaw", "at", "(IIICCJ)C"⟩ : MethodName)) hown (mvT hZ (hw _ (mg 7 rfl))) (mvT hZ (hw _ (mg 8 rfl))) (mvT hZ (hw _ (mg 4 rfl))) (mvT hZ (hw _ (mg 9 rfl))) (by decide) (backOfSH (W := 3) (at_lit l Z a0 hw [] (7 : Int32) (4 : Int32) ja xc_577 xc_578 ip (114 : Int32) cs fm h643 n0 F646 P0 P1 hcs (by decide) (by decide) (by decide) (own_gd (n := 3) (by decide) rfl) hfm) hZ (hw _ (mg 9 rfl)) (hw _ (mg 4 rfl)) (by decide) (by decide) hEL F649.1) (g := (mkF m 172 #[qI ia, qI ib, .val (.long ip), .second, qI 4, qI ja, qI xc_577, qI xc_578, qU, qU, qU, qU] [(.long ip), (.int xc_578), (.int xc_577), (.int ja), (.int 4), (.int 7), (.int 7), (.ref b579), (.ref b579)])) rfl (by rw [hml]; rfl) (argsL := [(.int 7), (.int 4), (.int ja), (.int xc_577), (.int xc_578), (.long ip)]) (rest := [(.int 7), (.ref b579), (.ref b579)]) (lenOf pd_23 rfl) rfl (by show 2 * 0 + _ ≤ _; exact Nat.le_of_eq rfl) (hb hby at_172) (fun _ _ => ⟨rfl, e643, (by decide : 7 + 2 ≤ _), (by decide : 162 + 48 ≤ _)⟩)
    dsimp only [Pt.U, Pt.locs, Pt.cells, Pt.slots] at X645 l645 y645 z645 st645 hQ645 sn645 gr645 C645
    subst y645 z645
    obtain ⟨X645, hS, hZ, hown⟩ := rebS hS (n1 := T643.heap.size) (by rw [e643]; exact F648) X645 sn645 gr645 hZ hown
    have hk645 : T645.heap.size ≤ T645.heap.size := Nat.le_refl _
    have A645 := F649.trans C645
    obtain ⟨rfl, N645q, K645⟩ := hQ645
    have N645 : Fr n0 L645 := by rw [l645]; exact Fr.app N643 N645q
    have X645 := own_mr X645 9 210 (by decide) (by decide)
    refine Go.tr st645 ?_
    show Go p e below _ (T645.setTop (mkF m 175 #[qI ia, qI ib, .val (.long ip), .second, qI 4, qI ja, qI xc_577, qI xc_578, qU, qU, qU, qU] [(.int (own_lc (114 : Int32))), (.int 7), (.ref b579), (.ref b579)]))
    rw [show T645.setTop (mkF m 175 #[qI ia, qI ib, .val (.long ip), .second, qI 4, qI ja, qI xc_577, qI xc_578, qU, qU, qU, qU] [(.int (own_lc (114 : Int32))), (.int 7), (.ref b579), (.ref b579)]) = T645.setTop (mkF m 175 #[qI ia, qI ib, .val (.long ip), .second, qI 4, qI ja, qI xc_577, qI xc_578, qU, qU, qU, qU] [(.int 114), (.int 7), (.ref b579), (.ref b579)]) from by rw [show own_lc (114 : Int32) = (114 : Int32) from by decide]]
    show Go p e below _ (T645.setTop (mkF m 175 #[qI ia, qI ib, .val (.long ip), .second, qI 4, qI ja, qI xc_577, qI xc_578, qU, qU, qU, qU] [(.int 114), (.int 7), (.ref b579), (.ref b579)]))
    have F650 : Exa Z T645.heap b579 "[C" := ((F639.wr W643).keep K645)
    have F651 : Arv Z T645.heap b579 k579 .char (18 : Int32) [(.int 47), (.int (nar .char xc_577)), (.int 47), (.int (nar .char xc_578)), (.int 47), (.int 98), (.int 97), (.int 0), (.int 0), (.int 0), (.int 0), (.int 0), (.int 0), (.int 0), (.int 0), (.int 0), (.int 0), (.int 0)] (.int 0) := (F644.keep K645 nin0)
    obtain ⟨cl652, Ar652, qk652, sz652, nn652, Ha652, Gf652⟩ := id F651
    have hin653 : ¬ ((7 : Int32) < 0 ∨ cl652.slots.size ≤ ((7 : Int32)).toNatClampNeg) := inb_of sz652 ⟨by decide, by decide⟩
    obtain ⟨T654, h654, X654, e654, W654, st654⟩ := stC X645 hx hZ rfl Ar652 (j := (7 : Int32)) hin653 (g := (mkF m 175 #[qI ia, qI ib, .val (.long ip), .second, qI 4, qI ja, qI xc_577, qI xc_578, qU, qU, qU, qU] [(.int 114), (.int 7), (.ref b579), (.ref b579)])) rfl rfl (hb hby at_175)
    have N654 := Fr.snoc X654 N645 ge579
    have F655 : Arv Z h654 b579 k579 .char (18 : Int32) [(.int 47), (.int (nar .char xc_577)), (.int 47), (.int (nar .char xc_578)), (.int 47), (.int 98), (.int 97), (.int 114), (.int 0), (.int 0), (.int 0), (.int 0), (.int 0), (.int 0), (.int 0), (.int 0), (.int 0), (.int 0)] (.int 0) := Arv.set Ar652 qk652 sz652 nn652 Ha652 Gf652 (fits_nar_char _) W654 7 rfl (Nat.le_of_ble_eq_true rfl)
    refine Go.by st654 ?_
    show Go p e below _ (T654.setTop (mkF m 176 #[qI ia, qI ib, .val (.long ip), .second, qI 4, qI ja, qI xc_577, qI xc_578, qU, qU, qU, qU] [(.ref b579)]))
    refine Go.by (fun t k => XS.dup X654.here hx rfl (hb hby at_176) rfl rfl (XS.bipush X654.here hx rfl (hb hby at_177) (XS.bipush X654.here hx rfl (hb hby at_179) (XS.iload X654.here hx rfl (hb hby at_181) rfl (XS.iload X654.here hx rfl (hb hby at_183) rfl (XS.iload X654.here hx rfl (hb hby at_185) rfl (XS.iload X654.here hx rfl (hb hby at_187) rfl (XS.lloadN X654.here hx rfl (hb hby at_189) rfl k)))))))) ?_
    show Go p e below _ (T654.setTop (mkF m 190 #[qI ia, qI ib, .val (.long ip), .second, qI 4, qI ja, qI xc_577, qI xc_578, qU, qU, qU, qU] [(.long ip), (.int xc_578), (.int xc_577), (.int ja), (.int 4), (.int 8), (.int 8), (.ref b579), (.ref b579)]))
    have F657 : Old Z n0 h654 := ((F646.keep K645 all0).wr W654 ge579)
    have F658 : Keep h0 h654 [] := ((F647.trans K645 all0).wr W654 (Or.inr sz579))
    have F659 : T645.heap.size ≤ h654.size := (Nat.le_trans hk645 (Nat.le_of_eq W654.size.symm))
    have F660 : CHr Z own_EL s.vm h0 T645.vm h654 := (own_chW A645 W654 (Safe.exa hZ.alike F650 (by decide) (by decide)))
    obtain ⟨_, _, ⟨T656, L656, k656, n656⟩, -, X656, sn656, gr656, ⟨Lc656, hQ656, l656, y656, z656, C656⟩, st656⟩ := callSS X654 hx (y := (⟨"com/example/bare_lock/barelock/zookeeper/LockPathsChrootPinLaw", "at", "(IIICCJ)C"⟩ : MethodName)) hown (mvT hZ (hw _ (mg 7 rfl))) (mvT hZ (hw _ (mg 8 rfl))) (mvT hZ (hw _ (mg 4 rfl))) (mvT hZ (hw _ (mg 9 rfl))) (by decide) (backOfSH (W := 3) (at_lit l Z a0 hw [] (8 : Int32) (4 : Int32) ja xc_577 xc_578 ip (101 : Int32) cs fm h654 n0 F657 P0 P1 hcs (by decide) (by decide) (by decide) (own_gd (n := 4) (by decide) rfl) hfm) hZ (hw _ (mg 9 rfl)) (hw _ (mg 4 rfl)) (by decide) (by decide) hEL F660.1) (g := (mkF m 190 #[qI ia, qI ib, .val (.long ip), .second, qI 4, qI ja, qI xc_577, qI xc_578, qU, qU, qU, qU] [(.long ip), (.int xc_578), (.int xc_577), (.int ja), (.int 4), (.int 8), (.int 8), (.ref b579), (.ref b579)])) rfl (by rw [hml]; rfl) (argsL := [(.int 8), (.int 4), (.int ja), (.int xc_577), (.int xc_578), (.long ip)]) (rest := [(.int 8), (.ref b579), (.ref b579)]) (lenOf pd_23 rfl) rfl (by show 2 * 0 + _ ≤ _; exact Nat.le_of_eq rfl) (hb hby at_190) (fun _ _ => ⟨rfl, e654, (by decide : 9 + 2 ≤ _), (by decide : 210 + 48 ≤ _)⟩)
    dsimp only [Pt.U, Pt.locs, Pt.cells, Pt.slots] at X656 l656 y656 z656 st656 hQ656 sn656 gr656 C656
    subst y656 z656
    obtain ⟨X656, hS, hZ, hown⟩ := rebS hS (n1 := T654.heap.size) (by rw [e654]; exact F659) X656 sn656 gr656 hZ hown
    have hk656 : T656.heap.size ≤ T656.heap.size := Nat.le_refl _
    have A656 := F660.trans C656
    obtain ⟨rfl, N656q, K656⟩ := hQ656
    have N656 : Fr n0 L656 := by rw [l656]; exact Fr.app N654 N656q
    have X656 := own_mr X656 11 258 (by decide) (by decide)
    refine Go.tr st656 ?_
    show Go p e below _ (T656.setTop (mkF m 193 #[qI ia, qI ib, .val (.long ip), .second, qI 4, qI ja, qI xc_577, qI xc_578, qU, qU, qU, qU] [(.int (own_lc (101 : Int32))), (.int 8), (.ref b579), (.ref b579)]))
    rw [show T656.setTop (mkF m 193 #[qI ia, qI ib, .val (.long ip), .second, qI 4, qI ja, qI xc_577, qI xc_578, qU, qU, qU, qU] [(.int (own_lc (101 : Int32))), (.int 8), (.ref b579), (.ref b579)]) = T656.setTop (mkF m 193 #[qI ia, qI ib, .val (.long ip), .second, qI 4, qI ja, qI xc_577, qI xc_578, qU, qU, qU, qU] [(.int 101), (.int 8), (.ref b579), (.ref b579)]) from by rw [show own_lc (101 : Int32) = (101 : Int32) from by decide]]
    show Go p e below _ (T656.setTop (mkF m 193 #[qI ia, qI ib, .val (.long ip), .second, qI 4, qI ja, qI xc_577, qI xc_578, qU, qU, qU, qU] [(.int 101), (.int 8), (.ref b579), (.ref b579)]))
    have F661 : Exa Z T656.heap b579 "[C" := ((F650.wr W654).keep K656)
    have F662 : Arv Z T656.heap b579 k579 .char (18 : Int32) [(.int 47), (.int (nar .char xc_577)), (.int 47), (.int (nar .char xc_578)), (.int 47), (.int 98), (.int 97), (.int 114), (.int 0), (.int 0), (.int 0), (.int 0), (.int 0), (.int 0), (.int 0), (.int 0), (.int 0), (.int 0)] (.int 0) := (F655.keep K656 nin0)
    obtain ⟨cl663, Ar663, qk663, sz663, nn663, Ha663, Gf663⟩ := id F662
    have hin664 : ¬ ((8 : Int32) < 0 ∨ cl663.slots.size ≤ ((8 : Int32)).toNatClampNeg) := inb_of sz663 ⟨by decide, by decide⟩
    obtain ⟨T665, h665, X665, e665, W665, st665⟩ := stC X656 hx hZ rfl Ar663 (j := (8 : Int32)) hin664 (g := (mkF m 193 #[qI ia, qI ib, .val (.long ip), .second, qI 4, qI ja, qI xc_577, qI xc_578, qU, qU, qU, qU] [(.int 101), (.int 8), (.ref b579), (.ref b579)])) rfl rfl (hb hby at_193)
    have N665 := Fr.snoc X665 N656 ge579
    have F666 : Arv Z h665 b579 k579 .char (18 : Int32) [(.int 47), (.int (nar .char xc_577)), (.int 47), (.int (nar .char xc_578)), (.int 47), (.int 98), (.int 97), (.int 114), (.int 101), (.int 0), (.int 0), (.int 0), (.int 0), (.int 0), (.int 0), (.int 0), (.int 0), (.int 0)] (.int 0) := Arv.set Ar663 qk663 sz663 nn663 Ha663 Gf663 (fits_nar_char _) W665 8 rfl (Nat.le_of_ble_eq_true rfl)
    refine Go.by st665 ?_
    show Go p e below _ (T665.setTop (mkF m 194 #[qI ia, qI ib, .val (.long ip), .second, qI 4, qI ja, qI xc_577, qI xc_578, qU, qU, qU, qU] [(.ref b579)]))
    refine Go.by (fun t k => XS.dup X665.here hx rfl (hb hby at_194) rfl rfl (XS.bipush X665.here hx rfl (hb hby at_195) (XS.bipush X665.here hx rfl (hb hby at_197) (XS.iload X665.here hx rfl (hb hby at_199) rfl (XS.iload X665.here hx rfl (hb hby at_201) rfl (XS.iload X665.here hx rfl (hb hby at_203) rfl (XS.iload X665.here hx rfl (hb hby at_205) rfl (XS.lloadN X665.here hx rfl (hb hby at_207) rfl k)))))))) ?_
    show Go p e below _ (T665.setTop (mkF m 208 #[qI ia, qI ib, .val (.long ip), .second, qI 4, qI ja, qI xc_577, qI xc_578, qU, qU, qU, qU] [(.long ip), (.int xc_578), (.int xc_577), (.int ja), (.int 4), (.int 9), (.int 9), (.ref b579), (.ref b579)]))
    have F668 : Old Z n0 h665 := ((F657.keep K656 all0).wr W665 ge579)
    have F669 : Keep h0 h665 [] := ((F658.trans K656 all0).wr W665 (Or.inr sz579))
    have F670 : T656.heap.size ≤ h665.size := (Nat.le_trans hk656 (Nat.le_of_eq W665.size.symm))
    have F671 : CHr Z own_EL s.vm h0 T656.vm h665 := (own_chW A656 W665 (Safe.exa hZ.alike F661 (by decide) (by decide)))
    obtain ⟨_, _, ⟨T667, L667, k667, n667⟩, -, X667, sn667, gr667, ⟨Lc667, hQ667, l667, y667, z667, C667⟩, st667⟩ := callSS X665 hx (y := (⟨"com/example/bare_lock/barelock/zookeeper/LockPathsChrootPinLaw", "at", "(IIICCJ)C"⟩ : MethodName)) hown (mvT hZ (hw _ (mg 7 rfl))) (mvT hZ (hw _ (mg 8 rfl))) (mvT hZ (hw _ (mg 4 rfl))) (mvT hZ (hw _ (mg 9 rfl))) (by decide) (backOfSH (W := 3) (at_lit l Z a0 hw [] (9 : Int32) (4 : Int32) ja xc_577 xc_578 ip (45 : Int32) cs fm h665 n0 F668 P0 P1 hcs (by decide) (by decide) (by decide) (own_gd (n := 5) (by decide) rfl) hfm) hZ (hw _ (mg 9 rfl)) (hw _ (mg 4 rfl)) (by decide) (by decide) hEL F671.1) (g := (mkF m 208 #[qI ia, qI ib, .val (.long ip), .second, qI 4, qI ja, qI xc_577, qI xc_578, qU, qU, qU, qU] [(.long ip), (.int xc_578), (.int xc_577), (.int ja), (.int 4), (.int 9), (.int 9), (.ref b579), (.ref b579)])) rfl (by rw [hml]; rfl) (argsL := [(.int 9), (.int 4), (.int ja), (.int xc_577), (.int xc_578), (.long ip)]) (rest := [(.int 9), (.ref b579), (.ref b579)]) (lenOf pd_23 rfl) rfl (by show 2 * 0 + _ ≤ _; exact Nat.le_of_eq rfl) (hb hby at_208) (fun _ _ => ⟨rfl, e665, (by decide : 11 + 2 ≤ _), (by decide : 258 + 48 ≤ _)⟩)
    dsimp only [Pt.U, Pt.locs, Pt.cells, Pt.slots] at X667 l667 y667 z667 st667 hQ667 sn667 gr667 C667
    subst y667 z667
    obtain ⟨X667, hS, hZ, hown⟩ := rebS hS (n1 := T665.heap.size) (by rw [e665]; exact F670) X667 sn667 gr667 hZ hown
    have hk667 : T667.heap.size ≤ T667.heap.size := Nat.le_refl _
    have A667 := F671.trans C667
    obtain ⟨rfl, N667q, K667⟩ := hQ667
    have N667 : Fr n0 L667 := by rw [l667]; exact Fr.app N665 N667q
    have X667 := own_mr X667 13 306 (by decide) (by decide)
    refine Go.tr st667 ?_
    show Go p e below _ (T667.setTop (mkF m 211 #[qI ia, qI ib, .val (.long ip), .second, qI 4, qI ja, qI xc_577, qI xc_578, qU, qU, qU, qU] [(.int (own_lc (45 : Int32))), (.int 9), (.ref b579), (.ref b579)]))
    rw [show T667.setTop (mkF m 211 #[qI ia, qI ib, .val (.long ip), .second, qI 4, qI ja, qI xc_577, qI xc_578, qU, qU, qU, qU] [(.int (own_lc (45 : Int32))), (.int 9), (.ref b579), (.ref b579)]) = T667.setTop (mkF m 211 #[qI ia, qI ib, .val (.long ip), .second, qI 4, qI ja, qI xc_577, qI xc_578, qU, qU, qU, qU] [(.int 45), (.int 9), (.ref b579), (.ref b579)]) from by rw [show own_lc (45 : Int32) = (45 : Int32) from by decide]]
    show Go p e below _ (T667.setTop (mkF m 211 #[qI ia, qI ib, .val (.long ip), .second, qI 4, qI ja, qI xc_577, qI xc_578, qU, qU, qU, qU] [(.int 45), (.int 9), (.ref b579), (.ref b579)]))
    have F672 : Exa Z T667.heap b579 "[C" := ((F661.wr W665).keep K667)
    have F673 : Arv Z T667.heap b579 k579 .char (18 : Int32) [(.int 47), (.int (nar .char xc_577)), (.int 47), (.int (nar .char xc_578)), (.int 47), (.int 98), (.int 97), (.int 114), (.int 101), (.int 0), (.int 0), (.int 0), (.int 0), (.int 0), (.int 0), (.int 0), (.int 0), (.int 0)] (.int 0) := (F666.keep K667 nin0)
    obtain ⟨cl674, Ar674, qk674, sz674, nn674, Ha674, Gf674⟩ := id F673
    have hin675 : ¬ ((9 : Int32) < 0 ∨ cl674.slots.size ≤ ((9 : Int32)).toNatClampNeg) := inb_of sz674 ⟨by decide, by decide⟩
    obtain ⟨T676, h676, X676, e676, W676, st676⟩ := stC X667 hx hZ rfl Ar674 (j := (9 : Int32)) hin675 (g := (mkF m 211 #[qI ia, qI ib, .val (.long ip), .second, qI 4, qI ja, qI xc_577, qI xc_578, qU, qU, qU, qU] [(.int 45), (.int 9), (.ref b579), (.ref b579)])) rfl rfl (hb hby at_211)
    have N676 := Fr.snoc X676 N667 ge579
    have F677 : Arv Z h676 b579 k579 .char (18 : Int32) [(.int 47), (.int (nar .char xc_577)), (.int 47), (.int (nar .char xc_578)), (.int 47), (.int 98), (.int 97), (.int 114), (.int 101), (.int 45), (.int 0), (.int 0), (.int 0), (.int 0), (.int 0), (.int 0), (.int 0), (.int 0)] (.int 0) := Arv.set Ar674 qk674 sz674 nn674 Ha674 Gf674 (fits_nar_char _) W676 9 rfl (Nat.le_of_ble_eq_true rfl)
    refine Go.by st676 ?_
    show Go p e below _ (T676.setTop (mkF m 212 #[qI ia, qI ib, .val (.long ip), .second, qI 4, qI ja, qI xc_577, qI xc_578, qU, qU, qU, qU] [(.ref b579)]))
    refine Go.by (fun t k => XS.dup X676.here hx rfl (hb hby at_212) rfl rfl (XS.bipush X676.here hx rfl (hb hby at_213) (XS.bipush X676.here hx rfl (hb hby at_215) (XS.iload X676.here hx rfl (hb hby at_217) rfl (XS.iload X676.here hx rfl (hb hby at_219) rfl (XS.iload X676.here hx rfl (hb hby at_221) rfl (XS.iload X676.here hx rfl (hb hby at_223) rfl (XS.lloadN X676.here hx rfl (hb hby at_225) rfl k)))))))) ?_
    show Go p e below _ (T676.setTop (mkF m 226 #[qI ia, qI ib, .val (.long ip), .second, qI 4, qI ja, qI xc_577, qI xc_578, qU, qU, qU, qU] [(.long ip), (.int xc_578), (.int xc_577), (.int ja), (.int 4), (.int 10), (.int 10), (.ref b579), (.ref b579)]))
    have F679 : Old Z n0 h676 := ((F668.keep K667 all0).wr W676 ge579)
    have F680 : Keep h0 h676 [] := ((F669.trans K667 all0).wr W676 (Or.inr sz579))
    have F681 : T667.heap.size ≤ h676.size := (Nat.le_trans hk667 (Nat.le_of_eq W676.size.symm))
    have F682 : CHr Z own_EL s.vm h0 T667.vm h676 := (own_chW A667 W676 (Safe.exa hZ.alike F672 (by decide) (by decide)))
    obtain ⟨_, _, ⟨T678, L678, k678, n678⟩, -, X678, sn678, gr678, ⟨Lc678, hQ678, l678, y678, z678, C678⟩, st678⟩ := callSS X676 hx (y := (⟨"com/example/bare_lock/barelock/zookeeper/LockPathsChrootPinLaw", "at", "(IIICCJ)C"⟩ : MethodName)) hown (mvT hZ (hw _ (mg 7 rfl))) (mvT hZ (hw _ (mg 8 rfl))) (mvT hZ (hw _ (mg 4 rfl))) (mvT hZ (hw _ (mg 9 rfl))) (by decide) (backOfSH (W := 3) (at_lit l Z a0 hw [] (10 : Int32) (4 : Int32) ja xc_577 xc_578 ip (108 : Int32) cs fm h676 n0 F679 P0 P1 hcs (by decide) (by decide) (by decide) (own_gd (n := 6) (by decide) rfl) hfm) hZ (hw _ (mg 9 rfl)) (hw _ (mg 4 rfl)) (by decide) (by decide) hEL F682.1) (g := (mkF m 226 #[qI ia, qI ib, .val (.long ip), .second, qI 4, qI ja, qI xc_577, qI xc_578, qU, qU, qU, qU] [(.long ip), (.int xc_578), (.int xc_577), (.int ja), (.int 4), (.int 10), (.int 10), (.ref b579), (.ref b579)])) rfl (by rw [hml]; rfl) (argsL := [(.int 10), (.int 4), (.int ja), (.int xc_577), (.int xc_578), (.long ip)]) (rest := [(.int 10), (.ref b579), (.ref b579)]) (lenOf pd_23 rfl) rfl (by show 2 * 0 + _ ≤ _; exact Nat.le_of_eq rfl) (hb hby at_226) (fun _ _ => ⟨rfl, e676, (by decide : 13 + 2 ≤ _), (by decide : 306 + 48 ≤ _)⟩)
    dsimp only [Pt.U, Pt.locs, Pt.cells, Pt.slots] at X678 l678 y678 z678 st678 hQ678 sn678 gr678 C678
    subst y678 z678
    obtain ⟨X678, hS, hZ, hown⟩ := rebS hS (n1 := T676.heap.size) (by rw [e676]; exact F681) X678 sn678 gr678 hZ hown
    have hk678 : T678.heap.size ≤ T678.heap.size := Nat.le_refl _
    have A678 := F682.trans C678
    obtain ⟨rfl, N678q, K678⟩ := hQ678
    have N678 : Fr n0 L678 := by rw [l678]; exact Fr.app N676 N678q
    have X678 := own_mr X678 15 354 (by decide) (by decide)
    refine Go.tr st678 ?_
    show Go p e below _ (T678.setTop (mkF m 229 #[qI ia, qI ib, .val (.long ip), .second, qI 4, qI ja, qI xc_577, qI xc_578, qU, qU, qU, qU] [(.int (own_lc (108 : Int32))), (.int 10), (.ref b579), (.ref b579)]))
    rw [show T678.setTop (mkF m 229 #[qI ia, qI ib, .val (.long ip), .second, qI 4, qI ja, qI xc_577, qI xc_578, qU, qU, qU, qU] [(.int (own_lc (108 : Int32))), (.int 10), (.ref b579), (.ref b579)]) = T678.setTop (mkF m 229 #[qI ia, qI ib, .val (.long ip), .second, qI 4, qI ja, qI xc_577, qI xc_578, qU, qU, qU, qU] [(.int 108), (.int 10), (.ref b579), (.ref b579)]) from by rw [show own_lc (108 : Int32) = (108 : Int32) from by decide]]
    show Go p e below _ (T678.setTop (mkF m 229 #[qI ia, qI ib, .val (.long ip), .second, qI 4, qI ja, qI xc_577, qI xc_578, qU, qU, qU, qU] [(.int 108), (.int 10), (.ref b579), (.ref b579)]))
    have F683 : Exa Z T678.heap b579 "[C" := ((F672.wr W676).keep K678)
    have F684 : Arv Z T678.heap b579 k579 .char (18 : Int32) [(.int 47), (.int (nar .char xc_577)), (.int 47), (.int (nar .char xc_578)), (.int 47), (.int 98), (.int 97), (.int 114), (.int 101), (.int 45), (.int 0), (.int 0), (.int 0), (.int 0), (.int 0), (.int 0), (.int 0), (.int 0)] (.int 0) := (F677.keep K678 nin0)
    obtain ⟨cl685, Ar685, qk685, sz685, nn685, Ha685, Gf685⟩ := id F684
    have hin686 : ¬ ((10 : Int32) < 0 ∨ cl685.slots.size ≤ ((10 : Int32)).toNatClampNeg) := inb_of sz685 ⟨by decide, by decide⟩
    obtain ⟨T687, h687, X687, e687, W687, st687⟩ := stC X678 hx hZ rfl Ar685 (j := (10 : Int32)) hin686 (g := (mkF m 229 #[qI ia, qI ib, .val (.long ip), .second, qI 4, qI ja, qI xc_577, qI xc_578, qU, qU, qU, qU] [(.int 108), (.int 10), (.ref b579), (.ref b579)])) rfl rfl (hb hby at_229)
    have N687 := Fr.snoc X687 N678 ge579
    have F688 : Arv Z h687 b579 k579 .char (18 : Int32) [(.int 47), (.int (nar .char xc_577)), (.int 47), (.int (nar .char xc_578)), (.int 47), (.int 98), (.int 97), (.int 114), (.int 101), (.int 45), (.int 108), (.int 0), (.int 0), (.int 0), (.int 0), (.int 0), (.int 0), (.int 0)] (.int 0) := Arv.set Ar685 qk685 sz685 nn685 Ha685 Gf685 (fits_nar_char _) W687 10 rfl (Nat.le_of_ble_eq_true rfl)
    refine Go.by st687 ?_
    show Go p e below _ (T687.setTop (mkF m 230 #[qI ia, qI ib, .val (.long ip), .second, qI 4, qI ja, qI xc_577, qI xc_578, qU, qU, qU, qU] [(.ref b579)]))
    refine Go.by (fun t k => XS.dup X687.here hx rfl (hb hby at_230) rfl rfl (XS.bipush X687.here hx rfl (hb hby at_231) (XS.bipush X687.here hx rfl (hb hby at_233) (XS.iload X687.here hx rfl (hb hby at_235) rfl (XS.iload X687.here hx rfl (hb hby at_237) rfl (XS.iload X687.here hx rfl (hb hby at_239) rfl (XS.iload X687.here hx rfl (hb hby at_241) rfl (XS.lloadN X687.here hx rfl (hb hby at_243) rfl k)))))))) ?_
    show Go p e below _ (T687.setTop (mkF m 244 #[qI ia, qI ib, .val (.long ip), .second, qI 4, qI ja, qI xc_577, qI xc_578, qU, qU, qU, qU] [(.long ip), (.int xc_578), (.int xc_577), (.int ja), (.int 4), (.int 11), (.int 11), (.ref b579), (.ref b579)]))
    have F690 : Old Z n0 h687 := ((F679.keep K678 all0).wr W687 ge579)
    have F691 : Keep h0 h687 [] := ((F680.trans K678 all0).wr W687 (Or.inr sz579))
    have F692 : T678.heap.size ≤ h687.size := (Nat.le_trans hk678 (Nat.le_of_eq W687.size.symm))
    have F693 : CHr Z own_EL s.vm h0 T678.vm h687 := (own_chW A678 W687 (Safe.exa hZ.alike F683 (by decide) (by decide)))
    obtain ⟨_, _, ⟨T689, L689, k689, n689⟩, -, X689, sn689, gr689, ⟨Lc689, hQ689, l689, y689, z689, C689⟩, st689⟩ := callSS X687 hx (y := (⟨"com/example/bare_lock/barelock/zookeeper/LockPathsChrootPinLaw", "at", "(IIICCJ)C"⟩ : MethodName)) hown (mvT hZ (hw _ (mg 7 rfl))) (mvT hZ (hw _ (mg 8 rfl))) (mvT hZ (hw _ (mg 4 rfl))) (mvT hZ (hw _ (mg 9 rfl))) (by decide) (backOfSH (W := 3) (at_lit l Z a0 hw [] (11 : Int32) (4 : Int32) ja xc_577 xc_578 ip (111 : Int32) cs fm h687 n0 F690 P0 P1 hcs (by decide) (by decide) (by decide) (own_gd (n := 7) (by decide) rfl) hfm) hZ (hw _ (mg 9 rfl)) (hw _ (mg 4 rfl)) (by decide) (by decide) hEL F693.1) (g := (mkF m 244 #[qI ia, qI ib, .val (.long ip), .second, qI 4, qI ja, qI xc_577, qI xc_578, qU, qU, qU, qU] [(.long ip), (.int xc_578), (.int xc_577), (.int ja), (.int 4), (.int 11), (.int 11), (.ref b579), (.ref b579)])) rfl (by rw [hml]; rfl) (argsL := [(.int 11), (.int 4), (.int ja), (.int xc_577), (.int xc_578), (.long ip)]) (rest := [(.int 11), (.ref b579), (.ref b579)]) (lenOf pd_23 rfl) rfl (by show 2 * 0 + _ ≤ _; exact Nat.le_of_eq rfl) (hb hby at_244) (fun _ _ => ⟨rfl, e687, (by decide : 15 + 2 ≤ _), (by decide : 354 + 48 ≤ _)⟩)
    dsimp only [Pt.U, Pt.locs, Pt.cells, Pt.slots] at X689 l689 y689 z689 st689 hQ689 sn689 gr689 C689
    subst y689 z689
    obtain ⟨X689, hS, hZ, hown⟩ := rebS hS (n1 := T687.heap.size) (by rw [e687]; exact F692) X689 sn689 gr689 hZ hown
    have hk689 : T689.heap.size ≤ T689.heap.size := Nat.le_refl _
    have A689 := F693.trans C689
    obtain ⟨rfl, N689q, K689⟩ := hQ689
    have N689 : Fr n0 L689 := by rw [l689]; exact Fr.app N687 N689q
    have X689 := own_mr X689 17 402 (by decide) (by decide)
    refine Go.tr st689 ?_
    show Go p e below _ (T689.setTop (mkF m 247 #[qI ia, qI ib, .val (.long ip), .second, qI 4, qI ja, qI xc_577, qI xc_578, qU, qU, qU, qU] [(.int (own_lc (111 : Int32))), (.int 11), (.ref b579), (.ref b579)]))
    rw [show T689.setTop (mkF m 247 #[qI ia, qI ib, .val (.long ip), .second, qI 4, qI ja, qI xc_577, qI xc_578, qU, qU, qU, qU] [(.int (own_lc (111 : Int32))), (.int 11), (.ref b579), (.ref b579)]) = T689.setTop (mkF m 247 #[qI ia, qI ib, .val (.long ip), .second, qI 4, qI ja, qI xc_577, qI xc_578, qU, qU, qU, qU] [(.int 111), (.int 11), (.ref b579), (.ref b579)]) from by rw [show own_lc (111 : Int32) = (111 : Int32) from by decide]]
    show Go p e below _ (T689.setTop (mkF m 247 #[qI ia, qI ib, .val (.long ip), .second, qI 4, qI ja, qI xc_577, qI xc_578, qU, qU, qU, qU] [(.int 111), (.int 11), (.ref b579), (.ref b579)]))
    have F694 : Exa Z T689.heap b579 "[C" := ((F683.wr W687).keep K689)
    have F695 : Arv Z T689.heap b579 k579 .char (18 : Int32) [(.int 47), (.int (nar .char xc_577)), (.int 47), (.int (nar .char xc_578)), (.int 47), (.int 98), (.int 97), (.int 114), (.int 101), (.int 45), (.int 108), (.int 0), (.int 0), (.int 0), (.int 0), (.int 0), (.int 0), (.int 0)] (.int 0) := (F688.keep K689 nin0)
    obtain ⟨cl696, Ar696, qk696, sz696, nn696, Ha696, Gf696⟩ := id F695
    have hin697 : ¬ ((11 : Int32) < 0 ∨ cl696.slots.size ≤ ((11 : Int32)).toNatClampNeg) := inb_of sz696 ⟨by decide, by decide⟩
    obtain ⟨T698, h698, X698, e698, W698, st698⟩ := stC X689 hx hZ rfl Ar696 (j := (11 : Int32)) hin697 (g := (mkF m 247 #[qI ia, qI ib, .val (.long ip), .second, qI 4, qI ja, qI xc_577, qI xc_578, qU, qU, qU, qU] [(.int 111), (.int 11), (.ref b579), (.ref b579)])) rfl rfl (hb hby at_247)
    have N698 := Fr.snoc X698 N689 ge579
    have F699 : Arv Z h698 b579 k579 .char (18 : Int32) [(.int 47), (.int (nar .char xc_577)), (.int 47), (.int (nar .char xc_578)), (.int 47), (.int 98), (.int 97), (.int 114), (.int 101), (.int 45), (.int 108), (.int 111), (.int 0), (.int 0), (.int 0), (.int 0), (.int 0), (.int 0)] (.int 0) := Arv.set Ar696 qk696 sz696 nn696 Ha696 Gf696 (fits_nar_char _) W698 11 rfl (Nat.le_of_ble_eq_true rfl)
    refine Go.by st698 ?_
    show Go p e below _ (T698.setTop (mkF m 248 #[qI ia, qI ib, .val (.long ip), .second, qI 4, qI ja, qI xc_577, qI xc_578, qU, qU, qU, qU] [(.ref b579)]))
    refine Go.by (fun t k => XS.dup X698.here hx rfl (hb hby at_248) rfl rfl (XS.bipush X698.here hx rfl (hb hby at_249) (XS.bipush X698.here hx rfl (hb hby at_251) (XS.iload X698.here hx rfl (hb hby at_253) rfl (XS.iload X698.here hx rfl (hb hby at_255) rfl (XS.iload X698.here hx rfl (hb hby at_257) rfl (XS.iload X698.here hx rfl (hb hby at_259) rfl (XS.lloadN X698.here hx rfl (hb hby at_261) rfl k)))))))) ?_
    show Go p e below _ (T698.setTop (mkF m 262 #[qI ia, qI ib, .val (.long ip), .second, qI 4, qI ja, qI xc_577, qI xc_578, qU, qU, qU, qU] [(.long ip), (.int xc_578), (.int xc_577), (.int ja), (.int 4), (.int 12), (.int 12), (.ref b579), (.ref b579)]))
    have F701 : Old Z n0 h698 := ((F690.keep K689 all0).wr W698 ge579)
    have F702 : Keep h0 h698 [] := ((F691.trans K689 all0).wr W698 (Or.inr sz579))
    have F703 : T689.heap.size ≤ h698.size := (Nat.le_trans hk689 (Nat.le_of_eq W698.size.symm))
    have F704 : CHr Z own_EL s.vm h0 T689.vm h698 := (own_chW A689 W698 (Safe.exa hZ.alike F694 (by decide) (by decide)))
    obtain ⟨_, _, ⟨T700, L700, k700, n700⟩, -, X700, sn700, gr700, ⟨Lc700, hQ700, l700, y700, z700, C700⟩, st700⟩ := callSS X698 hx (y := (⟨"com/example/bare_lock/barelock/zookeeper/LockPathsChrootPinLaw", "at", "(IIICCJ)C"⟩ : MethodName)) hown (mvT hZ (hw _ (mg 7 rfl))) (mvT hZ (hw _ (mg 8 rfl))) (mvT hZ (hw _ (mg 4 rfl))) (mvT hZ (hw _ (mg 9 rfl))) (by decide) (backOfSH (W := 3) (at_lit l Z a0 hw [] (12 : Int32) (4 : Int32) ja xc_577 xc_578 ip (99 : Int32) cs fm h698 n0 F701 P0 P1 hcs (by decide) (by decide) (by decide) (own_gd (n := 8) (by decide) rfl) hfm) hZ (hw _ (mg 9 rfl)) (hw _ (mg 4 rfl)) (by decide) (by decide) hEL F704.1) (g := (mkF m 262 #[qI ia, qI ib, .val (.long ip), .second, qI 4, qI ja, qI xc_577, qI xc_578, qU, qU, qU, qU] [(.long ip), (.int xc_578), (.int xc_577), (.int ja), (.int 4), (.int 12), (.int 12), (.ref b579), (.ref b579)])) rfl (by rw [hml]; rfl) (argsL := [(.int 12), (.int 4), (.int ja), (.int xc_577), (.int xc_578), (.long ip)]) (rest := [(.int 12), (.ref b579), (.ref b579)]) (lenOf pd_23 rfl) rfl (by show 2 * 0 + _ ≤ _; exact Nat.le_of_eq rfl) (hb hby at_262) (fun _ _ => ⟨rfl, e698, (by decide : 17 + 2 ≤ _), (by decide : 402 + 48 ≤ _)⟩)
    dsimp only [Pt.U, Pt.locs, Pt.cells, Pt.slots] at X700 l700 y700 z700 st700 hQ700 sn700 gr700 C700
    subst y700 z700
    obtain ⟨X700, hS, hZ, hown⟩ := rebS hS (n1 := T698.heap.size) (by rw [e698]; exact F703) X700 sn700 gr700 hZ hown
    have hk700 : T700.heap.size ≤ T700.heap.size := Nat.le_refl _
    have A700 := F704.trans C700
    obtain ⟨rfl, N700q, K700⟩ := hQ700
    have N700 : Fr n0 L700 := by rw [l700]; exact Fr.app N698 N700q
    have X700 := own_mr X700 19 450 (by decide) (by decide)
    refine Go.tr st700 ?_
    show Go p e below _ (T700.setTop (mkF m 265 #[qI ia, qI ib, .val (.long ip), .second, qI 4, qI ja, qI xc_577, qI xc_578, qU, qU, qU, qU] [(.int (own_lc (99 : Int32))), (.int 12), (.ref b579), (.ref b579)]))
    rw [show T700.setTop (mkF m 265 #[qI ia, qI ib, .val (.long ip), .second, qI 4, qI ja, qI xc_577, qI xc_578, qU, qU, qU, qU] [(.int (own_lc (99 : Int32))), (.int 12), (.ref b579), (.ref b579)]) = T700.setTop (mkF m 265 #[qI ia, qI ib, .val (.long ip), .second, qI 4, qI ja, qI xc_577, qI xc_578, qU, qU, qU, qU] [(.int 99), (.int 12), (.ref b579), (.ref b579)]) from by rw [show own_lc (99 : Int32) = (99 : Int32) from by decide]]
    show Go p e below _ (T700.setTop (mkF m 265 #[qI ia, qI ib, .val (.long ip), .second, qI 4, qI ja, qI xc_577, qI xc_578, qU, qU, qU, qU] [(.int 99), (.int 12), (.ref b579), (.ref b579)]))
    have F705 : Exa Z T700.heap b579 "[C" := ((F694.wr W698).keep K700)
    have F706 : Arv Z T700.heap b579 k579 .char (18 : Int32) [(.int 47), (.int (nar .char xc_577)), (.int 47), (.int (nar .char xc_578)), (.int 47), (.int 98), (.int 97), (.int 114), (.int 101), (.int 45), (.int 108), (.int 111), (.int 0), (.int 0), (.int 0), (.int 0), (.int 0), (.int 0)] (.int 0) := (F699.keep K700 nin0)
    obtain ⟨cl707, Ar707, qk707, sz707, nn707, Ha707, Gf707⟩ := id F706
    have hin708 : ¬ ((12 : Int32) < 0 ∨ cl707.slots.size ≤ ((12 : Int32)).toNatClampNeg) := inb_of sz707 ⟨by decide, by decide⟩
    obtain ⟨T709, h709, X709, e709, W709, st709⟩ := stC X700 hx hZ rfl Ar707 (j := (12 : Int32)) hin708 (g := (mkF m 265 #[qI ia, qI ib, .val (.long ip), .second, qI 4, qI ja, qI xc_577, qI xc_578, qU, qU, qU, qU] [(.int 99), (.int 12), (.ref b579), (.ref b579)])) rfl rfl (hb hby at_265)
    have N709 := Fr.snoc X709 N700 ge579
    have F710 : Arv Z h709 b579 k579 .char (18 : Int32) [(.int 47), (.int (nar .char xc_577)), (.int 47), (.int (nar .char xc_578)), (.int 47), (.int 98), (.int 97), (.int 114), (.int 101), (.int 45), (.int 108), (.int 111), (.int 99), (.int 0), (.int 0), (.int 0), (.int 0), (.int 0)] (.int 0) := Arv.set Ar707 qk707 sz707 nn707 Ha707 Gf707 (fits_nar_char _) W709 12 rfl (Nat.le_of_ble_eq_true rfl)
    refine Go.by st709 ?_
    show Go p e below _ (T709.setTop (mkF m 266 #[qI ia, qI ib, .val (.long ip), .second, qI 4, qI ja, qI xc_577, qI xc_578, qU, qU, qU, qU] [(.ref b579)]))
    refine Go.by (fun t k => XS.dup X709.here hx rfl (hb hby at_266) rfl rfl (XS.bipush X709.here hx rfl (hb hby at_267) (XS.bipush X709.here hx rfl (hb hby at_269) (XS.iload X709.here hx rfl (hb hby at_271) rfl (XS.iload X709.here hx rfl (hb hby at_273) rfl (XS.iload X709.here hx rfl (hb hby at_275) rfl (XS.iload X709.here hx rfl (hb hby at_277) rfl (XS.lloadN X709.here hx rfl (hb hby at_279) rfl k)))))))) ?_
    show Go p e below _ (T709.setTop (mkF m 280 #[qI ia, qI ib, .val (.long ip), .second, qI 4, qI ja, qI xc_577, qI xc_578, qU, qU, qU, qU] [(.long ip), (.int xc_578), (.int xc_577), (.int ja), (.int 4), (.int 13), (.int 13), (.ref b579), (.ref b579)]))
    have F712 : Old Z n0 h709 := ((F701.keep K700 all0).wr W709 ge579)
    have F713 : Keep h0 h709 [] := ((F702.trans K700 all0).wr W709 (Or.inr sz579))
    have F714 : T700.heap.size ≤ h709.size := (Nat.le_trans hk700 (Nat.le_of_eq W709.size.symm))
    have F715 : CHr Z own_EL s.vm h0 T700.vm h709 := (own_chW A700 W709 (Safe.exa hZ.alike F705 (by decide) (by decide)))
    obtain ⟨_, _, ⟨T711, L711, k711, n711⟩, -, X711, sn711, gr711, ⟨Lc711, hQ711, l711, y711, z711, C711⟩, st711⟩ := callSS X709 hx (y := (⟨"com/example/bare_lock/barelock/zookeeper/LockPathsChrootPinLaw", "at", "(IIICCJ)C"⟩ : MethodName)) hown (mvT hZ (hw _ (mg 7 rfl))) (mvT hZ (hw _ (mg 8 rfl))) (mvT hZ (hw _ (mg 4 rfl))) (mvT hZ (hw _ (mg 9 rfl))) (by decide) (backOfSH (W := 3) (at_lit l Z a0 hw [] (13 : Int32) (4 : Int32) ja xc_577 xc_578 ip (107 : Int32) cs fm h709 n0 F712 P0 P1 hcs (by decide) (by decide) (by decide) (own_gd (n := 9) (by decide) rfl) hfm) hZ (hw _ (mg 9 rfl)) (hw _ (mg 4 rfl)) (by decide) (by decide) hEL F715.1) (g := (mkF m 280 #[qI ia, qI ib, .val (.long ip), .second, qI 4, qI ja, qI xc_577, qI xc_578, qU, qU, qU, qU] [(.long ip), (.int xc_578), (.int xc_577), (.int ja), (.int 4), (.int 13), (.int 13), (.ref b579), (.ref b579)])) rfl (by rw [hml]; rfl) (argsL := [(.int 13), (.int 4), (.int ja), (.int xc_577), (.int xc_578), (.long ip)]) (rest := [(.int 13), (.ref b579), (.ref b579)]) (lenOf pd_23 rfl) rfl (by show 2 * 0 + _ ≤ _; exact Nat.le_of_eq rfl) (hb hby at_280) (fun _ _ => ⟨rfl, e709, (by decide : 19 + 2 ≤ _), (by decide : 450 + 48 ≤ _)⟩)
    dsimp only [Pt.U, Pt.locs, Pt.cells, Pt.slots] at X711 l711 y711 z711 st711 hQ711 sn711 gr711 C711
    subst y711 z711
    obtain ⟨X711, hS, hZ, hown⟩ := rebS hS (n1 := T709.heap.size) (by rw [e709]; exact F714) X711 sn711 gr711 hZ hown
    have hk711 : T711.heap.size ≤ T711.heap.size := Nat.le_refl _
    have A711 := F715.trans C711
    obtain ⟨rfl, N711q, K711⟩ := hQ711
    have N711 : Fr n0 L711 := by rw [l711]; exact Fr.app N709 N711q
    have X711 := own_mr X711 21 498 (by decide) (by decide)
    refine Go.tr st711 ?_
    show Go p e below _ (T711.setTop (mkF m 283 #[qI ia, qI ib, .val (.long ip), .second, qI 4, qI ja, qI xc_577, qI xc_578, qU, qU, qU, qU] [(.int (own_lc (107 : Int32))), (.int 13), (.ref b579), (.ref b579)]))
    rw [show T711.setTop (mkF m 283 #[qI ia, qI ib, .val (.long ip), .second, qI 4, qI ja, qI xc_577, qI xc_578, qU, qU, qU, qU] [(.int (own_lc (107 : Int32))), (.int 13), (.ref b579), (.ref b579)]) = T711.setTop (mkF m 283 #[qI ia, qI ib, .val (.long ip), .second, qI 4, qI ja, qI xc_577, qI xc_578, qU, qU, qU, qU] [(.int 107), (.int 13), (.ref b579), (.ref b579)]) from by rw [show own_lc (107 : Int32) = (107 : Int32) from by decide]]
    show Go p e below _ (T711.setTop (mkF m 283 #[qI ia, qI ib, .val (.long ip), .second, qI 4, qI ja, qI xc_577, qI xc_578, qU, qU, qU, qU] [(.int 107), (.int 13), (.ref b579), (.ref b579)]))
    have F716 : Exa Z T711.heap b579 "[C" := ((F705.wr W709).keep K711)
    have F717 : Arv Z T711.heap b579 k579 .char (18 : Int32) [(.int 47), (.int (nar .char xc_577)), (.int 47), (.int (nar .char xc_578)), (.int 47), (.int 98), (.int 97), (.int 114), (.int 101), (.int 45), (.int 108), (.int 111), (.int 99), (.int 0), (.int 0), (.int 0), (.int 0), (.int 0)] (.int 0) := (F710.keep K711 nin0)
    obtain ⟨cl718, Ar718, qk718, sz718, nn718, Ha718, Gf718⟩ := id F717
    have hin719 : ¬ ((13 : Int32) < 0 ∨ cl718.slots.size ≤ ((13 : Int32)).toNatClampNeg) := inb_of sz718 ⟨by decide, by decide⟩
    obtain ⟨T720, h720, X720, e720, W720, st720⟩ := stC X711 hx hZ rfl Ar718 (j := (13 : Int32)) hin719 (g := (mkF m 283 #[qI ia, qI ib, .val (.long ip), .second, qI 4, qI ja, qI xc_577, qI xc_578, qU, qU, qU, qU] [(.int 107), (.int 13), (.ref b579), (.ref b579)])) rfl rfl (hb hby at_283)
    have N720 := Fr.snoc X720 N711 ge579
    have F721 : Arv Z h720 b579 k579 .char (18 : Int32) [(.int 47), (.int (nar .char xc_577)), (.int 47), (.int (nar .char xc_578)), (.int 47), (.int 98), (.int 97), (.int 114), (.int 101), (.int 45), (.int 108), (.int 111), (.int 99), (.int 107), (.int 0), (.int 0), (.int 0), (.int 0)] (.int 0) := Arv.set Ar718 qk718 sz718 nn718 Ha718 Gf718 (fits_nar_char _) W720 13 rfl (Nat.le_of_ble_eq_true rfl)
    refine Go.by st720 ?_
    show Go p e below _ (T720.setTop (mkF m 284 #[qI ia, qI ib, .val (.long ip), .second, qI 4, qI ja, qI xc_577, qI xc_578, qU, qU, qU, qU] [(.ref b579)]))
    refine Go.by (fun t k => XS.dup X720.here hx rfl (hb hby at_284) rfl rfl (XS.bipush X720.here hx rfl (hb hby at_285) (XS.bipush X720.here hx rfl (hb hby at_287) (XS.iload X720.here hx rfl (hb hby at_289) rfl (XS.iload X720.here hx rfl (hb hby at_291) rfl (XS.iload X720.here hx rfl (hb hby at_293) rfl (XS.iload X720.here hx rfl (hb hby at_295) rfl (XS.lloadN X720.here hx rfl (hb hby at_297) rfl k)))))))) ?_
    show Go p e below _ (T720.setTop (mkF m 298 #[qI ia, qI ib, .val (.long ip), .second, qI 4, qI ja, qI xc_577, qI xc_578, qU, qU, qU, qU] [(.long ip), (.int xc_578), (.int xc_577), (.int ja), (.int 4), (.int 14), (.int 14), (.ref b579), (.ref b579)]))
    have F723 : Old Z n0 h720 := ((F712.keep K711 all0).wr W720 ge579)
    have F724 : Keep h0 h720 [] := ((F713.trans K711 all0).wr W720 (Or.inr sz579))
    have F725 : T711.heap.size ≤ h720.size := (Nat.le_trans hk711 (Nat.le_of_eq W720.size.symm))
    have F726 : CHr Z own_EL s.vm h0 T711.vm h720 := (own_chW A711 W720 (Safe.exa hZ.alike F716 (by decide) (by decide)))
    obtain ⟨_, _, ⟨T722, L722, k722, n722⟩, -, X722, sn722, gr722, ⟨Lc722, hQ722, l722, y722, z722, C722⟩, st722⟩ := callSS X720 hx (y := (⟨"com/example/bare_lock/barelock/zookeeper/LockPathsChrootPinLaw", "at", "(IIICCJ)C"⟩ : MethodName)) hown (mvT hZ (hw _ (mg 7 rfl))) (mvT hZ (hw _ (mg 8 rfl))) (mvT hZ (hw _ (mg 4 rfl))) (mvT hZ (hw _ (mg 9 rfl))) (by decide) (backOfSH (W := 3) (at_lit l Z a0 hw [] (14 : Int32) (4 : Int32) ja xc_577 xc_578 ip (47 : Int32) cs fm h720 n0 F723 P0 P1 hcs (by decide) (by decide) (by decide) (own_gd (n := 10) (by decide) rfl) hfm) hZ (hw _ (mg 9 rfl)) (hw _ (mg 4 rfl)) (by decide) (by decide) hEL F726.1) (g := (mkF m 298 #[qI ia, qI ib, .val (.long ip), .second, qI 4, qI ja, qI xc_577, qI xc_578, qU, qU, qU, qU] [(.long ip), (.int xc_578), (.int xc_577), (.int ja), (.int 4), (.int 14), (.int 14), (.ref b579), (.ref b579)])) rfl (by rw [hml]; rfl) (argsL := [(.int 14), (.int 4), (.int ja), (.int xc_577), (.int xc_578), (.long ip)]) (rest := [(.int 14), (.ref b579), (.ref b579)]) (lenOf pd_23 rfl) rfl (by show 2 * 0 + _ ≤ _; exact Nat.le_of_eq rfl) (hb hby at_298) (fun _ _ => ⟨rfl, e720, (by decide : 21 + 2 ≤ _), (by decide : 498 + 48 ≤ _)⟩)
    dsimp only [Pt.U, Pt.locs, Pt.cells, Pt.slots] at X722 l722 y722 z722 st722 hQ722 sn722 gr722 C722
    subst y722 z722
    obtain ⟨X722, hS, hZ, hown⟩ := rebS hS (n1 := T720.heap.size) (by rw [e720]; exact F725) X722 sn722 gr722 hZ hown
    have hk722 : T722.heap.size ≤ T722.heap.size := Nat.le_refl _
    have A722 := F726.trans C722
    obtain ⟨rfl, N722q, K722⟩ := hQ722
    have N722 : Fr n0 L722 := by rw [l722]; exact Fr.app N720 N722q
    have X722 := own_mr X722 23 546 (by decide) (by decide)
    refine Go.tr st722 ?_
    show Go p e below _ (T722.setTop (mkF m 301 #[qI ia, qI ib, .val (.long ip), .second, qI 4, qI ja, qI xc_577, qI xc_578, qU, qU, qU, qU] [(.int (own_lc (47 : Int32))), (.int 14), (.ref b579), (.ref b579)]))
    rw [show T722.setTop (mkF m 301 #[qI ia, qI ib, .val (.long ip), .second, qI 4, qI ja, qI xc_577, qI xc_578, qU, qU, qU, qU] [(.int (own_lc (47 : Int32))), (.int 14), (.ref b579), (.ref b579)]) = T722.setTop (mkF m 301 #[qI ia, qI ib, .val (.long ip), .second, qI 4, qI ja, qI xc_577, qI xc_578, qU, qU, qU, qU] [(.int 47), (.int 14), (.ref b579), (.ref b579)]) from by rw [show own_lc (47 : Int32) = (47 : Int32) from by decide]]
    show Go p e below _ (T722.setTop (mkF m 301 #[qI ia, qI ib, .val (.long ip), .second, qI 4, qI ja, qI xc_577, qI xc_578, qU, qU, qU, qU] [(.int 47), (.int 14), (.ref b579), (.ref b579)]))
    have F727 : Exa Z T722.heap b579 "[C" := ((F716.wr W720).keep K722)
    have F728 : Arv Z T722.heap b579 k579 .char (18 : Int32) [(.int 47), (.int (nar .char xc_577)), (.int 47), (.int (nar .char xc_578)), (.int 47), (.int 98), (.int 97), (.int 114), (.int 101), (.int 45), (.int 108), (.int 111), (.int 99), (.int 107), (.int 0), (.int 0), (.int 0), (.int 0)] (.int 0) := (F721.keep K722 nin0)
    obtain ⟨cl729, Ar729, qk729, sz729, nn729, Ha729, Gf729⟩ := id F728
    have hin730 : ¬ ((14 : Int32) < 0 ∨ cl729.slots.size ≤ ((14 : Int32)).toNatClampNeg) := inb_of sz729 ⟨by decide, by decide⟩
    obtain ⟨T731, h731, X731, e731, W731, st731⟩ := stC X722 hx hZ rfl Ar729 (j := (14 : Int32)) hin730 (g := (mkF m 301 #[qI ia, qI ib, .val (.long ip), .second, qI 4, qI ja, qI xc_577, qI xc_578, qU, qU, qU, qU] [(.int 47), (.int 14), (.ref b579), (.ref b579)])) rfl rfl (hb hby at_301)
    have N731 := Fr.snoc X731 N722 ge579
    have F732 : Arv Z h731 b579 k579 .char (18 : Int32) [(.int 47), (.int (nar .char xc_577)), (.int 47), (.int (nar .char xc_578)), (.int 47), (.int 98), (.int 97), (.int 114), (.int 101), (.int 45), (.int 108), (.int 111), (.int 99), (.int 107), (.int 47), (.int 0), (.int 0), (.int 0)] (.int 0) := Arv.set Ar729 qk729 sz729 nn729 Ha729 Gf729 (fits_nar_char _) W731 14 rfl (Nat.le_of_ble_eq_true rfl)
    refine Go.by st731 ?_
    show Go p e below _ (T731.setTop (mkF m 302 #[qI ia, qI ib, .val (.long ip), .second, qI 4, qI ja, qI xc_577, qI xc_578, qU, qU, qU, qU] [(.ref b579)]))
    refine Go.by (fun t k => XS.dup X731.here hx rfl (hb hby at_302) rfl rfl (XS.bipush X731.here hx rfl (hb hby at_303) (XS.bipush X731.here hx rfl (hb hby at_305) (XS.iload X731.here hx rfl (hb hby at_307) rfl (XS.iload X731.here hx rfl (hb hby at_309) rfl (XS.iload X731.here hx rfl (hb hby at_311) rfl (XS.iload X731.here hx rfl (hb hby at_313) rfl (XS.lloadN X731.here hx rfl (hb hby at_315) rfl k)))))))) ?_
    show Go p e below _ (T731.setTop (mkF m 316 #[qI ia, qI ib, .val (.long ip), .second, qI 4, qI ja, qI xc_577, qI xc_578, qU, qU, qU, qU] [(.long ip), (.int xc_578), (.int xc_577), (.int ja), (.int 4), (.int 15), (.int 15), (.ref b579), (.ref b579)]))
    have F734 : Old Z n0 h731 := ((F723.keep K722 all0).wr W731 ge579)
    have F735 : Keep h0 h731 [] := ((F724.trans K722 all0).wr W731 (Or.inr sz579))
    obtain ⟨_, _, ⟨T733, L733, k733, n733⟩, -, X733, ⟨Lc733, hQ733, l733, y733, z733⟩, st733⟩ := Jvm.LawKit.callS X731 hx (y := (⟨"com/example/bare_lock/barelock/zookeeper/LockPathsChrootPinLaw", "at", "(IIICCJ)C"⟩ : MethodName)) hown (mvT hZ (hw _ (mg 7 rfl))) (mvT hZ (hw _ (mg 8 rfl))) (mvT hZ (hw _ (mg 4 rfl))) (mvT hZ (hw _ (mg 9 rfl))) (by decide) (backOf (W := 3) (at_tail l Z a0 hw [] (15 : Int32) (4 : Int32) ja xc_577 xc_578 ip h731 n0 F734 (by decide) (by decide)) hZ (hw _ (mg 9 rfl)) (hw _ (mg 4 rfl)) (by decide) (by decide)) (g := (mkF m 316 #[qI ia, qI ib, .val (.long ip), .second, qI 4, qI ja, qI xc_577, qI xc_578, qU, qU, qU, qU] [(.long ip), (.int xc_578), (.int xc_577), (.int ja), (.int 4), (.int 15), (.int 15), (.ref b579), (.ref b579)])) rfl (by rw [hml]; rfl) (argsL := [(.int 15), (.int 4), (.int ja), (.int xc_577), (.int xc_578), (.long ip)]) (rest := [(.int 15), (.ref b579), (.ref b579)]) (lenOf pd_23 rfl) rfl (by show 2 * 0 + _ ≤ _; exact Nat.le_of_eq rfl) (hb hby at_316) (fun _ _ => ⟨rfl, e731, (by decide : 23 + 0 ≤ _), (by decide : 546 + 0 ≤ _)⟩)
    dsimp only [Pt.U, Pt.locs, Pt.cells, Pt.slots] at X733 l733 y733 z733 st733 hQ733
    subst y733 z733
    obtain ⟨tv_733, rfl, N733q, e733, hr_733, he_733, hn_733⟩ := hQ733
    have N733 : Fr n0 L733 := by rw [l733]; exact Fr.app N731 N733q
    have X733 := own_mr X733 23 546 (by decide) (by decide)
    refine Go.by st733 ?_
    show Go p e below _ (T733.setTop (mkF m 319 #[qI ia, qI ib, .val (.long ip), .second, qI 4, qI ja, qI xc_577, qI xc_578, qU, qU, qU, qU] [(.int tv_733), (.int 15), (.ref b579), (.ref b579)]))
    have F736 : Exa Z h731 b579 "[C" := (F727.wr W731)
    obtain ⟨cl737, Ar737, qk737, sz737, nn737, Ha737, Gf737⟩ := id F732
    have hin738 : ¬ ((15 : Int32) < 0 ∨ cl737.slots.size ≤ ((15 : Int32)).toNatClampNeg) := inb_of sz737 ⟨by decide, by decide⟩
    obtain ⟨T739, h739, X739, e739, W739, st739⟩ := stC X733 hx hZ e733 Ar737 (j := (15 : Int32)) hin738 (g := (mkF m 319 #[qI ia, qI ib, .val (.long ip), .second, qI 4, qI ja, qI xc_577, qI xc_578, qU, qU, qU, qU] [(.int tv_733), (.int 15), (.ref b579), (.ref b579)])) rfl rfl (hb hby at_319)
    have N739 := Fr.snoc X739 N733 ge579
    have F740 : Arv Z h739 b579 k579 .char (18 : Int32) [(.int 47), (.int (nar .char xc_577)), (.int 47), (.int (nar .char xc_578)), (.int 47), (.int 98), (.int 97), (.int 114), (.int 101), (.int 45), (.int 108), (.int 111), (.int 99), (.int 107), (.int 47), (.int (nar .char tv_733)), (.int 0), (.int 0)] (.int 0) := Arv.set Ar737 qk737 sz737 nn737 Ha737 Gf737 (fits_nar_char _) W739 15 rfl (Nat.le_of_ble_eq_true rfl)
    refine Go.by st739 ?_
    show Go p e below _ (T739.setTop (mkF m 320 #[qI ia, qI ib, .val (.long ip), .second, qI 4, qI ja, qI xc_577, qI xc_578, qU, qU, qU, qU] [(.ref b579)]))
    refine Go.by (fun t k => XS.dup X739.here hx rfl (hb hby at_320) rfl rfl (XS.bipush X739.here hx rfl (hb hby at_321) (XS.bipush X739.here hx rfl (hb hby at_323) (XS.iload X739.here hx rfl (hb hby at_325) rfl (XS.iload X739.here hx rfl (hb hby at_327) rfl (XS.iload X739.here hx rfl (hb hby at_329) rfl (XS.iload X739.here hx rfl (hb hby at_331) rfl (XS.lloadN X739.here hx rfl (hb hby at_333) rfl k)))))))) ?_
    show Go p e below _ (T739.setTop (mkF m 334 #[qI ia, qI ib, .val (.long ip), .second, qI 4, qI ja, qI xc_577, qI xc_578, qU, qU, qU, qU] [(.long ip), (.int xc_578), (.int xc_577), (.int ja), (.int 4), (.int 16), (.int 16), (.ref b579), (.ref b579)]))
    have F742 : Old Z n0 h739 := (F734.wr W739 ge579)
    have F743 : Keep h0 h739 [] := (F735.wr W739 (Or.inr sz579))
    obtain ⟨_, _, ⟨T741, L741, k741, n741⟩, -, X741, ⟨Lc741, hQ741, l741, y741, z741⟩, st741⟩ := Jvm.LawKit.callS X739 hx (y := (⟨"com/example/bare_lock/barelock/zookeeper/LockPathsChrootPinLaw", "at", "(IIICCJ)C"⟩ : MethodName)) hown (mvT hZ (hw _ (mg 7 rfl))) (mvT hZ (hw _ (mg 8 rfl))) (mvT hZ (hw _ (mg 4 rfl))) (mvT hZ (hw _ (mg 9 rfl))) (by decide) (backOf (W := 3) (at_tail l Z a0 hw [] (16 : Int32) (4 : Int32) ja xc_577 xc_578 ip h739 n0 F742 (by decide) (by decide)) hZ (hw _ (mg 9 rfl)) (hw _ (mg 4 rfl)) (by decide) (by decide)) (g := (mkF m 334 #[qI ia, qI ib, .val (.long ip), .second, qI 4, qI ja, qI xc_577, qI xc_578, qU, qU, qU, qU] [(.long ip), (.int xc_578), (.int xc_577), (.int ja), (.int 4), (.int 16), (.int 16), (.ref b579), (.ref b579)])) rfl (by rw [hml]; rfl) (argsL := [(.int 16), (.int 4), (.int ja), (.int xc_577), (.int xc_578), (.long ip)]) (rest := [(.int 16), (.ref b579), (.ref b579)]) (lenOf pd_23 rfl) rfl (by show 2 * 0 + _ ≤ _; exact Nat.le_of_eq rfl) (hb hby at_334) (fun _ _ => ⟨rfl, e739, (by decide : 23 + 0 ≤ _), (by decide : 546 + 0 ≤ _)⟩)
    dsimp only [Pt.U, Pt.locs, Pt.cells, Pt.slots] at X741 l741 y741 z741 st741 hQ741
    subst y741 z741
    obtain ⟨tv_741, rfl, N741q, e741, hr_741, he_741, hn_741⟩ := hQ741
    have N741 : Fr n0 L741 := by rw [l741]; exact Fr.app N739 N741q
    have X741 := own_mr X741 23 546 (by decide) (by decide)
    refine Go.by st741 ?_
    show Go p e below _ (T741.setTop (mkF m 337 #[qI ia, qI ib, .val (.long ip), .second, qI 4, qI ja, qI xc_577, qI xc_578, qU, qU, qU, qU] [(.int tv_741), (.int 16), (.ref b579), (.ref b579)]))
    have F744 : Exa Z h739 b579 "[C" := (F736.wr W739)
    obtain ⟨cl745, Ar745, qk745, sz745, nn745, Ha745, Gf745⟩ := id F740
    have hin746 : ¬ ((16 : Int32) < 0 ∨ cl745.slots.size ≤ ((16 : Int32)).toNatClampNeg) := inb_of sz745 ⟨by decide, by decide⟩
    obtain ⟨T747, h747, X747, e747, W747, st747⟩ := stC X741 hx hZ e741 Ar745 (j := (16 : Int32)) hin746 (g := (mkF m 337 #[qI ia, qI ib, .val (.long ip), .second, qI 4, qI ja, qI xc_577, qI xc_578, qU, qU, qU, qU] [(.int tv_741), (.int 16), (.ref b579), (.ref b579)])) rfl rfl (hb hby at_337)
    have N747 := Fr.snoc X747 N741 ge579
    have F748 : Arv Z h747 b579 k579 .char (18 : Int32) [(.int 47), (.int (nar .char xc_577)), (.int 47), (.int (nar .char xc_578)), (.int 47), (.int 98), (.int 97), (.int 114), (.int 101), (.int 45), (.int 108), (.int 111), (.int 99), (.int 107), (.int 47), (.int (nar .char tv_733)), (.int (nar .char tv_741)), (.int 0)] (.int 0) := Arv.set Ar745 qk745 sz745 nn745 Ha745 Gf745 (fits_nar_char _) W747 16 rfl (Nat.le_of_ble_eq_true rfl)
    refine Go.by st747 ?_
    show Go p e below _ (T747.setTop (mkF m 338 #[qI ia, qI ib, .val (.long ip), .second, qI 4, qI ja, qI xc_577, qI xc_578, qU, qU, qU, qU] [(.ref b579)]))
    refine Go.by (fun t k => XS.dup X747.here hx rfl (hb hby at_338) rfl rfl (XS.bipush X747.here hx rfl (hb hby at_339) (XS.bipush X747.here hx rfl (hb hby at_341) (XS.iload X747.here hx rfl (hb hby at_343) rfl (XS.iload X747.here hx rfl (hb hby at_345) rfl (XS.iload X747.here hx rfl (hb hby at_347) rfl (XS.iload X747.here hx rfl (hb hby at_349) rfl (XS.lloadN X747.here hx rfl (hb hby at_351) rfl k)))))))) ?_
    show Go p e below _ (T747.setTop (mkF m 352 #[qI ia, qI ib, .val (.long ip), .second, qI 4, qI ja, qI xc_577, qI xc_578, qU, qU, qU, qU] [(.long ip), (.int xc_578), (.int xc_577), (.int ja), (.int 4), (.int 17), (.int 17), (.ref b579), (.ref b579)]))
    have F750 : Old Z n0 h747 := (F742.wr W747 ge579)
    have F751 : Keep h0 h747 [] := (F743.wr W747 (Or.inr sz579))
    obtain ⟨_, _, ⟨T749, L749, k749, n749⟩, -, X749, ⟨Lc749, hQ749, l749, y749, z749⟩, st749⟩ := Jvm.LawKit.callS X747 hx (y := (⟨"com/example/bare_lock/barelock/zookeeper/LockPathsChrootPinLaw", "at", "(IIICCJ)C"⟩ : MethodName)) hown (mvT hZ (hw _ (mg 7 rfl))) (mvT hZ (hw _ (mg 8 rfl))) (mvT hZ (hw _ (mg 4 rfl))) (mvT hZ (hw _ (mg 9 rfl))) (by decide) (backOf (W := 3) (at_tail l Z a0 hw [] (17 : Int32) (4 : Int32) ja xc_577 xc_578 ip h747 n0 F750 (by decide) (by decide)) hZ (hw _ (mg 9 rfl)) (hw _ (mg 4 rfl)) (by decide) (by decide)) (g := (mkF m 352 #[qI ia, qI ib, .val (.long ip), .second, qI 4, qI ja, qI xc_577, qI xc_578, qU, qU, qU, qU] [(.long ip), (.int xc_578), (.int xc_577), (.int ja), (.int 4), (.int 17), (.int 17), (.ref b579), (.ref b579)])) rfl (by rw [hml]; rfl) (argsL := [(.int 17), (.int 4), (.int ja), (.int xc_577), (.int xc_578), (.long ip)]) (rest := [(.int 17), (.ref b579), (.ref b579)]) (lenOf pd_23 rfl) rfl (by show 2 * 0 + _ ≤ _; exact Nat.le_of_eq rfl) (hb hby at_352) (fun _ _ => ⟨rfl, e747, (by decide : 23 + 0 ≤ _), (by decide : 546 + 0 ≤ _)⟩)
    dsimp only [Pt.U, Pt.locs, Pt.cells, Pt.slots] at X749 l749 y749 z749 st749 hQ749
    subst y749 z749
    obtain ⟨tv_749, rfl, N749q, e749, hr_749, he_749, hn_749⟩ := hQ749
    have N749 : Fr n0 L749 := by rw [l749]; exact Fr.app N747 N749q
    have X749 := own_mr X749 23 546 (by decide) (by decide)
    refine Go.by st749 ?_
    show Go p e below _ (T749.setTop (mkF m 355 #[qI ia, qI ib, .val (.long ip), .second, qI 4, qI ja, qI xc_577, qI xc_578, qU, qU, qU, qU] [(.int tv_749), (.int 17), (.ref b579), (.ref b579)]))
    have F752 : Exa Z h747 b579 "[C" := (F744.wr W747)
    obtain ⟨cl753, Ar753, qk753, sz753, nn753, Ha753, Gf753⟩ := id F748
    have hin754 : ¬ ((17 : Int32) < 0 ∨ cl753.slots.size ≤ ((17 : Int32)).toNatClampNeg) := inb_of sz753 ⟨by decide, by decide⟩
    obtain ⟨T755, h755, X755, e755, W755, st755⟩ := stC X749 hx hZ e749 Ar753 (j := (17 : Int32)) hin754 (g := (mkF m 355 #[qI ia, qI ib, .val (.long ip), .second, qI 4, qI ja, qI xc_577, qI xc_578, qU, qU, qU, qU] [(.int tv_749), (.int 17), (.ref b579), (.ref b579)])) rfl rfl (hb hby at_355)
    have N755 := Fr.snoc X755 N749 ge579
    have F756 : Arv Z h755 b579 k579 .char (18 : Int32) [(.int 47), (.int (nar .char xc_577)), (.int 47), (.int (nar .char xc_578)), (.int 47), (.int 98), (.int 97), (.int 114), (.int 101), (.int 45), (.int 108), (.int 111), (.int 99), (.int 107), (.int 47), (.int (nar .char tv_733)), (.int (nar .char tv_741)), (.int (nar .char tv_749))] (.int 0) := Arv.set Ar753 qk753 sz753 nn753 Ha753 Gf753 (fits_nar_char _) W755 17 rfl (Nat.le_of_ble_eq_true rfl)
    refine Go.by st755 ?_
    show Go p e below _ (T755.setTop (mkF m 356 #[qI ia, qI ib, .val (.long ip), .second, qI 4, qI ja, qI xc_577, qI xc_578, qU, qU, qU, qU] [(.ref b579)]))
    have F757 : Arv Z h755 b579 k579 .char (18 : Int32) [(.int 47), (.int xc_577), (.int 47), (.int xc_578), (.int 47), (.int 98), (.int 97), (.int 114), (.int 101), (.int 45), (.int 108), (.int 111), (.int 99), (.int 107), (.int 47), (.int tv_733), (.int tv_741), (.int tv_749)] (.int 0) := by have q := F756; rw [own_narc ⟨hxx_577.1, hxx_577.2.1⟩, own_narc ⟨hxx_578.1, hxx_578.2.1⟩, own_narc hr_733, own_narc hr_741, own_narc hr_749] at q; exact q
    refine Go.by (fun t k => XS.astore X755.here hx rfl (hb hby at_356) rfl rfl (l' := #[qI ia, qI ib, .val (.long ip), .second, qI 4, qI ja, qI xc_577, qI xc_578, .val (.ref b579), qU, qU, qU]) rfl k) ?_
    show Go p e below _ (T755.setTop (mkF m 358 #[qI ia, qI ib, .val (.long ip), .second, qI 4, qI ja, qI xc_577, qI xc_578, .val (.ref b579), qU, qU, qU] []))
    have F758 : Exa Z h755 b579 "[C" := (F752.wr W755)
    have F759 : Old Z n0 h755 := (F750.wr W755 ge579)
    have F760 : Keep h0 h755 [] := (F751.wr W755 (Or.inr sz579))
    obtain ⟨T761, h761, X761, e761, E761, A761, D761, -, st761⟩ := newO X755 hx hZ hown (hw _ (mg 47 rfl)) (hw _ (mg 12 rfl)) (hw _ (mg 11 rfl)) e755 (g := (mkF m 358 #[qI ia, qI ib, .val (.long ip), .second, qI 4, qI ja, qI xc_577, qI xc_578, .val (.ref b579), qU, qU, qU] [])) rfl (hb hby at_358) (by decide) (by decide)
    obtain ⟨b761, g761⟩ : ∃ z, z = h755.size := ⟨_, rfl⟩
    rw [← g761] at A761 D761 st761
    have gl761 : h755.size ≤ b761 := Nat.le_of_eq g761.symm
    have ge761 : n0 ≤ b761 := Nat.le_trans (own_old_size F759) gl761
    have sz761 : h0.size ≤ b761 := Nat.le_trans F760.1 gl761
    have ne762 : b579 ≠ b761 := Nat.ne_of_lt (Nat.lt_of_lt_of_le F758.lt gl761)
    have F763 : Fld Z h761 b761 "java/lang/String" "value" "[B" .null := D761 (Or.inr (hw _ (mg 14 rfl))) (ty := (.array .byte)) (by decide)
    have F764 : Fld Z h761 b761 "java/lang/String" "coder" "B" (.int 0) := D761 (Or.inr (hw _ (mg 15 rfl))) (ty := .byte) (by decide)
    refine Go.by st761 ?_
    show Go p e below _ (T761.setTop (mkF m 361 #[qI ia, qI ib, .val (.long ip), .second, qI 4, qI ja, qI xc_577, qI xc_578, .val (.ref b579), qU, qU, qU] [(.ref b761)]))
    refine Go.by (fun t k => XS.dup X761.here hx rfl (hb hby at_361) rfl rfl (XS.aload X761.here hx rfl (hb hby at_362) rfl rfl k)) ?_
    show Go p e below _ (T761.setTop (mkF m 364 #[qI ia, qI ib, .val (.long ip), .second, qI 4, qI ja, qI xc_577, qI xc_578, .val (.ref b579), qU, qU, qU] [(.ref b579), (.ref b761), (.ref b761)]))
    have F766 : Old Z n0 h761 := (F759.ext E761)
    have F767 : Arv Z h761 b579 k579 .char (18 : Int32) [(.int 47), (.int xc_577), (.int 47), (.int xc_578), (.int 47), (.int 98), (.int 97), (.int 114), (.int 101), (.int 45), (.int 108), (.int 111), (.int 99), (.int 107), (.int 47), (.int tv_733), (.int tv_741), (.int tv_749)] (.int 0) := (F757.ext E761)
    have F768 : Exa Z h761 b579 "[C" := (F758.ext E761)
    have F769 : Keep h0 h761 [] := (F760.ext E761)
    obtain ⟨_, _, ⟨T765, L765, k765, n765⟩, -, X765, ⟨Lc765, hQ765, l765, y765, z765⟩, st765⟩ := X761.specialBack hx (y := (⟨"java/lang/String", "<init>", "([C)V"⟩ : MethodName)) rfl hown (mvT hZ (hw _ (mg 48 rfl))) (mvT hZ (hw _ (mg 49 rfl))) (mvT hZ (hw _ (mg 50 rfl))) (by decide) (backOf (W := 1) (init1_18 l Z a0 hw [] b761 b579 k579 (47 : Int32) xc_577 (47 : Int32) xc_578 (47 : Int32) (98 : Int32) (97 : Int32) (114 : Int32) (101 : Int32) (45 : Int32) (108 : Int32) (111 : Int32) (99 : Int32) (107 : Int32) (47 : Int32) tv_733 tv_741 tv_749 cs h761 n0 F766 A761 F763 F764 F767 P0 ge761 ne762 hcs (by decide) ⟨hxx_577.1, hxx_577.2.1⟩ (by decide) ⟨hxx_578.1, hxx_578.2.1⟩ (by decide) (by decide) (by decide) (by decide) (by decide) (by decide) (by decide) (by decide) (by decide) (by decide) (by decide) hr_733 hr_741 hr_749) hZ (hw _ (mg 50 rfl)) (hw _ (mg 11 rfl)) (by decide) (by decide)) (g := (mkF m 364 #[qI ia, qI ib, .val (.long ip), .second, qI 4, qI ja, qI xc_577, qI xc_578, .val (.ref b579), qU, qU, qU] [(.ref b579), (.ref b761), (.ref b761)])) rfl (by rw [hml]; rfl) (Steps.refl _) (a := b761) (argsL := [(.ref b579)]) (rest := [(.ref b761)]) (lenOf pd_24 rfl) rfl (by show 2 * 0 + _ ≤ _; exact Nat.le_of_eq rfl) (hb hby at_364) (fun _ _ => ⟨rfl, e761, (by decide : 24 + 1 ≤ _), (by decide : 550 + 18 ≤ _)⟩)
    dsimp only [Pt.U, Pt.locs, Pt.cells, Pt.slots] at X765 l765 y765 z765 st765 hQ765
    subst y765 z765
    obtain ⟨xb_765, kb_765, rfl, N765q, K765, fz765_xb, F765_0, F765_1, F765_2, F765_3⟩ := hQ765
    have N765 : Fr n0 L765 := by rw [l765]; exact Fr.app N755 N765q
    have X765 := own_mr X765 25 568 (by decide) (by decide)
    have ge_xb_765 : n0 ≤ xb_765 := Nat.le_trans (own_old_size F766) fz765_xb
    have sz_xb_765 : h0.size ≤ xb_765 := Nat.le_trans F769.1 fz765_xb
    have ne770 : b579 ≠ xb_765 := Nat.ne_of_lt (Nat.lt_of_lt_of_le F768.lt fz765_xb)
    have ne771 : b761 ≠ xb_765 := Nat.ne_of_lt (Nat.lt_of_lt_of_le A761.lt fz765_xb)
    refine Go.tr st765 ?_
    show Go p e below _ (T765.setTop (mkF m 367 #[qI ia, qI ib, .val (.long ip), .second, qI 4, qI ja, qI xc_577, qI xc_578, .val (.ref b579), qU, qU, qU] [(.ref b761)]))
    refine Go.by (fun t k => XS.astore X765.here hx rfl (hb hby at_367) rfl rfl (l' := #[qI ia, qI ib, .val (.long ip), .second, qI 4, qI ja, qI xc_577, qI xc_578, .val (.ref b579), .val (.ref b761), qU, qU]) rfl (XS.iload X765.here hx rfl (hb hby at_369) rfl (XS.ifYes X765.here hx rfl (pc0 := 371) (pc' := 381) rfl (hb hby at_371) rfl ((if0 _ _).trans (feq (by decide : ¬ ((4 : Int32) = (0 : Int32)))).2) (by decide) (by decide) (XS.iload X765.here hx rfl (hb hby at_381) rfl (XS.iconst X765.here hx rfl (hb hby at_383) (XS.icmpYes X765.here hx rfl (pc0 := 384) (pc' := 412) rfl (hb hby at_384) rfl (feq (by decide : ¬ ((4 : Int32) = (2 : Int32)))).2 (by decide) (by decide) k)))))) ?_
    show Go p e below _ (T765.setTop (mkF m 412 #[qI ia, qI ib, .val (.long ip), .second, qI 4, qI ja, qI xc_577, qI xc_578, .val (.ref b579), .val (.ref b761), qU, qU] []))
    have F772 : Exa Z T765.heap b579 "[C" := (F768.keep K765)
    have F773 : Old Z n0 T765.heap := (F766.keep K765 (allS ge761 all0))
    have F774 : Keep h0 T765.heap [] := (F769.trans K765 (allS (Or.inr sz761) all0))
    obtain ⟨T775, h775, X775, e775, E775, A775, D775, -, st775⟩ := newO X765 hx hZ hown (hw _ (mg 47 rfl)) (hw _ (mg 12 rfl)) (hw _ (mg 11 rfl)) rfl (g := (mkF m 412 #[qI ia, qI ib, .val (.long ip), .second, qI 4, qI ja, qI xc_577, qI xc_578, .val (.ref b579), .val (.ref b761), qU, qU] [])) rfl (hb hby at_412) (by decide) (by decide)
    obtain ⟨b775, g775⟩ : ∃ z, z = T765.heap.size := ⟨_, rfl⟩
    rw [← g775] at A775 D775 st775
    have gl775 : T765.heap.size ≤ b775 := Nat.le_of_eq g775.symm
    have ge775 : n0 ≤ b775 := Nat.le_trans (own_old_size F773) gl775
    have sz775 : h0.size ≤ b775 := Nat.le_trans F774.1 gl775
    have ne776 : b579 ≠ b775 := Nat.ne_of_lt (Nat.lt_of_lt_of_le F772.lt gl775)
    have ne777 : b761 ≠ b775 := Nat.ne_of_lt (Nat.lt_of_lt_of_le F765_0.lt gl775)
    have ne778 : xb_765 ≠ b775 := Nat.ne_of_lt (Nat.lt_of_lt_of_le F765_3.lt gl775)
    have F779 : Fld Z h775 b775 "java/lang/String" "value" "[B" .null := D775 (Or.inr (hw _ (mg 14 rfl))) (ty := (.array .byte)) (by decide)
    have F780 : Fld Z h775 b775 "java/lang/String" "coder" "B" (.int 0) := D775 (Or.inr (hw _ (mg 15 rfl))) (ty := .byte) (by decide)
    refine Go.by st775 ?_
    show Go p e below _ (T775.setTop (mkF m 415 #[qI ia, qI ib, .val (.long ip), .second, qI 4, qI ja, qI xc_577, qI xc_578, .val (.ref b579), .val (.ref b761), qU, qU] [(.ref b775)]))
    refine Go.by (fun t k => XS.dup X775.here hx rfl (hb hby at_415) rfl rfl (XS.iconst X775.here hx rfl (hb hby at_416) k)) ?_
    show Go p e below _ (T775.setTop (mkF m 417 #[qI ia, qI ib, .val (.long ip), .second, qI 4, qI ja, qI xc_577, qI xc_578, .val (.ref b579), .val (.ref b761), qU, qU] [(.int 4), (.ref b775), (.ref b775)]))
    have F781 : Exa Z h775 b579 "[C" := (F772.ext E775)
    have F782 : Exa Z h775 b761 "java/lang/String" := (F765_0.ext E775)
    have F783 : Arv Z h775 xb_765 kb_765 .byte (18 : Int32) [(.int (qB 47)), (.int (qB xc_577)), (.int (qB 47)), (.int (qB xc_578)), (.int (qB 47)), (.int (qB 98)), (.int (qB 97)), (.int (qB 114)), (.int (qB 101)), (.int (qB 45)), (.int (qB 108)), (.int (qB 111)), (.int (qB 99)), (.int (qB 107)), (.int (qB 47)), (.int (qB tv_733)), (.int (qB tv_741)), (.int (qB tv_749))] (.int 0) := (F765_3.ext E775)
    have F784 : Old Z n0 h775 := (F773.ext E775)
    have F785 : Keep h0 h775 [] := (F774.ext E775)
    obtain ⟨T786, h786, k786, X786, e786, E786, A786, Q786, st786⟩ := newPE X775 hx hZ (hw _ (mg 6 rfl)) e775 (g := (mkF m 417 #[qI ia, qI ib, .val (.long ip), .second, qI 4, qI ja, qI xc_577, qI xc_578, .val (.ref b579), .val (.ref b761), qU, qU] [(.int 4), (.ref b775), (.ref b775)])) rfl (hb hby at_417) rfl (by decide) (cap := 4) (by decide) (by decide) (by decide) (by decide) (ad := "[C") (by decide)
    obtain ⟨b786, g786⟩ : ∃ z, z = h775.size := ⟨_, rfl⟩
    rw [← g786] at A786 Q786 st786
    have gl786 : h775.size ≤ b786 := Nat.le_of_eq g786.symm
    have ge786 : n0 ≤ b786 := Nat.le_trans (own_old_size F784) gl786
    have sz786 : h0.size ≤ b786 := Nat.le_trans F785.1 gl786
    have ne787 : b579 ≠ b786 := Nat.ne_of_lt (Nat.lt_of_lt_of_le F781.lt gl786)
    have ne788 : b761 ≠ b786 := Nat.ne_of_lt (Nat.lt_of_lt_of_le F782.lt gl786)
    have ne789 : xb_765 ≠ b786 := Nat.ne_of_lt (Nat.lt_of_lt_of_le F783.lt gl786)
    have ne790 : b775 ≠ b786 := Nat.ne_of_lt (Nat.lt_of_lt_of_le A775.lt gl786)
    have F791 : Arv Z h786 b786 k786 .char (4 : Int32) [(.int 0), (.int 0), (.int 0), (.int 0)] (.int 0) := (Arv.new A786 (by decide)).pad (pad_rep [] (.int 0) 4)
    refine Go.by st786 ?_
    show Go p e below _ (T786.setTop (mkF m 419 #[qI ia, qI ib, .val (.long ip), .second, qI 4, qI ja, qI xc_577, qI xc_578, .val (.ref b579), .val (.ref b761), qU, qU] [(.ref b786), (.ref b775), (.ref b775)]))
    refine Go.by (fun t k => XS.dup X786.here hx rfl (hb hby at_419) rfl rfl (XS.iconst X786.here hx rfl (hb hby at_420) (XS.bipush X786.here hx rfl (hb hby at_421) k))) ?_
    show Go p e below _ (T786.setTop (mkF m 423 #[qI ia, qI ib, .val (.long ip), .second, qI 4, qI ja, qI xc_577, qI xc_578, .val (.ref b579), .val (.ref b761), qU, qU] [(.int 47), (.int 0), (.ref b786), (.ref b786), (.ref b775), (.ref b775)]))
    obtain ⟨cl792, Ar792, qk792, sz792, nn792, Ha792, Gf792⟩ := id F791
    have hin793 : ¬ ((0 : Int32) < 0 ∨ cl792.slots.size ≤ ((0 : Int32)).toNatClampNeg) := inb_of sz792 ⟨by decide, by decide⟩
    obtain ⟨T794, h794, X794, e794, W794, st794⟩ := stC X786 hx hZ e786 Ar792 (j := (0 : Int32)) hin793 (g := (mkF m 423 #[qI ia, qI ib, .val (.long ip), .second, qI 4, qI ja, qI xc_577, qI xc_578, .val (.ref b579), .val (.ref b761), qU, qU] [(.int 47), (.int 0), (.ref b786), (.ref b786), (.ref b775), (.ref b775)])) rfl rfl (hb hby at_423)
    have N794 := Fr.snoc X794 N765 ge786
    have F795 : Arv Z h794 b786 k786 .char (4 : Int32) [(.int 47), (.int 0), (.int 0), (.int 0)] (.int 0) := Arv.set Ar792 qk792 sz792 nn792 Ha792 Gf792 (fits_nar_char _) W794 0 rfl (Nat.le_of_ble_eq_true rfl)
    refine Go.by st794 ?_
    show Go p e below _ (T794.setTop (mkF m 424 #[qI ia, qI ib, .val (.long ip), .second, qI 4, qI ja, qI xc_577, qI xc_578, .val (.ref b579), .val (.ref b761), qU, qU] [(.ref b786), (.ref b775), (.ref b775)]))
    refine Go.by (fun t k => XS.dup X794.here hx rfl (hb hby at_424) rfl rfl (XS.iconst X794.here hx rfl (hb hby at_425) (XS.iload X794.here hx rfl (hb hby at_426) rfl k))) ?_
    show Go p e below _ (T794.setTop (mkF m 428 #[qI ia, qI ib, .val (.long ip), .second, qI 4, qI ja, qI xc_577, qI xc_578, .val (.ref b579), .val (.ref b761), qU, qU] [(.int xc_577), (.int 1), (.ref b786), (.ref b786), (.ref b775), (.ref b775)]))
    have F796 : Exa Z h794 b786 "[C" := (Q786.wr W794)
    obtain ⟨cl797, Ar797, qk797, sz797, nn797, Ha797, Gf797⟩ := id F795
    have hin798 : ¬ ((1 : Int32) < 0 ∨ cl797.slots.size ≤ ((1 : Int32)).toNatClampNeg) := inb_of sz797 ⟨by decide, by decide⟩
    obtain ⟨T799, h799, X799, e799, W799, st799⟩ := stC X794 hx hZ e794 Ar797 (j := (1 : Int32)) hin798 (g := (mkF m 428 #[qI ia, qI ib, .val (.long ip), .second, qI 4, qI ja, qI xc_577, qI xc_578, .val (.ref b579), .val (.ref b761), qU, qU] [(.int xc_577), (.int 1), (.ref b786), (.ref b786), (.ref b775), (.ref b775)])) rfl rfl (hb hby at_428)
    have N799 := Fr.snoc X799 N794 ge786
    have F800 : Arv Z h799 b786 k786 .char (4 : Int32) [(.int 47), (.int (nar .char xc_577)), (.int 0), (.int 0)] (.int 0) := Arv.set Ar797 qk797 sz797 nn797 Ha797 Gf797 (fits_nar_char _) W799 1 rfl (Nat.le_of_ble_eq_true rfl)
    refine Go.by st799 ?_
    show Go p e below _ (T799.setTop (mkF m 429 #[qI ia, qI ib, .val (.long ip), .second, qI 4, qI ja, qI xc_577, qI xc_578, .val (.ref b579), .val (.ref b761), qU, qU] [(.ref b786), (.ref b775), (.ref b775)]))
    refine Go.by (fun t k => XS.dup X799.here hx rfl (hb hby at_429) rfl rfl (XS.iconst X799.here hx rfl (hb hby at_430) (XS.bipush X799.here hx rfl (hb hby at_431) k))) ?_
    show Go p e below _ (T799.setTop (mkF m 433 #[qI ia, qI ib, .val (.long ip), .second, qI 4, qI ja, qI xc_577, qI xc_578, .val (.ref b579), .val (.ref b761), qU, qU] [(.int 47), (.int 2), (.ref b786), (.ref b786), (.ref b775), (.ref b775)]))
    have F801 : Exa Z h799 b786 "[C" := (F796.wr W799)
    obtain ⟨cl802, Ar802, qk802, sz802, nn802, Ha802, Gf802⟩ := id F800
    have hin803 : ¬ ((2 : Int32) < 0 ∨ cl802.slots.size ≤ ((2 : Int32)).toNatClampNeg) := inb_of sz802 ⟨by decide, by decide⟩
    obtain ⟨T804, h804, X804, e804, W804, st804⟩ := stC X799 hx hZ e799 Ar802 (j := (2 : Int32)) hin803 (g := (mkF m 433 #[qI ia, qI ib, .val (.long ip), .second, qI 4, qI ja, qI xc_577, qI xc_578, .val (.ref b579), .val (.ref b761), qU, qU] [(.int 47), (.int 2), (.ref b786), (.ref b786), (.ref b775), (.ref b775)])) rfl rfl (hb hby at_433)
    have N804 := Fr.snoc X804 N799 ge786
    have F805 : Arv Z h804 b786 k786 .char (4 : Int32) [(.int 47), (.int (nar .char xc_577)), (.int 47), (.int 0)] (.int 0) := Arv.set Ar802 qk802 sz802 nn802 Ha802 Gf802 (fits_nar_char _) W804 2 rfl (Nat.le_of_ble_eq_true rfl)
    refine Go.by st804 ?_
    show Go p e below _ (T804.setTop (mkF m 434 #[qI ia, qI ib, .val (.long ip), .second, qI 4, qI ja, qI xc_577, qI xc_578, .val (.ref b579), .val (.ref b761), qU, qU] [(.ref b786), (.ref b775), (.ref b775)]))
    refine Go.by (fun t k => XS.dup X804.here hx rfl (hb hby at_434) rfl rfl (XS.iconst X804.here hx rfl (hb hby at_435) (XS.iload X804.here hx rfl (hb hby at_436) rfl k))) ?_
    show Go p e below _ (T804.setTop (mkF m 438 #[qI ia, qI ib, .val (.long ip), .second, qI 4, qI ja, qI xc_577, qI xc_578, .val (.ref b579), .val (.ref b761), qU, qU] [(.int xc_578), (.int 3), (.ref b786), (.ref b786), (.ref b775), (.ref b775)]))
    have F806 : Exa Z h804 b786 "[C" := (F801.wr W804)
    obtain ⟨cl807, Ar807, qk807, sz807, nn807, Ha807, Gf807⟩ := id F805
    have hin808 : ¬ ((3 : Int32) < 0 ∨ cl807.slots.size ≤ ((3 : Int32)).toNatClampNeg) := inb_of sz807 ⟨by decide, by decide⟩
    obtain ⟨T809, h809, X809, e809, W809, st809⟩ := stC X804 hx hZ e804 Ar807 (j := (3 : Int32)) hin808 (g := (mkF m 438 #[qI ia, qI ib, .val (.long ip), .second, qI 4, qI ja, qI xc_577, qI xc_578, .val (.ref b579), .val (.ref b761), qU, qU] [(.int xc_578), (.int 3), (.ref b786), (.ref b786), (.ref b775), (.ref b775)])) rfl rfl (hb hby at_438)
    have N809 := Fr.snoc X809 N804 ge786
    have F810 : Arv Z h809 b786 k786 .char (4 : Int32) [(.int 47), (.int (nar .char xc_577)), (.int 47), (.int (nar .char xc_578))] (.int 0) := Arv.set Ar807 qk807 sz807 nn807 Ha807 Gf807 (fits_nar_char _) W809 3 rfl (Nat.le_of_ble_eq_true rfl)
    refine Go.by st809 ?_
    show Go p e below _ (T809.setTop (mkF m 439 #[qI ia, qI ib, .val (.long ip), .second, qI 4, qI ja, qI xc_577, qI xc_578, .val (.ref b579), .val (.ref b761), qU, qU] [(.ref b786), (.ref b775), (.ref b775)]))
    have F811 : Arv Z h809 b786 k786 .char (4 : Int32) [(.int 47), (.int xc_577), (.int 47), (.int xc_578)] (.int 0) := by have q := F810; rw [own_narc ⟨hxx_577.1, hxx_577.2.1⟩, own_narc ⟨hxx_578.1, hxx_578.2.1⟩] at q; exact q
    have F813 : Old Z n0 h809 := (((((F784.ext E786).wr W794 ge786).wr W799 ge786).wr W804 ge786).wr W809 ge786)
    have F814 : Exa Z h809 b775 "java/lang/String" := (((((A775.ext E786).wr W794).wr W799).wr W804).wr W809)
    have F815 : Fld Z h809 b775 "java/lang/String" "value" "[B" .null := (((((F779.ext E786).other W794 (Or.inl ne790)).other W799 (Or.inl ne790)).other W804 (Or.inl ne790)).other W809 (Or.inl ne790))
    have F816 : Fld Z h809 b775 "java/lang/String" "coder" "B" (.int 0) := (((((F780.ext E786).other W794 (Or.inl ne790)).other W799 (Or.inl ne790)).other W804 (Or.inl ne790)).other W809 (Or.inl ne790))
    have F817 : Exa Z h809 b579 "[C" := (((((F781.ext E786).wr W794).wr W799).wr W804).wr W809)
    have F818 : Exa Z h809 b761 "java/lang/String" := (((((F782.ext E786).wr W794).wr W799).wr W804).wr W809)
    have F819 : Arv Z h809 xb_765 kb_765 .byte (18 : Int32) [(.int (qB 47)), (.int (qB xc_577)), (.int (qB 47)), (.int (qB xc_578)), (.int (qB 47)), (.int (qB 98)), (.int (qB 97)), (.int (qB 114)), (.int (qB 101)), (.int (qB 45)), (.int (qB 108)), (.int (qB 111)), (.int (qB 99)), (.int (qB 107)), (.int (qB 47)), (.int (qB tv_733)), (.int (qB tv_741)), (.int (qB tv_749))] (.int 0) := (((((F783.ext E786).other W794 ne789).other W799 ne789).other W804 ne789).other W809 ne789)
    have F820 : Exa Z h809 b786 "[C" := (F806.wr W809)
    have F821 : Keep h0 h809 [] := (((((F785.ext E786).wr W794 (Or.inr sz786)).wr W799 (Or.inr sz786)).wr W804 (Or.inr sz786)).wr W809 (Or.inr sz786))
    obtain ⟨_, _, ⟨T812, L812, k812, n812⟩, -, X812, ⟨Lc812, hQ812, l812, y812, z812⟩, st812⟩ := X809.specialBack hx (y := (⟨"java/lang/String", "<init>", "([C)V"⟩ : MethodName)) rfl hown (mvT hZ (hw _ (mg 48 rfl))) (mvT hZ (hw _ (mg 49 rfl))) (mvT hZ (hw _ (mg 50 rfl))) (by decide) (backOf (W := 1) (init1_4 l Z a0 hw [] b775 b786 k786 (47 : Int32) xc_577 (47 : Int32) xc_578 cs h809 n0 F813 F814 F815 F816 F811 P0 ge775 (Ne.symm ne790) hcs (by decide) ⟨hxx_577.1, hxx_577.2.1⟩ (by decide) ⟨hxx_578.1, hxx_578.2.1⟩) hZ (hw _ (mg 50 rfl)) (hw _ (mg 11 rfl)) (by decide) (by decide)) (g := (mkF m 439 #[qI ia, qI ib, .val (.long ip), .second, qI 4, qI ja, qI xc_577, qI xc_578, .val (.ref b579), .val (.ref b761), qU, qU] [(.ref b786), (.ref b775), (.ref b775)])) rfl (by rw [hml]; rfl) (Steps.refl _) (a := b775) (argsL := [(.ref b786)]) (rest := [(.ref b775)]) (lenOf pd_24 rfl) rfl (by show 2 * 0 + _ ≤ _; exact Nat.le_of_eq rfl) (hb hby at_439) (fun _ _ => ⟨rfl, e809, (by decide : 27 + 1 ≤ _), (by decide : 576 + 4 ≤ _)⟩)
    dsimp only [Pt.U, Pt.locs, Pt.cells, Pt.slots] at X812 l812 y812 z812 st812 hQ812
    subst y812 z812
    obtain ⟨xb_812, kb_812, rfl, N812q, K812, fz812_xb, F812_0, F812_1, F812_2, F812_3⟩ := hQ812
    have N812 : Fr n0 L812 := by rw [l812]; exact Fr.app N809 N812q
    have X812 := own_mr X812 28 580 (by decide) (by decide)
    have ge_xb_812 : n0 ≤ xb_812 := Nat.le_trans (own_old_size F813) fz812_xb
    have sz_xb_812 : h0.size ≤ xb_812 := Nat.le_trans F821.1 fz812_xb
    have ne822 : b579 ≠ xb_812 := Nat.ne_of_lt (Nat.lt_of_lt_of_le F817.lt fz812_xb)
    have ne823 : b761 ≠ xb_812 := Nat.ne_of_lt (Nat.lt_of_lt_of_le F818.lt fz812_xb)
    have ne824 : xb_765 ≠ xb_812 := Nat.ne_of_lt (Nat.lt_of_lt_of_le F819.lt fz812_xb)
    have ne825 : b775 ≠ xb_812 := Nat.ne_of_lt (Nat.lt_of_lt_of_le F814.lt fz812_xb)
    have ne826 : b786 ≠ xb_812 := Nat.ne_of_lt (Nat.lt_of_lt_of_le F820.lt fz812_xb)
    refine Go.tr st812 ?_
    show Go p e below _ (T812.setTop (mkF m 442 #[qI ia, qI ib, .val (.long ip), .second, qI 4, qI ja, qI xc_577, qI xc_578, .val (.ref b579), .val (.ref b761), qU, qU] [(.ref b775)]))
    refine Go.by (fun t k => XS.astore X812.here hx rfl (hb hby at_442) rfl rfl (l' := #[qI ia, qI ib, .val (.long ip), .second, qI 4, qI ja, qI xc_577, qI xc_578, .val (.ref b579), .val (.ref b761), .val (.ref b775), qU]) rfl (XS.aload X812.here hx rfl (hb hby at_444) rfl rfl k)) ?_
    show Go p e below _ (T812.setTop (mkF m 446 #[qI ia, qI ib, .val (.long ip), .second, qI 4, qI ja, qI xc_577, qI xc_578, .val (.ref b579), .val (.ref b761), .val (.ref b775), qU] [(.ref b761)]))
    skip
    · skip
      have F828 : Old Z n0 T812.heap := (F813.keep K812 (allS ge775 all0))
      have F829 : Exa Z T812.heap b761 "java/lang/String" := (F818.keep K812)
      have F830 : Fld Z T812.heap b761 "java/lang/String" "coder" "B" (.int 0) := (((((((F765_1.ext E775).ext E786).other W794 (Or.inl ne788)).other W799 (Or.inl ne788)).other W804 (Or.inl ne788)).other W809 (Or.inl ne788)).keep K812 (ninS ne777 nin0))
      have F831 : Fld Z T812.heap b761 "java/lang/String" "value" "[B" (.ref xb_765) := (((((((F765_2.ext E775).ext E786).other W794 (Or.inl ne788)).other W799 (Or.inl ne788)).other W804 (Or.inl ne788)).other W809 (Or.inl ne788)).keep K812 (ninS ne777 nin0))
      have F832 : Arv Z T812.heap xb_765 kb_765 .byte (18 : Int32) [(.int (qB 47)), (.int (qB xc_577)), (.int (qB 47)), (.int (qB xc_578)), (.int (qB 47)), (.int (qB 98)), (.int (qB 97)), (.int (qB 114)), (.int (qB 101)), (.int (qB 45)), (.int (qB 108)), (.int (qB 111)), (.int (qB 99)), (.int (qB 107)), (.int (qB 47)), (.int (qB tv_733)), (.int (qB tv_741)), (.int (qB tv_749))] (.int 0) := (F819.keep K812 (ninS ne778 nin0))
      have hl833 : own_last [(.int (qB 47)), (.int (qB xc_577)), (.int (qB 47)), (.int (qB xc_578)), (.int (qB 47)), (.int (qB 98)), (.int (qB 97)), (.int (qB 114)), (.int (qB 101)), (.int (qB 45)), (.int (qB 108)), (.int (qB 111)), (.int (qB 99)), (.int (qB 107)), (.int (qB 47)), (.int (qB tv_733)), (.int (qB tv_741)), (.int (qB tv_749))] (18 : Int32) (16 : Int32) := by
        refine ⟨by decide, ?_, ?_⟩
        · show Value.int (qB tv_741) = .int 47; rw [he_741 (by rw [hja]; decide)]; rfl
        · intro q ha1 ha2; have ha1 : 16 < q := ha1; have ha2 : q < 18 := ha2
          rcases (by omega : q = 17) with rfl
          · exact (own_b47 hr_749 (hn_749 (by rw [hja]; decide)))
      have hl834 : own_last (own_tk [(.int (qB 47)), (.int (qB xc_577)), (.int (qB 47)), (.int (qB xc_578)), (.int (qB 47)), (.int (qB 98)), (.int (qB 97)), (.int (qB 114)), (.int (qB 101)), (.int (qB 45)), (.int (qB 108)), (.int (qB 111)), (.int (qB 99)), (.int (qB 107)), (.int (qB 47)), (.int (qB tv_733)), (.int (qB tv_741)), (.int (qB tv_749))] (16 : Int32)) (16 : Int32) (14 : Int32) := by
        refine own_last_tk ⟨by decide, rfl, ?_⟩
        intro q ha1 ha2; have ha1 : 14 < q := ha1; have ha2 : q < 16 := ha2
        rcases (by omega : q = 15) with rfl
        · exact (own_b47 hr_733 (hn_733 (by rw [hja]; decide)))
      have F835 : Keep h0 T812.heap [] := (F821.trans K812 (allS (Or.inr sz775) all0))
      have F836 : T722.heap.size ≤ T812.heap.size := (Nat.le_trans (Nat.le_trans (Nat.le_trans (Nat.le_trans (Nat.le_trans (Nat.le_trans (Nat.le_trans (Nat.le_trans (Nat.le_trans (Nat.le_trans (Nat.le_trans (Nat.le_trans (Nat.le_trans hk722 (Nat.le_of_eq W731.size.symm)) (Nat.le_of_eq W739.size.symm)) (Nat.le_of_eq W747.size.symm)) (Nat.le_of_eq W755.size.symm)) E761.1) K765.1) E775.1) E786.1) (Nat.le_of_eq W794.size.symm)) (Nat.le_of_eq W799.size.symm)) (Nat.le_of_eq W804.size.symm)) (Nat.le_of_eq W809.size.symm)) K812.1)
      have F837 : CHr Z own_EL s.vm h0 T722.vm T812.heap := (own_chK (own_chW (own_chW (own_chW (own_chW (own_chE (own_chE (own_chK (own_chE (own_chW (own_chW (own_chW (own_chW A722 W731 (Safe.exa hZ.alike F727 (by decide) (by decide))) W739 (Safe.exa hZ.alike F736 (by decide) (by decide))) W747 (Safe.exa hZ.alike F744 (by decide) (by decide))) W755 (Safe.exa hZ.alike F752 (by decide) (by decide))) E761) K765 (sfS (own_safeNull hZ.alike A761 F763) sf0)) E775) E786) W794 (Safe.exa hZ.alike Q786 (by decide) (by decide))) W799 (Safe.exa hZ.alike F796 (by decide) (by decide))) W804 (Safe.exa hZ.alike F801 (by decide) (by decide))) W809 (Safe.exa hZ.alike F806 (by decide) (by decide))) K812 (sfS (own_safeNull hZ.alike F814 F815) sf0))
      obtain ⟨_, _, ⟨T827, L827, k827, n827⟩, -, X827, sn827, gr827, ⟨Lc827, hQ827, l827, y827, z827, C827⟩, st827⟩ := callSS X812 hx (y := (⟨"com/example/bare_lock/barelock/zookeeper/LockPaths", "chroot", "(Ljava/lang/String;)Ljava/lang/String;"⟩ : MethodName)) hown (mvT hZ (hw _ (mg 69 rfl))) (mvT hZ (hw _ (mg 70 rfl))) (mvT hZ (hw _ (mg 71 rfl))) (mvT hZ (hw _ (mg 72 rfl))) (by decide) (backOfSH (W := 0) (chroot_p l Z a0 hw [] b761 xb_765 kb_765 ([(.int (qB 47)), (.int (qB xc_577)), (.int (qB 47)), (.int (qB xc_578)), (.int (qB 47)), (.int (qB 98)), (.int (qB 97)), (.int (qB 114)), (.int (qB 101)), (.int (qB 45)), (.int (qB 108)), (.int (qB 111)), (.int (qB 99)), (.int (qB 107)), (.int (qB 47)), (.int (qB tv_733)), (.int (qB tv_741)), (.int (qB tv_749))]) (16 : Int32) (14 : Int32) (4 : Int32) cs fm T812.heap n0 F828 P0 F829 F830 F831 F832 P1 hcs hfm hl833 hl834 (by decide) (by decide)) hZ (hw _ (mg 72 rfl)) (hw _ (mg 71 rfl)) (by decide) (by decide) hEL F837.1) (g := (mkF m 446 #[qI ia, qI ib, .val (.long ip), .second, qI 4, qI ja, qI xc_577, qI xc_578, .val (.ref b579), .val (.ref b761), .val (.ref b775), qU] [(.ref b761)])) rfl (by rw [hml]; rfl) (argsL := [(.ref b761)]) (rest := []) (lenOf pd_25 rfl) rfl (by show 2 * 0 + _ ≤ _; exact Nat.le_of_eq rfl) (hb hby at_446) (fun _ _ => ⟨rfl, rfl, (by decide : 28 + 6 ≤ _), (by decide : 580 + 88 ≤ _)⟩)
      dsimp only [Pt.U, Pt.locs, Pt.cells, Pt.slots] at X827 l827 y827 z827 st827 hQ827 sn827 gr827 C827
      subst y827 z827
      obtain ⟨X827, hS, hZ, hown⟩ := rebS hS (n1 := T812.heap.size) F836 X827 sn827 gr827 hZ hown
      have hk827 : T827.heap.size ≤ T827.heap.size := Nat.le_refl _
      have A827 := F837.trans C827
      obtain ⟨sb_827, xb_827, kb_827, rfl, N827q, K827, F827_0, F827_1, F827_2, F827_3⟩ := hQ827
      have N827 : Fr n0 L827 := by rw [l827]; exact Fr.app N812 N827q
      have X827 := own_mr X827 34 668 (by decide) (by decide)
      refine Go.tr st827 ?_
      show Go p e below _ (T827.setTop (mkF m 449 #[qI ia, qI ib, .val (.long ip), .second, qI 4, qI ja, qI xc_577, qI xc_578, .val (.ref b579), .val (.ref b761), .val (.ref b775), qU] [(.ref sb_827)]))
      refine Go.by (fun t k => XS.astore X827.here hx rfl (hb hby at_449) rfl rfl (l' := #[qI ia, qI ib, .val (.long ip), .second, qI 4, qI ja, qI xc_577, qI xc_578, .val (.ref b579), .val (.ref b761), .val (.ref b775), .val (.ref sb_827)]) rfl (XS.aload X827.here hx rfl (hb hby at_451) rfl rfl (XS.aload X827.here hx rfl (hb hby at_453) rfl rfl k))) ?_
      show Go p e below _ (T827.setTop (mkF m 455 #[qI ia, qI ib, .val (.long ip), .second, qI 4, qI ja, qI xc_577, qI xc_578, .val (.ref b579), .val (.ref b761), .val (.ref b775), .val (.ref sb_827)] [(.ref b775), (.ref sb_827)]))
      have F838 : Arv Z T827.heap xb_827 kb_827 .byte (4 : Int32) [(.int (qB 47)), (.int (qB xc_577)), (.int (qB 47)), (.int (qB xc_578))] (.int 0) := F827_3
      have F840 : Old Z n0 T827.heap := (F828.keep K827 all0)
      have F841 : Exa Z T827.heap b775 "java/lang/String" := (F812_0.keep K827)
      have F842 : Fld Z T827.heap b775 "java/lang/String" "coder" "B" (.int 0) := (F812_1.keep K827 nin0)
      have F843 : Fld Z T827.heap b775 "java/lang/String" "value" "[B" (.ref xb_812) := (F812_2.keep K827 nin0)
      have F844 : Arv Z T827.heap xb_812 kb_812 .byte (4 : Int32) [(.int (qB 47)), (.int (qB xc_577)), (.int (qB 47)), (.int (qB xc_578))] (.int 0) := (F812_3.keep K827 nin0)
      have F845 : Keep h0 T827.heap [] := (F835.trans K827 all0)
      obtain ⟨cq839, kq839, q839a, q839b, q839c⟩ := isOf hZ rfl F827_0
      obtain ⟨_, _, ⟨T839, L839, k839, n839⟩, -, X839, ⟨Lc839, hQ839, l839, y839, z839⟩, st839⟩ := X827.virtualBack hx (y := (⟨"java/lang/String", "equals", "(Ljava/lang/Object;)Z"⟩ : MethodName)) (z := (⟨"java/lang/String", "equals", "(Ljava/lang/Object;)Z"⟩ : MethodName)) hown (mvT hZ (hw _ (mg 139 rfl))) (mvT hZ (hw _ (mg 140 rfl))) (notFace_of_selects (args := #[]) (mvT hZ (hw _ (mg 142 rfl)))) (mvT hZ (hw _ (mg 142 rfl))) (mvT hZ (hw _ (mg 141 rfl))) (by decide) (backOf (W := 0) (str_eq l Z a0 hw [] sb_827 b775 xb_827 xb_812 kb_827 kb_812 (4 : Int32) ([(.int (qB 47)), (.int (qB xc_577)), (.int (qB 47)), (.int (qB xc_578))]) cs T827.heap n0 F840 P0 F827_0 F827_1 F827_2 F838 F841 F842 F843 F844 hcs) hZ (hw _ (mg 143 rfl)) (hw _ (mg 11 rfl)) (by decide) (by decide)) q839a q839c (g := (mkF m 455 #[qI ia, qI ib, .val (.long ip), .second, qI 4, qI ja, qI xc_577, qI xc_578, .val (.ref b579), .val (.ref b761), .val (.ref b775), .val (.ref sb_827)] [(.ref b775), (.ref sb_827)])) rfl (by rw [hml]; rfl) (Steps.refl _) (argsL := [(.ref b775)]) (rest := []) (lenOf pd_26 rfl) rfl (by show 2 * 0 + _ ≤ _; exact Nat.le_of_eq rfl) (hb hby at_455) (fun _ _ => ⟨rfl, rfl, (by decide : 34 + 0 ≤ _), (by decide : 668 + 0 ≤ _)⟩)
      dsimp only [Pt.U, Pt.locs, Pt.cells, Pt.slots] at X839 l839 y839 z839 st839 hQ839
      subst y839 z839
      obtain ⟨rfl, N839q, e839⟩ := hQ839
      have N839 : Fr n0 L839 := by rw [l839]; exact Fr.app N827 N839q
      have X839 := own_mr X839 34 668 (by decide) (by decide)
      refine Go.tr st839 ?_
      show Go p e below _ (T839.setTop (mkF m 458 #[qI ia, qI ib, .val (.long ip), .second, qI 4, qI ja, qI xc_577, qI xc_578, .val (.ref b579), .val (.ref b761), .val (.ref b775), .val (.ref sb_827)] [(.int 1)]))
      have hq : Q_law Z ia ib ip cs fm h0 n0 (some (.int (nar .boolean (1 : Int32)))) T827.heap _ := ⟨rfl, N839, F845⟩
      exact Go.retNH hS (by rw [e839]; exact hk827) (own_chEnd X839 e839 hZ hEL A827 hh) X839 hx (t := .boolean) Bd.returns (by simp) hlk (hb hby at_458) (by decide) (by decide) (by rw [e839]; exact hq)
set_option maxRecDepth 65536 in
set_option maxHeartbeats 40000000 in
theorem comes_1 {Post : Tables → Env → Array Value → State → Outcome → State → Prop} (hpost : ∀ tb e args s v u, (limb_1_1.after args s (.returned v) u = true ∧ limb_1_2.after args s (.returned v) u = true ∧ True) → ReturnedEndW s (.returned v) u (Jvm.fieldLocs frame_1_writes args s ++ Jvm.arrayLocs frame_1_arrays args s ++ Jvm.staticLocs frame_1_statics s) 40 4352 → Post tb e args s (.returned v) u) :
    ArmFor flags0 classFile x code maxLocals ret World_1 tables_1 room_1 Calls_1 rest_1 Pre_1 Post := by
  intro l hfl _ _ p e ha hc hk s m args below hf hA hF happ hP
  obtain ⟨hcalls, hrest, hpre⟩ := hP
  obtain ⟨-, -, -, hnamed, -, -, -, hat⟩ := (Spec.applies_iff hf).mp happ
  obtain ⟨hg, hn⟩ := and_e (Cond.before_iff.mp (show (Jvm.Cond.and given_1 narrow_1).before args s = true from hpre))
  obtain ⟨hcnt, hr1⟩ := and_e hg
  obtain ⟨hv0, hr2⟩ := and_e hr1
  obtain ⟨hv1, hv2⟩ := and_e hr2
  obtain ⟨w0, w1, w2, rfl⟩ : ∃ w0 w1 w2 : Value, args = #[w0, w1, w2] := by
    have hs : args.size = 3 := by simpa [Cond.value, given_1] using hcnt
    obtain ⟨L⟩ := args
    match L, hs with
    | [w0, w1, w2], _ => exact ⟨w0, w1, w2, rfl⟩
  have hw := fun d (hd : d ∈ tables_1) => atoms_spec (ws := Jvm.Cond.code x code maxLocals ret :: tables_1) hat d (List.mem_cons_of_mem _ hd)
  have hfit : Fit s := fun {y c} hc i hi => by
    obtain ⟨ha, rfl⟩ := Array.getElem?_eq_some_iff.mp hc
    have q := List.all_eq_true.mp ((Array.all_eq_true_iff_forall_mem.mp hF) _ (Array.getElem_mem ha)) i (List.mem_range.mpr hi)
    simpa [Array.getElem?_eq_getElem hi] using q
  obtain ⟨i0, ei0⟩ := is_v hv0
  obtain rfl : w0 = (.int i0) := Option.some.inj ei0
  obtain ⟨i1, ei1⟩ := is_v hv1
  obtain rfl : w1 = (.int i1) := Option.some.inj ei1
  obtain ⟨i2, ei2⟩ := isL_v hv2
  obtain rfl : w2 = (.long i2) := Option.some.inj ei2
  obtain ⟨z1, z2⟩ := and_e (Cond.before_iff.mp (show rest_1_c.before _ s = true from hrest))
  obtain ⟨z3, z4⟩ := and_e z2
  obtain ⟨z5, z6⟩ := and_e z4
  obtain ⟨cs, hcs0⟩ := is_v z3
  have SC := Sta.start hcs0 (Or.inl (Cond.before_iff.mpr z1))
  have hcs := own_ne0 hcs0 z5
  have hCH : CHv s own_EL s.vm s.heap := CHv.start (own_EW hw) hcalls.1 (Cond.before_iff.mpr z5) (hw _ (mg 13 rfl)) (hw _ (mg 12 rfl))
  obtain ⟨-, z7⟩ := and_e z6
  obtain ⟨-, z8⟩ := and_e z7
  obtain ⟨-, z9⟩ := and_e z8
  obtain ⟨-, z10⟩ := and_e z9
  obtain ⟨z11, z12⟩ := and_e z10
  obtain ⟨z13, -⟩ := and_e z12
  obtain ⟨fm, hfm0, hfm⟩ := own_isref z13
  have SF := Sta.start hfm0 (Or.inl (Cond.before_iff.mpr z11))
  obtain ⟨n, o, h1, h2, h3, _, L, rfl, ⟨rfl, N, -⟩, -, hq⟩ := law l s _ hw tables_1 i0 i1 i2 cs fm s.heap s.heap.size (Old.start s) SC SF hcs hfm p e ha hc hk s m _ below hf ((Spec.applies_iff_loose hf).mp happ).1 ⟨rfl, State.Warmed39.refl s, rfl, hCH⟩ trivial
  refine ⟨n, _, h1, h2, h3, hpost _ _ _ _ _ _ ⟨Cond.after_iff.mpr rfl, Cond.after_iff.mpr (eq_i res_at (Term.int_eval (1)) rfl), trivial⟩ ⟨hq.1, hq.2.1, hq.2.2.1, (hq.2.2.2.sift fun y hy => Or.inr (N y hy)).mono (by decide) (by decide)⟩⟩
theorem main_1_1 : Claimed_1_1 := comes_1 fun _ _ _ _ _ _ h hF => ⟨h.1, hF⟩
theorem main_1_2 : Claimed_1_2 := comes_1 fun _ _ _ _ _ _ h hF => ⟨h.2.1, hF⟩
end Jvm.Pilot.@@N@@
namespace Jvm.Pilot.@@N@@
open Jvm Jvm.ClassFile Sem Op Lib Jvm.Free Jvm.Stand Jvm.Pilot.@@N@@.Jvm.D
/-! MADE BY PROGRAM (witnessworld.py) out of the Statement's table words and the real class files: 23 classes; the members and pool entries that the words name. The judged class is class 1, her method 1. -/
namespace start1
open Jvm.ClassFile
def u (s : String) : CpInfo := .utf8 (stringToUtf16 s)
/-- a pool by its gaps: so many unusable entries, then the entry; so many at the end -/
def gap : Nat → List CpInfo → List CpInfo
  | 0, r => r
  | n + 1, r => .unusable :: gap n r
def poolList (es : List (Nat × CpInfo)) (last : Nat) : List CpInfo := es.foldr (fun e r => gap e.1 (e.2 :: r)) (gap last [])
def pool (es : List (Nat × CpInfo)) (last : Nat) : Array CpInfo := ⟨poolList es last⟩
def fileOf (pool : Array CpInfo) (this : Nat) (attrs : Array Attribute := #[]) (ms : Array MethodInfo := #[]) (fl : Nat := 33) (sup : Nat := 0) (ifs : Array Nat := #[]) (fds : Array FieldInfo := #[]) : ClassFile where
  minorVersion := 0
  majorVersion := 65
  constantPool := pool
  accessFlags := fl
  thisClass := this
  superClass := sup
  interfaces := ifs
  fields := fds
  methods := ms
  attributes := attrs
def plain (name : String) (sup : Option ClassId) : Class where
  name := name
  kind := .ordinary
  loader := none
  accessFlags := 33
  super := sup
  interfaces := #[]
  cf := none
  fields := #[]
  methods := #[]
  instanceTypes := #[]
  staticTypes := #[]
  resolved := #[]
  callSites := []
  init := .initialized
  statics := none
  mirror := none

def pool0 : Array CpInfo := pool [(5, u "<init>"), (0, u "()V"), (1, .class_ 10), (1, u "java/lang/Object")] 113

def k0c0 : Code := { maxStack := 0, maxLocals := 1, code := object_method_1_code, exceptionTable := #[], attributes := #[] }
def k0m0 : Method := { name := "<init>", desc := "()V", sig := { parameters := [], returnType := none }, accessFlags := 1, code := some k0c0 }
/-- java/lang/Object -/
def k0 : Class := { plain "java/lang/Object" none with
  accessFlags := 33
  interfaces := #[]
  cf := some (fileOf pool0 8 #[] #[{ accessFlags := 1, nameIndex := 5, descriptorIndex := 6, attributes := #[] }] 33 0 #[] #[])
  fields := #[]
  methods := #[k0m0]
  instanceTypes := #[]
  staticTypes := #[]
  resolved := Array.replicate 124 none
  statics := none }

def pool1 : Array CpInfo := pool [(2, .class_ 4), (1, u "java/lang/Object"), (0, u "<init>"), (0, u "()V"), (0, .integer 2147483647), (0, .integer 65535), (0, .methodref 10 11), (0, .class_ 12), (0, .nameAndType 13 14), (0, u "com/example/bare_lock/barelock/zookeeper/LockPathsChrootPinLaw"), (0, u "chrootChar"), (0, u "(I)C"), (0, .methodref 10 16), (0, .nameAndType 17 18), (0, u "at"), (0, u "(IIICCJ)C"), (0, .class_ 20), (0, u "java/lang/String"), (0, .methodref 19 22), (0, .nameAndType 5 23), (0, u "([C)V"), (0, .string 25), (0, u ""), (0, .methodref 27 28), (0, .class_ 29), (0, .nameAndType 30 31), (0, u "com/example/bare_lock/barelock/zookeeper/LockPaths"), (0, u "chroot"), (0, u "(Ljava/lang/String;)Ljava/lang/String;"), (0, .methodref 19 33), (0, .nameAndType 34 35), (0, u "equals"), (0, u "(Ljava/lang/Object;)Z"), (0, .long 63), (1, .string 39), (0, u "/bare-lock/"), (0, .methodref 19 41), (0, .nameAndType 42 14), (0, u "charAt"), (0, .methodref 10 44), (0, .nameAndType 45 46), (0, u "partChar"), (0, u "(JI)C"), (2, u "law"), (0, u "(IIJ)Z")] 5

def k1m0 : Method := { name := "<init>", desc := "()V", sig := { parameters := [], returnType := none }, accessFlags := 2, code := none }
def k1c1 : Code := { maxStack := 10, maxLocals := 12, code := code, exceptionTable := #[], attributes := #[] }
def k1m1 : Method := { name := "law", desc := "(IIJ)Z", sig := { parameters := [.int, .int, .long], returnType := some .boolean }, accessFlags := 9, code := some k1c1 }
def k1c2 : Code := { maxStack := 2, maxLocals := 2, code := method_3_code, exceptionTable := #[], attributes := #[] }
def k1m2 : Method := { name := "chrootChar", desc := "(I)C", sig := { parameters := [.int], returnType := some .char }, accessFlags := 10, code := some k1c2 }
def k1c3 : Code := { maxStack := 4, maxLocals := 4, code := method_4_code, exceptionTable := #[], attributes := #[] }
def k1m3 : Method := { name := "partChar", desc := "(JI)C", sig := { parameters := [.long, .int], returnType := some .char }, accessFlags := 10, code := some k1c3 }
def k1c4 : Code := { maxStack := 4, maxLocals := 8, code := method_5_code, exceptionTable := #[], attributes := #[] }
def k1m4 : Method := { name := "at", desc := "(IIICCJ)C", sig := { parameters := [.int, .int, .int, .char, .char, .long], returnType := some .char }, accessFlags := 10, code := some k1c4 }
/-- com/example/bare_lock/barelock/zookeeper/LockPathsChrootPinLaw -/
def k1 : Class := { plain "com/example/bare_lock/barelock/zookeeper/LockPathsChrootPinLaw" (some 0) with
  accessFlags := 49
  interfaces := #[]
  cf := some (fileOf pool1 10 #[] #[{ accessFlags := 2, nameIndex := 5, descriptorIndex := 6, attributes := #[] }, { accessFlags := 9, nameIndex := 49, descriptorIndex := 50, attributes := #[] }, { accessFlags := 10, nameIndex := 13, descriptorIndex := 14, attributes := #[] }, { accessFlags := 10, nameIndex := 45, descriptorIndex := 46, attributes := #[] }, { accessFlags := 10, nameIndex := 17, descriptorIndex := 18, attributes := #[] }] 49 2 #[] #[])
  fields := #[]
  methods := #[k1m0, k1m1, k1m2, k1m3, k1m4]
  instanceTypes := #[]
  staticTypes := #[]
  resolved := Array.replicate 56 none
  statics := none }

def pool2 : Array CpInfo := pool [(1, .class_ 2), (0, u "java/io/Serializable"), (0, .class_ 4), (0, u "java/lang/Object")] 2

/-- java/io/Serializable -/
def k2 : Class := { plain "java/io/Serializable" (some 0) with
  accessFlags := 1537
  interfaces := #[]
  cf := some (fileOf pool2 1 #[] #[] 1537 3 #[] #[])
  fields := #[]
  methods := #[]
  instanceTypes := #[]
  staticTypes := #[]
  resolved := Array.replicate 7 none
  statics := none }

def pool3 : Array CpInfo := pool [(1, .class_ 2), (0, u "java/lang/Comparable"), (0, .class_ 4), (0, u "java/lang/Object")] 7

/-- java/lang/Comparable -/
def k3 : Class := { plain "java/lang/Comparable" (some 0) with
  accessFlags := 1537
  interfaces := #[]
  cf := some (fileOf pool3 1 #[] #[] 1537 3 #[] #[])
  fields := #[]
  methods := #[]
  instanceTypes := #[]
  staticTypes := #[]
  resolved := Array.replicate 12 none
  statics := none }

def pool4 : Array CpInfo := pool [(2, .class_ 4), (1, u "java/lang/CharSequence"), (42, .class_ 48), (0, u "java/lang/CharSequence$1CodePointIterator"), (10, .class_ 60), (0, u "java/lang/CharSequence$1CharIterator"), (5, .class_ 67), (0, u "java/lang/Object")] 63

/-- java/lang/CharSequence -/
def k4 : Class := { plain "java/lang/CharSequence" (some 0) with
  accessFlags := 1537
  interfaces := #[]
  cf := some (fileOf pool4 2 #[.nestMembers #[47, 59]] #[] 1537 66 #[] #[])
  fields := #[]
  methods := #[]
  instanceTypes := #[]
  staticTypes := #[]
  resolved := Array.replicate 131 none
  statics := none }

def pool5 : Array CpInfo := pool [(1, .class_ 2), (0, u "java/lang/constant/Constable"), (0, .class_ 4), (0, u "java/lang/Object")] 6

/-- java/lang/constant/Constable -/
def k5 : Class := { plain "java/lang/constant/Constable" (some 0) with
  accessFlags := 1537
  interfaces := #[]
  cf := some (fileOf pool5 1 #[] #[] 1537 3 #[] #[])
  fields := #[]
  methods := #[]
  instanceTypes := #[]
  staticTypes := #[]
  resolved := Array.replicate 11 none
  statics := none }

def pool6 : Array CpInfo := pool [(1, .class_ 2), (0, u "java/lang/constant/ConstantDesc"), (0, .class_ 4), (0, u "java/lang/Object")] 32

/-- java/lang/constant/ConstantDesc -/
def k6 : Class := { plain "java/lang/constant/ConstantDesc" (some 0) with
  accessFlags := 1537
  interfaces := #[]
  cf := some (fileOf pool6 1 #[] #[] 1537 3 #[] #[])
  fields := #[]
  methods := #[]
  instanceTypes := #[]
  staticTypes := #[]
  resolved := Array.replicate 37 none
  statics := none }

def pool7 : Array CpInfo := pool [(1, .methodref 2 3), (0, .class_ 4), (0, .nameAndType 5 6), (0, u "java/lang/Object"), (0, u "<init>"), (0, u "()V"), (2, .fieldref 10 11), (0, .class_ 12), (0, .nameAndType 13 14), (0, u "java/lang/String"), (0, u "value"), (0, u "[B"), (0, .fieldref 10 16), (0, .nameAndType 17 18), (0, u "coder"), (0, u "B"), (2, u "hash"), (0, u "I"), (2, u "hashIsZero"), (0, u "Z"), (0, .methodref 10 28), (0, .nameAndType 5 29), (0, u "([CIILjava/lang/Void;)V"), (8, .fieldref 10 39), (0, .nameAndType 40 26), (0, u "COMPACT_STRINGS"), (1, .class_ 44), (1, u "java/lang/StringUTF16"), (0, u "compress"), (1, .methodref 42 48), (0, .nameAndType 49 50), (0, u "coderFromArrayLen"), (0, u "([BI)B"), (46, u "([BII)I"), (9, .class_ 109), (1, u "java/lang/StringLatin1"), (32, u "()Z"), (34, .methodref 42 178), (0, .nameAndType 45 179), (0, u "([CII)[B"), (31, u "([BB)V"), (122, u "()I"), (0, .methodref 10 336), (0, .nameAndType 17 337), (0, u "()B"), (25, u "([BI)C"), (27, u "(II)V"), (35, u "(I)C"), (64, .methodref 10 493), (0, .nameAndType 494 142), (0, u "isLatin1"), (0, .methodref 107 496), (0, .nameAndType 497 363), (0, u "charAt"), (3, u "checkIndex"), (3, .methodref 10 506), (0, .nameAndType 507 334), (0, u "length"), (5, u "checkFromToIndex"), (7, .methodref 10 522), (0, .nameAndType 523 524), (0, u "checkBoundsBeginEnd"), (0, u "(III)V"), (16, .methodref 107 542), (0, .nameAndType 543 544), (0, u "equals"), (0, u "([B[B)Z"), (28, u "(Ljava/lang/Object;)Z"), (1, .class_ 576), (0, u "java/lang/CharSequence"), (22, u "CASE_INSENSITIVE_ORDER"), (0, u "Ljava/util/Comparator;"), (35, u "(II)I"), (4, .methodref 10 642), (0, .nameAndType 643 636), (0, u "lastIndexOf"), (0, .methodref 107 645), (0, .nameAndType 643 97), (37, u "substring"), (0, u "(II)Ljava/lang/String;"), (0, .methodref 107 686), (0, .nameAndType 687 688), (0, u "newString"), (0, u "([BII)Ljava/lang/String;"), (76, u "(I)I"), (244, u "([C)V"), (42, .fieldref 1054 1055), (0, .class_ 1056), (0, .nameAndType 1057 1058), (0, u "jdk/internal/util/Preconditions"), (0, u "SIOOBE_FORMATTER"), (0, u "Ljava/util/function/BiFunction;"), (0, .methodref 1054 1060), (0, .nameAndType 501 1061), (0, u "(IILjava/util/function/BiFunction;)I"), (0, .methodref 1054 1063), (0, .nameAndType 513 1064), (0, u "(IIILjava/util/function/BiFunction;)I"), (36, u "serialPersistentFields"), (0, u "[Ljava/io/ObjectStreamField;"), (0, .class_ 1104), (0, u "java/lang/String$CaseInsensitiveComparator"), (1, .class_ 1107), (0, u "java/io/Serializable"), (0, .class_ 1109), (0, u "java/lang/Comparable"), (0, .class_ 1111), (0, u "java/lang/constant/Constable"), (0, .class_ 1113), (0, u "java/lang/constant/ConstantDesc"), (2, u "serialVersionUID"), (0, u "J"), (3, u "REPL"), (0, u "C"), (2, u "LATIN1"), (1, u "UTF16")] 323

def k7m0 : Method := { name := "<init>", desc := "()V", sig := { parameters := [], returnType := none }, accessFlags := 1, code := none }
def k7c1 : Code := { maxStack := 5, maxLocals := 2, code := jdk_42_method_3_code, exceptionTable := #[], attributes := #[] }
def k7m1 : Method := { name := "<init>", desc := "([C)V", sig := { parameters := [(.array .char)], returnType := none }, accessFlags := 1, code := some k7c1 }
def k7c2 : Code := { maxStack := 2, maxLocals := 1, code := jdk_42_method_54_code, exceptionTable := #[], attributes := #[] }
def k7m2 : Method := { name := "length", desc := "()I", sig := { parameters := [], returnType := some .int }, accessFlags := 1, code := some k7c2 }
def k7c3 : Code := { maxStack := 2, maxLocals := 2, code := jdk_42_method_56_code, exceptionTable := #[], attributes := #[] }
def k7m3 : Method := { name := "charAt", desc := "(I)C", sig := { parameters := [.int], returnType := some .char }, accessFlags := 1, code := some k7c3 }
def k7c4 : Code := { maxStack := 2, maxLocals := 3, code := jdk_42_method_66_code, exceptionTable := #[], attributes := #[] }
def k7m4 : Method := { name := "equals", desc := "(Ljava/lang/Object;)Z", sig := { parameters := [(.object "java/lang/Object")], returnType := some .boolean }, accessFlags := 1, code := some k7c4 }
def k7c5 : Code := { maxStack := 4, maxLocals := 2, code := jdk_42_method_82_code, exceptionTable := #[], attributes := #[] }
def k7m5 : Method := { name := "lastIndexOf", desc := "(I)I", sig := { parameters := [.int], returnType := some .int }, accessFlags := 1, code := some k7c5 }
def k7c6 : Code := { maxStack := 3, maxLocals := 3, code := jdk_42_method_83_code, exceptionTable := #[], attributes := #[] }
def k7m6 : Method := { name := "lastIndexOf", desc := "(II)I", sig := { parameters := [.int, .int], returnType := some .int }, accessFlags := 1, code := some k7c6 }
def k7c7 : Code := { maxStack := 3, maxLocals := 5, code := jdk_42_method_92_code, exceptionTable := #[], attributes := #[] }
def k7m7 : Method := { name := "substring", desc := "(II)Ljava/lang/String;", sig := { parameters := [.int, .int], returnType := some (.object "java/lang/String") }, accessFlags := 1, code := some k7c7 }
def k7c8 : Code := { maxStack := 4, maxLocals := 6, code := jdk_42_method_149_code, exceptionTable := #[], attributes := #[] }
def k7m8 : Method := { name := "<init>", desc := "([CIILjava/lang/Void;)V", sig := { parameters := [(.array .char), .int, .int, (.object "java/lang/Void")], returnType := none }, accessFlags := 2, code := some k7c8 }
def k7c9 : Code := { maxStack := 2, maxLocals := 3, code := jdk_42_method_151_code, exceptionTable := #[], attributes := #[] }
def k7m9 : Method := { name := "<init>", desc := "([BB)V", sig := { parameters := [(.array .byte), .byte], returnType := none }, accessFlags := 0, code := some k7c9 }
def k7c10 : Code := { maxStack := 1, maxLocals := 1, code := jdk_42_method_152_code, exceptionTable := #[], attributes := #[] }
def k7m10 : Method := { name := "coder", desc := "()B", sig := { parameters := [], returnType := some .byte }, accessFlags := 0, code := some k7c10 }
def k7c11 : Code := { maxStack := 1, maxLocals := 1, code := jdk_42_method_154_code, exceptionTable := #[], attributes := #[] }
def k7m11 : Method := { name := "isLatin1", desc := "()Z", sig := { parameters := [], returnType := some .boolean }, accessFlags := 0, code := some k7c11 }
def k7c12 : Code := { maxStack := 3, maxLocals := 2, code := jdk_42_method_155_code, exceptionTable := #[], attributes := #[] }
def k7m12 : Method := { name := "checkIndex", desc := "(II)V", sig := { parameters := [.int, .int], returnType := none }, accessFlags := 8, code := some k7c12 }
def k7c13 : Code := { maxStack := 4, maxLocals := 3, code := jdk_42_method_158_code, exceptionTable := #[], attributes := #[] }
def k7m13 : Method := { name := "checkBoundsBeginEnd", desc := "(III)V", sig := { parameters := [.int, .int, .int], returnType := none }, accessFlags := 8, code := some k7c13 }
/-- java/lang/String -/
def k7 : Class := { plain "java/lang/String" (some 0) with
  accessFlags := 49
  interfaces := #[2, 3, 4, 5, 6]
  cf := some (fileOf pool7 10 #[.nestMembers #[1103]] #[{ accessFlags := 1, nameIndex := 5, descriptorIndex := 6, attributes := #[] }, { accessFlags := 1, nameIndex := 5, descriptorIndex := 1010, attributes := #[] }, { accessFlags := 1, nameIndex := 507, descriptorIndex := 334, attributes := #[] }, { accessFlags := 1, nameIndex := 497, descriptorIndex := 427, attributes := #[] }, { accessFlags := 1, nameIndex := 543, descriptorIndex := 573, attributes := #[] }, { accessFlags := 1, nameIndex := 643, descriptorIndex := 765, attributes := #[] }, { accessFlags := 1, nameIndex := 643, descriptorIndex := 636, attributes := #[] }, { accessFlags := 1, nameIndex := 683, descriptorIndex := 684, attributes := #[] }, { accessFlags := 2, nameIndex := 5, descriptorIndex := 29, attributes := #[] }, { accessFlags := 0, nameIndex := 5, descriptorIndex := 211, attributes := #[] }, { accessFlags := 0, nameIndex := 17, descriptorIndex := 337, attributes := #[] }, { accessFlags := 0, nameIndex := 494, descriptorIndex := 142, attributes := #[] }, { accessFlags := 8, nameIndex := 501, descriptorIndex := 391, attributes := #[] }, { accessFlags := 8, nameIndex := 523, descriptorIndex := 524, attributes := #[] }] 49 2 #[1106, 1108, 575, 1110, 1112] #[{ accessFlags := 18, nameIndex := 13, descriptorIndex := 14, attributes := #[] }, { accessFlags := 18, nameIndex := 17, descriptorIndex := 18, attributes := #[] }, { accessFlags := 2, nameIndex := 21, descriptorIndex := 22, attributes := #[] }, { accessFlags := 2, nameIndex := 25, descriptorIndex := 26, attributes := #[] }, { accessFlags := 26, nameIndex := 1116, descriptorIndex := 1117, attributes := #[] }, { accessFlags := 24, nameIndex := 40, descriptorIndex := 26, attributes := #[] }, { accessFlags := 26, nameIndex := 1101, descriptorIndex := 1102, attributes := #[] }, { accessFlags := 26, nameIndex := 1121, descriptorIndex := 1122, attributes := #[] }, { accessFlags := 25, nameIndex := 599, descriptorIndex := 600, attributes := #[] }, { accessFlags := 24, nameIndex := 1125, descriptorIndex := 18, attributes := #[] }, { accessFlags := 24, nameIndex := 1127, descriptorIndex := 18, attributes := #[] }])
  fields := #[{ name := "value", type := (.array .byte), accessFlags := 18, slot := 0, constantValue := 0 }, { name := "coder", type := .byte, accessFlags := 18, slot := 1, constantValue := 0 }, { name := "hash", type := .int, accessFlags := 2, slot := 2, constantValue := 0 }, { name := "hashIsZero", type := .boolean, accessFlags := 2, slot := 3, constantValue := 0 }, { name := "serialVersionUID", type := .long, accessFlags := 26, slot := 0, constantValue := 0 }, { name := "COMPACT_STRINGS", type := .boolean, accessFlags := 24, slot := 1, constantValue := 0 }, { name := "serialPersistentFields", type := (.array (.object "java/io/ObjectStreamField")), accessFlags := 26, slot := 2, constantValue := 0 }, { name := "REPL", type := .char, accessFlags := 26, slot := 3, constantValue := 0 }, { name := "CASE_INSENSITIVE_ORDER", type := (.object "java/util/Comparator"), accessFlags := 25, slot := 4, constantValue := 0 }, { name := "LATIN1", type := .byte, accessFlags := 24, slot := 5, constantValue := 0 }, { name := "UTF16", type := .byte, accessFlags := 24, slot := 6, constantValue := 0 }]
  methods := #[k7m0, k7m1, k7m2, k7m3, k7m4, k7m5, k7m6, k7m7, k7m8, k7m9, k7m10, k7m11, k7m12, k7m13]
  instanceTypes := #[(.array .byte), .byte, .int, .boolean]
  staticTypes := #[.long, .boolean, (.array (.object "java/io/ObjectStreamField")), .char, (.object "java/util/Comparator"), .byte, .byte]
  resolved := Array.replicate 1451 none
  statics := some 0 }

def pool8 : Array CpInfo := pool [(1, .class_ 2), (0, u "java/lang/String"), (1, .class_ 6), (1, u "java/lang/Object"), (0, u "<init>"), (0, u "()V"), (0, .methodref 1 10), (0, .nameAndType 11 12), (0, u "checkIndex"), (0, u "(II)V"), (1, .class_ 16), (1, u "java/lang/StringLatin1"), (21, .methodref 39 40), (0, .class_ 41), (0, .nameAndType 42 43), (0, u "java/lang/Math"), (0, u "min"), (0, u "(II)I"), (9, u "([BI)C"), (34, .methodref 14 89), (0, .nameAndType 90 91), (0, u "canEncode"), (0, u "(I)Z"), (20, .methodref 1 113), (0, .nameAndType 7 114), (0, u "([BB)V"), (6, u "$assertionsDisabled"), (0, u "Z"), (8, .class_ 133), (1, u "java/util/Arrays"), (17, .string 152), (0, u ""), (43, u "newString"), (0, u "([BII)Ljava/lang/String;"), (23, .class_ 223), (1, u "java/lang/StringLatin1$LinesSpliterator"), (8, .methodref 131 233), (0, .nameAndType 234 235), (0, u "copyOfRange"), (0, u "([BII)[B"), (16, u "charAt"), (8, u "([BII)I"), (19, u "equals"), (0, u "([B[B)Z"), (26, u "lastIndexOf"), (80, .class_ 391), (0, u "java/lang/StringLatin1$CharsSpliterator")] 3

def k8m0 : Method := { name := "<init>", desc := "()V", sig := { parameters := [], returnType := none }, accessFlags := 0, code := none }
def k8c1 : Code := { maxStack := 2, maxLocals := 2, code := jdk_43_method_2_code, exceptionTable := #[], attributes := #[] }
def k8m1 : Method := { name := "charAt", desc := "([BI)C", sig := { parameters := [(.array .byte), .int], returnType := some .char }, accessFlags := 9, code := some k8c1 }
def k8c2 : Code := { maxStack := 2, maxLocals := 1, code := jdk_43_method_4_code, exceptionTable := #[], attributes := #[] }
def k8m2 : Method := { name := "canEncode", desc := "(I)Z", sig := { parameters := [.int], returnType := some .boolean }, accessFlags := 9, code := some k8c2 }
def k8c3 : Code := { maxStack := 3, maxLocals := 3, code := jdk_43_method_13_code, exceptionTable := #[], attributes := #[] }
def k8m3 : Method := { name := "equals", desc := "([B[B)Z", sig := { parameters := [(.array .byte), (.array .byte)], returnType := some .boolean }, accessFlags := 9, code := some k8c3 }
def k8c4 : Code := { maxStack := 3, maxLocals := 4, code := jdk_43_method_27_code, exceptionTable := #[], attributes := #[] }
def k8m4 : Method := { name := "lastIndexOf", desc := "([BII)I", sig := { parameters := [(.array .byte), .int, .int], returnType := some .int }, accessFlags := 9, code := some k8c4 }
def k8c5 : Code := { maxStack := 6, maxLocals := 3, code := jdk_43_method_47_code, exceptionTable := #[], attributes := #[] }
def k8m5 : Method := { name := "newString", desc := "([BII)Ljava/lang/String;", sig := { parameters := [(.array .byte), .int, .int], returnType := some (.object "java/lang/String") }, accessFlags := 9, code := some k8c5 }
/-- java/lang/StringLatin1 -/
def k8 : Class := { plain "java/lang/StringLatin1" (some 0) with
  accessFlags := 48
  interfaces := #[]
  cf := some (fileOf pool8 14 #[.nestMembers #[390, 221]] #[{ accessFlags := 0, nameIndex := 7, descriptorIndex := 8, attributes := #[] }, { accessFlags := 9, nameIndex := 252, descriptorIndex := 53, attributes := #[] }, { accessFlags := 9, nameIndex := 90, descriptorIndex := 91, attributes := #[] }, { accessFlags := 9, nameIndex := 281, descriptorIndex := 282, attributes := #[] }, { accessFlags := 9, nameIndex := 309, descriptorIndex := 261, attributes := #[] }, { accessFlags := 9, nameIndex := 196, descriptorIndex := 197, attributes := #[] }] 48 4 #[] #[{ accessFlags := 4120, nameIndex := 121, descriptorIndex := 122, attributes := #[] }])
  fields := #[{ name := "$assertionsDisabled", type := .boolean, accessFlags := 4120, slot := 0, constantValue := 0 }]
  methods := #[k8m0, k8m1, k8m2, k8m3, k8m4, k8m5]
  instanceTypes := #[]
  staticTypes := #[.boolean]
  resolved := Array.replicate 395 none
  statics := none }

def pool9 : Array CpInfo := pool [(2, .class_ 4), (1, u "java/lang/Object"), (0, u "<init>"), (0, u "()V"), (17, .class_ 26), (1, u "jdk/internal/util/Preconditions"), (6, u "checkIndex"), (13, u "checkFromToIndex"), (7, .class_ 56), (0, u "jdk/internal/util/Preconditions$4"), (57, .class_ 115), (0, u "jdk/internal/util/Preconditions$1"), (7, u "SIOOBE_FORMATTER"), (0, u "Ljava/util/function/BiFunction;"), (0, .class_ 126), (0, u "jdk/internal/util/Preconditions$2"), (3, u "AIOOBE_FORMATTER"), (0, .class_ 132), (0, u "jdk/internal/util/Preconditions$3"), (3, u "IOOBE_FORMATTER"), (41, u "(IILjava/util/function/BiFunction;)I"), (4, u "(IIILjava/util/function/BiFunction;)I")] 10

def k9m0 : Method := { name := "<init>", desc := "()V", sig := { parameters := [], returnType := none }, accessFlags := 1, code := none }
def k9c1 : Code := { maxStack := 3, maxLocals := 3, code := jdk_41_method_11_code, exceptionTable := #[], attributes := #[] }
def k9m1 : Method := { name := "checkIndex", desc := "(IILjava/util/function/BiFunction;)I", sig := { parameters := [.int, .int, (.object "java/util/function/BiFunction")], returnType := some .int }, accessFlags := 9, code := some k9c1 }
def k9c2 : Code := { maxStack := 4, maxLocals := 4, code := jdk_41_method_12_code, exceptionTable := #[], attributes := #[] }
def k9m2 : Method := { name := "checkFromToIndex", desc := "(IIILjava/util/function/BiFunction;)I", sig := { parameters := [.int, .int, .int, (.object "java/util/function/BiFunction")], returnType := some .int }, accessFlags := 9, code := some k9c2 }
/-- jdk/internal/util/Preconditions -/
def k9 : Class := { plain "jdk/internal/util/Preconditions" (some 0) with
  accessFlags := 33
  interfaces := #[]
  cf := some (fileOf pool9 24 #[.nestMembers #[55, 131, 125, 114]] #[{ accessFlags := 1, nameIndex := 5, descriptorIndex := 6, attributes := #[] }, { accessFlags := 9, nameIndex := 33, descriptorIndex := 178, attributes := #[] }, { accessFlags := 9, nameIndex := 47, descriptorIndex := 183, attributes := #[] }] 33 2 #[] #[{ accessFlags := 25, nameIndex := 123, descriptorIndex := 124, attributes := #[] }, { accessFlags := 25, nameIndex := 130, descriptorIndex := 124, attributes := #[] }, { accessFlags := 25, nameIndex := 136, descriptorIndex := 124, attributes := #[] }])
  fields := #[{ name := "SIOOBE_FORMATTER", type := (.object "java/util/function/BiFunction"), accessFlags := 25, slot := 0, constantValue := 0 }, { name := "AIOOBE_FORMATTER", type := (.object "java/util/function/BiFunction"), accessFlags := 25, slot := 1, constantValue := 0 }, { name := "IOOBE_FORMATTER", type := (.object "java/util/function/BiFunction"), accessFlags := 25, slot := 2, constantValue := 0 }]
  methods := #[k9m0, k9m1, k9m2]
  instanceTypes := #[]
  staticTypes := #[(.object "java/util/function/BiFunction"), (.object "java/util/function/BiFunction"), (.object "java/util/function/BiFunction")]
  resolved := Array.replicate 194 none
  statics := some 1 }

def pool10 : Array CpInfo := pool [(6, .class_ 8), (1, u "java/lang/Object"), (0, u "<init>"), (0, u "()V"), (1, .class_ 14), (1, u "java/lang/StringUTF16"), (31, u "$assertionsDisabled"), (0, u "Z"), (13, u "HI_BYTE_SHIFT"), (0, u "I"), (2, u "LO_BYTE_SHIFT"), (49, .methodref 12 116), (0, .nameAndType 117 118), (0, u "compress"), (0, u "([CI[BII)I"), (3, u "([CII)[B"), (138, u "coderFromArrayLen"), (0, u "([BI)B"), (106, .class_ 371), (1, u "java/lang/StringUTF16$LinesSpliterator"), (58, u "MAX_LENGTH"), (196, .class_ 628), (0, u "java/lang/StringUTF16$CodePointsSpliterator"), (0, .class_ 630), (0, u "java/lang/StringUTF16$CharsSpliterator")] 4

def k10m0 : Method := { name := "<init>", desc := "()V", sig := { parameters := [], returnType := none }, accessFlags := 0, code := none }
def k10c1 : Code := { maxStack := 2, maxLocals := 2, code := jdk_52_method_15_code, exceptionTable := #[], attributes := #[] }
def k10m1 : Method := { name := "coderFromArrayLen", desc := "([BI)B", sig := { parameters := [(.array .byte), .int], returnType := some .byte }, accessFlags := 8, code := some k10c1 }
def k10c2 : Code := { maxStack := 5, maxLocals := 6, code := jdk_52_method_16_code, exceptionTable := #[], attributes := #[] }
def k10m2 : Method := { name := "compress", desc := "([CII)[B", sig := { parameters := [(.array .char), .int, .int], returnType := some (.array .byte) }, accessFlags := 9, code := some k10c2 }
def k10c3 : Code := { maxStack := 3, maxLocals := 7, code := jdk_52_method_21_code, exceptionTable := #[], attributes := #[] }
def k10m3 : Method := { name := "compress", desc := "([CI[BII)I", sig := { parameters := [(.array .char), .int, (.array .byte), .int, .int], returnType := some .int }, accessFlags := 9, code := some k10c3 }
/-- java/lang/StringUTF16 -/
def k10 : Class := { plain "java/lang/StringUTF16" (some 0) with
  accessFlags := 48
  interfaces := #[]
  cf := some (fileOf pool10 12 #[.nestMembers #[627, 629, 369]] #[{ accessFlags := 0, nameIndex := 9, descriptorIndex := 10, attributes := #[] }, { accessFlags := 8, nameIndex := 261, descriptorIndex := 262, attributes := #[] }, { accessFlags := 9, nameIndex := 117, descriptorIndex := 122, attributes := #[] }, { accessFlags := 9, nameIndex := 117, descriptorIndex := 118, attributes := #[] }] 48 6 #[] #[{ accessFlags := 26, nameIndex := 61, descriptorIndex := 62, attributes := #[] }, { accessFlags := 26, nameIndex := 65, descriptorIndex := 62, attributes := #[] }, { accessFlags := 24, nameIndex := 430, descriptorIndex := 62, attributes := #[] }, { accessFlags := 4120, nameIndex := 46, descriptorIndex := 47, attributes := #[] }])
  fields := #[{ name := "HI_BYTE_SHIFT", type := .int, accessFlags := 26, slot := 0, constantValue := 0 }, { name := "LO_BYTE_SHIFT", type := .int, accessFlags := 26, slot := 1, constantValue := 0 }, { name := "MAX_LENGTH", type := .int, accessFlags := 24, slot := 2, constantValue := 0 }, { name := "$assertionsDisabled", type := .boolean, accessFlags := 4120, slot := 3, constantValue := 0 }]
  methods := #[k10m0, k10m1, k10m2, k10m3]
  instanceTypes := #[]
  staticTypes := #[.int, .int, .int, .boolean]
  resolved := Array.replicate 635 none
  statics := none }

def pool11 : Array CpInfo := pool [(2, .class_ 4), (1, u "java/lang/Object"), (0, u "<init>"), (0, u "()V"), (1, .class_ 10), (1, u "com/example/bare_lock/barelock/zookeeper/LockPaths"), (1, u "(Ljava/lang/String;)Ljava/lang/String;"), (15, .methodref 29 30), (0, .class_ 31), (0, .nameAndType 32 33), (0, u "java/lang/String"), (0, u "lastIndexOf"), (0, u "(I)I"), (0, .methodref 29 35), (0, .nameAndType 36 37), (0, u "substring"), (0, u "(II)Ljava/lang/String;"), (0, .string 39), (0, u "/bare-lock"), (0, .methodref 29 41), (0, .nameAndType 42 43), (0, u "length"), (0, u "()I"), (9, u "IN_LINE"), (0, u "Ljava/util/Comparator;"), (58, u "HEX"), (0, u "[C"), (27, u "ROOT"), (0, u "Ljava/lang/String;"), (1, u "SEQUENCE_DIGITS"), (0, u "I"), (7, u "chroot")] 52

def k11m0 : Method := { name := "<init>", desc := "()V", sig := { parameters := [], returnType := none }, accessFlags := 2, code := none }
def k11c1 : Code := { maxStack := 4, maxLocals := 2, code := prog_11_method_4_code, exceptionTable := #[], attributes := #[] }
def k11m1 : Method := { name := "chroot", desc := "(Ljava/lang/String;)Ljava/lang/String;", sig := { parameters := [(.object "java/lang/String")], returnType := some (.object "java/lang/String") }, accessFlags := 8, code := some k11c1 }
/-- com/example/bare_lock/barelock/zookeeper/LockPaths -/
def k11 : Class := { plain "com/example/bare_lock/barelock/zookeeper/LockPaths" (some 0) with
  accessFlags := 32
  interfaces := #[]
  cf := some (fileOf pool11 8 #[] #[{ accessFlags := 2, nameIndex := 5, descriptorIndex := 6, attributes := #[] }, { accessFlags := 8, nameIndex := 154, descriptorIndex := 12, attributes := #[] }] 32 2 #[] #[{ accessFlags := 24, nameIndex := 142, descriptorIndex := 143, attributes := #[] }, { accessFlags := 26, nameIndex := 145, descriptorIndex := 146, attributes := #[] }, { accessFlags := 26, nameIndex := 53, descriptorIndex := 54, attributes := #[] }, { accessFlags := 26, nameIndex := 113, descriptorIndex := 114, attributes := #[] }])
  fields := #[{ name := "ROOT", type := (.object "java/lang/String"), accessFlags := 24, slot := 0, constantValue := 0 }, { name := "SEQUENCE_DIGITS", type := .int, accessFlags := 26, slot := 1, constantValue := 0 }, { name := "IN_LINE", type := (.object "java/util/Comparator"), accessFlags := 26, slot := 2, constantValue := 0 }, { name := "HEX", type := (.array .char), accessFlags := 26, slot := 3, constantValue := 0 }]
  methods := #[k11m0, k11m1]
  instanceTypes := #[]
  staticTypes := #[(.object "java/lang/String"), .int, (.object "java/util/Comparator"), (.array .char)]
  resolved := Array.replicate 207 none
  statics := none }

def pool12 : Array CpInfo := pool [(1, .class_ 2), (0, u "java/lang/Math"), (1, .class_ 6), (1, u "java/lang/Object"), (0, u "<init>"), (0, u "()V"), (89, .class_ 100), (1, u "java/lang/Math$RandomNumberGeneratorHolder"), (71, u "negativeZeroFloatBits"), (0, u "J"), (2, u "negativeZeroDoubleBits"), (24, u "min"), (43, u "$assertionsDisabled"), (0, u "Z"), (88, u "(II)I"), (2, u "twoToTheDoubleScaleDown"), (0, u "D"), (4, u "twoToTheDoubleScaleUp"), (9, u "E"), (3, u "PI"), (2, u "TAU"), (2, u "DEGREES_TO_RADIANS"), (0, u "RADIANS_TO_DEGREES")] 94

def k12m0 : Method := { name := "<init>", desc := "()V", sig := { parameters := [], returnType := none }, accessFlags := 2, code := none }
def k12c1 : Code := { maxStack := 2, maxLocals := 2, code := jdk_29_method_69_code, exceptionTable := #[], attributes := #[] }
def k12m1 : Method := { name := "min", desc := "(II)I", sig := { parameters := [.int, .int], returnType := some .int }, accessFlags := 9, code := some k12c1 }
/-- java/lang/Math -/
def k12 : Class := { plain "java/lang/Math" (some 0) with
  accessFlags := 49
  interfaces := #[]
  cf := some (fileOf pool12 1 #[.nestMembers #[98]] #[{ accessFlags := 2, nameIndex := 7, descriptorIndex := 8, attributes := #[] }, { accessFlags := 9, nameIndex := 201, descriptorIndex := 335, attributes := #[] }] 49 4 #[] #[{ accessFlags := 25, nameIndex := 354, descriptorIndex := 339, attributes := #[] }, { accessFlags := 25, nameIndex := 358, descriptorIndex := 339, attributes := #[] }, { accessFlags := 25, nameIndex := 361, descriptorIndex := 339, attributes := #[] }, { accessFlags := 26, nameIndex := 364, descriptorIndex := 339, attributes := #[] }, { accessFlags := 26, nameIndex := 365, descriptorIndex := 339, attributes := #[] }, { accessFlags := 26, nameIndex := 172, descriptorIndex := 173, attributes := #[] }, { accessFlags := 26, nameIndex := 176, descriptorIndex := 173, attributes := #[] }, { accessFlags := 8, nameIndex := 344, descriptorIndex := 339, attributes := #[] }, { accessFlags := 8, nameIndex := 338, descriptorIndex := 339, attributes := #[] }, { accessFlags := 4120, nameIndex := 245, descriptorIndex := 246, attributes := #[] }])
  fields := #[{ name := "E", type := .double, accessFlags := 25, slot := 0, constantValue := 0 }, { name := "PI", type := .double, accessFlags := 25, slot := 1, constantValue := 0 }, { name := "TAU", type := .double, accessFlags := 25, slot := 2, constantValue := 0 }, { name := "DEGREES_TO_RADIANS", type := .double, accessFlags := 26, slot := 3, constantValue := 0 }, { name := "RADIANS_TO_DEGREES", type := .double, accessFlags := 26, slot := 4, constantValue := 0 }, { name := "negativeZeroFloatBits", type := .long, accessFlags := 26, slot := 5, constantValue := 0 }, { name := "negativeZeroDoubleBits", type := .long, accessFlags := 26, slot := 6, constantValue := 0 }, { name := "twoToTheDoubleScaleUp", type := .double, accessFlags := 8, slot := 7, constantValue := 0 }, { name := "twoToTheDoubleScaleDown", type := .double, accessFlags := 8, slot := 8, constantValue := 0 }, { name := "$assertionsDisabled", type := .boolean, accessFlags := 4120, slot := 9, constantValue := 0 }]
  methods := #[k12m0, k12m1]
  instanceTypes := #[]
  staticTypes := #[.double, .double, .double, .double, .double, .long, .long, .double, .double, .boolean]
  resolved := Array.replicate 460 none
  statics := none }

def pool13 : Array CpInfo := pool [(2, .class_ 4), (1, u "java/lang/Object"), (0, u "<init>"), (0, u "()V"), (7, .class_ 16), (1, u "java/util/Arrays"), (57, .class_ 76), (1, u "java/util/Arrays$NaturalOrder"), (36, .class_ 115), (1, u "java/util/Arrays$LegacyMergeSort"), (1, u "Z"), (21, u "copyOfRange"), (10, .methodref 151 152), (0, .class_ 153), (0, .nameAndType 154 155), (0, u "java/lang/System"), (0, u "arraycopy"), (0, u "(Ljava/lang/Object;ILjava/lang/Object;II)V"), (148, .methodref 305 306), (0, .class_ 307), (0, .nameAndType 308 309), (0, u "java/lang/Math"), (0, u "min"), (0, u "(II)I"), (29, .methodref 14 340), (0, .nameAndType 341 342), (0, u "copyOfRangeByte"), (0, u "([BII)[B"), (0, .methodref 14 344), (0, .nameAndType 345 346), (0, u "checkLength"), (0, u "(II)V"), (28, .class_ 376), (0, u "java/util/Arrays$ArrayList"), (68, u "$assertionsDisabled"), (269, u "MIN_ARRAY_SORT_GRAN"), (0, u "I"), (2, u "INSERTIONSORT_THRESHOLD"), (255, .class_ 976), (0, u "java/util/Arrays$ArrayItr")] 52

def k13m0 : Method := { name := "<init>", desc := "()V", sig := { parameters := [], returnType := none }, accessFlags := 2, code := none }
def k13c1 : Code := { maxStack := 4, maxLocals := 2, code := jdk_65_method_131_code, exceptionTable := #[], attributes := #[] }
def k13m1 : Method := { name := "checkLength", desc := "(II)V", sig := { parameters := [.int, .int], returnType := none }, accessFlags := 10, code := some k13c1 }
def k13c2 : Code := { maxStack := 3, maxLocals := 3, code := jdk_65_method_132_code, exceptionTable := #[], attributes := #[] }
def k13m2 : Method := { name := "copyOfRange", desc := "([BII)[B", sig := { parameters := [(.array .byte), .int, .int], returnType := some (.array .byte) }, accessFlags := 9, code := some k13c2 }
def k13c3 : Code := { maxStack := 6, maxLocals := 5, code := jdk_65_method_133_code, exceptionTable := #[], attributes := #[] }
def k13m3 : Method := { name := "copyOfRangeByte", desc := "([BII)[B", sig := { parameters := [(.array .byte), .int, .int], returnType := some (.array .byte) }, accessFlags := 10, code := some k13c3 }
/-- java/util/Arrays -/
def k13 : Class := { plain "java/util/Arrays" (some 0) with
  accessFlags := 49
  interfaces := #[]
  cf := some (fileOf pool13 14 #[.nestMembers #[975, 375, 113, 74]] #[{ accessFlags := 2, nameIndex := 5, descriptorIndex := 6, attributes := #[] }, { accessFlags := 10, nameIndex := 345, descriptorIndex := 346, attributes := #[] }, { accessFlags := 9, nameIndex := 139, descriptorIndex := 342, attributes := #[] }, { accessFlags := 10, nameIndex := 341, descriptorIndex := 342, attributes := #[] }] 49 2 #[] #[{ accessFlags := 26, nameIndex := 715, descriptorIndex := 716, attributes := #[] }, { accessFlags := 26, nameIndex := 719, descriptorIndex := 716, attributes := #[] }, { accessFlags := 4120, nameIndex := 445, descriptorIndex := 117, attributes := #[] }])
  fields := #[{ name := "MIN_ARRAY_SORT_GRAN", type := .int, accessFlags := 26, slot := 0, constantValue := 0 }, { name := "INSERTIONSORT_THRESHOLD", type := .int, accessFlags := 26, slot := 1, constantValue := 0 }, { name := "$assertionsDisabled", type := .boolean, accessFlags := 4120, slot := 2, constantValue := 0 }]
  methods := #[k13m0, k13m1, k13m2, k13m3]
  instanceTypes := #[]
  staticTypes := #[.int, .int, .boolean]
  resolved := Array.replicate 1029 none
  statics := none }

def pool14 : Array CpInfo := pool [(2, .class_ 4), (1, u "java/lang/Object"), (0, u "<init>"), (0, u "()V"), (1, .class_ 10), (1, u "java/lang/System"), (0, u "allowSecurityManager"), (0, u "I"), (16, u "cons"), (0, u "Ljava/io/Console;"), (77, .class_ 110), (1, u "java/lang/System$CallersHolder"), (43, u "initialErrStream"), (0, u "Ljava/io/PrintStream;"), (19, u "security"), (0, u "Ljava/lang/SecurityManager;"), (31, .class_ 209), (0, u "java/lang/System$1"), (7, u "props"), (0, u "Ljava/util/Properties;"), (2, u "lineSeparator"), (0, u "Ljava/lang/String;"), (96, .class_ 321), (1, u "java/lang/System$LoggerFinder"), (5, .class_ 328), (0, u "java/lang/System$Logger"), (67, u "err"), (2, u "out"), (91, u "notSupportedJnuEncoding"), (15, u "in"), (17, u "initialIn"), (0, u "Ljava/io/InputStream;"), (35, u "bootLayer"), (0, u "Ljava/lang/ModuleLayer;"), (99, .class_ 664), (0, u "java/lang/System$2"), (9, u "NEVER"), (2, u "MAYBE"), (49, u "arraycopy"), (0, u "(Ljava/lang/Object;ILjava/lang/Object;II)V"), (72, .class_ 802), (0, u "java/lang/System$Logger$Level")] 31

def k14m0 : Method := { name := "<init>", desc := "()V", sig := { parameters := [], returnType := none }, accessFlags := 2, code := none }
def k14m1 : Method := { name := "arraycopy", desc := "(Ljava/lang/Object;ILjava/lang/Object;II)V", sig := { parameters := [(.object "java/lang/Object"), .int, (.object "java/lang/Object"), .int, .int], returnType := none }, accessFlags := 265, code := none }
/-- java/lang/System -/
def k14 : Class := { plain "java/lang/System" (some 0) with
  accessFlags := 49
  interfaces := #[]
  cf := some (fileOf pool14 8 #[.nestMembers #[319, 327, 801, 108, 663, 208]] #[{ accessFlags := 2, nameIndex := 5, descriptorIndex := 6, attributes := #[] }, { accessFlags := 265, nameIndex := 727, descriptorIndex := 728, attributes := #[] }] 49 2 #[] #[{ accessFlags := 25, nameIndex := 507, descriptorIndex := 526, attributes := #[] }, { accessFlags := 25, nameIndex := 399, descriptorIndex := 155, attributes := #[] }, { accessFlags := 25, nameIndex := 396, descriptorIndex := 155, attributes := #[] }, { accessFlags := 10, nameIndex := 525, descriptorIndex := 526, attributes := #[] }, { accessFlags := 26, nameIndex := 674, descriptorIndex := 12, attributes := #[] }, { accessFlags := 26, nameIndex := 677, descriptorIndex := 12, attributes := #[] }, { accessFlags := 10, nameIndex := 11, descriptorIndex := 12, attributes := #[] }, { accessFlags := 74, nameIndex := 175, descriptorIndex := 176, attributes := #[] }, { accessFlags := 10, nameIndex := 491, descriptorIndex := 222, attributes := #[] }, { accessFlags := 74, nameIndex := 29, descriptorIndex := 30, attributes := #[] }, { accessFlags := 74, nameIndex := 154, descriptorIndex := 155, attributes := #[] }, { accessFlags := 10, nameIndex := 217, descriptorIndex := 218, attributes := #[] }, { accessFlags := 10, nameIndex := 221, descriptorIndex := 222, attributes := #[] }, { accessFlags := 8, nameIndex := 562, descriptorIndex := 563, attributes := #[] }])
  fields := #[{ name := "in", type := (.object "java/io/InputStream"), accessFlags := 25, slot := 0, constantValue := 0 }, { name := "out", type := (.object "java/io/PrintStream"), accessFlags := 25, slot := 1, constantValue := 0 }, { name := "err", type := (.object "java/io/PrintStream"), accessFlags := 25, slot := 2, constantValue := 0 }, { name := "initialIn", type := (.object "java/io/InputStream"), accessFlags := 10, slot := 3, constantValue := 0 }, { name := "NEVER", type := .int, accessFlags := 26, slot := 4, constantValue := 0 }, { name := "MAYBE", type := .int, accessFlags := 26, slot := 5, constantValue := 0 }, { name := "allowSecurityManager", type := .int, accessFlags := 10, slot := 6, constantValue := 0 }, { name := "security", type := (.object "java/lang/SecurityManager"), accessFlags := 74, slot := 7, constantValue := 0 }, { name := "notSupportedJnuEncoding", type := (.object "java/lang/String"), accessFlags := 10, slot := 8, constantValue := 0 }, { name := "cons", type := (.object "java/io/Console"), accessFlags := 74, slot := 9, constantValue := 0 }, { name := "initialErrStream", type := (.object "java/io/PrintStream"), accessFlags := 74, slot := 10, constantValue := 0 }, { name := "props", type := (.object "java/util/Properties"), accessFlags := 10, slot := 11, constantValue := 0 }, { name := "lineSeparator", type := (.object "java/lang/String"), accessFlags := 10, slot := 12, constantValue := 0 }, { name := "bootLayer", type := (.object "java/lang/ModuleLayer"), accessFlags := 8, slot := 13, constantValue := 0 }]
  methods := #[k14m0, k14m1]
  instanceTypes := #[]
  staticTypes := #[(.object "java/io/InputStream"), (.object "java/io/PrintStream"), (.object "java/io/PrintStream"), (.object "java/io/InputStream"), .int, .int, .int, (.object "java/lang/SecurityManager"), (.object "java/lang/String"), (.object "java/io/Console"), (.object "java/io/PrintStream"), (.object "java/util/Properties"), (.object "java/lang/String"), (.object "java/lang/ModuleLayer")]
  resolved := Array.replicate 834 none
  statics := none }

def pool15 : Array CpInfo := pool [(9, u "<init>"), (6, .class_ 18), (1, u "java/lang/Object"), (0, u "()V"), (1, .class_ 23), (1, u "jdk/internal/util/ArraysSupport"), (0, u "LOG2_ARRAY_LONG_INDEX_SCALE"), (0, u "I"), (2, u "U"), (0, u "Ljdk/internal/misc/Unsafe;"), (8, u "BIG_ENDIAN"), (0, u "Z"), (8, u "LOG2_BYTE_BIT_SIZE"), (4, u "LOG2_ARRAY_INT_INDEX_SCALE"), (54, u "JLA"), (0, u "Ljdk/internal/access/JavaLangAccess;"), (11, u "LOG2_ARRAY_BOOLEAN_INDEX_SCALE"), (9, u "LOG2_ARRAY_BYTE_INDEX_SCALE"), (5, u "LOG2_ARRAY_CHAR_INDEX_SCALE"), (5, u "LOG2_ARRAY_SHORT_INDEX_SCALE"), (18, u "LOG2_ARRAY_FLOAT_INDEX_SCALE"), (24, u "LOG2_ARRAY_DOUBLE_INDEX_SCALE"), (89, u "T_BOOLEAN"), (2, u "T_CHAR"), (1, u "T_FLOAT"), (1, u "T_DOUBLE"), (1, u "T_BYTE"), (1, u "T_SHORT"), (1, u "T_INT"), (1, u "T_LONG"), (1, u "SOFT_MAX_ARRAY_LENGTH")] 83

def k15m0 : Method := { name := "<init>", desc := "()V", sig := { parameters := [], returnType := none }, accessFlags := 2, code := none }
/-- jdk/internal/util/ArraysSupport -/
def k15 : Class := { plain "jdk/internal/util/ArraysSupport" (some 0) with
  accessFlags := 33
  interfaces := #[]
  cf := some (fileOf pool15 21 #[] #[{ accessFlags := 2, nameIndex := 9, descriptorIndex := 19, attributes := #[] }] 33 16 #[] #[{ accessFlags := 24, nameIndex := 28, descriptorIndex := 29, attributes := #[] }, { accessFlags := 26, nameIndex := 38, descriptorIndex := 39, attributes := #[] }, { accessFlags := 25, nameIndex := 121, descriptorIndex := 25, attributes := #[] }, { accessFlags := 25, nameIndex := 131, descriptorIndex := 25, attributes := #[] }, { accessFlags := 25, nameIndex := 137, descriptorIndex := 25, attributes := #[] }, { accessFlags := 25, nameIndex := 143, descriptorIndex := 25, attributes := #[] }, { accessFlags := 25, nameIndex := 53, descriptorIndex := 25, attributes := #[] }, { accessFlags := 25, nameIndex := 24, descriptorIndex := 25, attributes := #[] }, { accessFlags := 25, nameIndex := 162, descriptorIndex := 25, attributes := #[] }, { accessFlags := 25, nameIndex := 187, descriptorIndex := 25, attributes := #[] }, { accessFlags := 26, nameIndex := 48, descriptorIndex := 25, attributes := #[] }, { accessFlags := 25, nameIndex := 277, descriptorIndex := 25, attributes := #[] }, { accessFlags := 25, nameIndex := 280, descriptorIndex := 25, attributes := #[] }, { accessFlags := 25, nameIndex := 282, descriptorIndex := 25, attributes := #[] }, { accessFlags := 25, nameIndex := 284, descriptorIndex := 25, attributes := #[] }, { accessFlags := 25, nameIndex := 286, descriptorIndex := 25, attributes := #[] }, { accessFlags := 25, nameIndex := 288, descriptorIndex := 25, attributes := #[] }, { accessFlags := 25, nameIndex := 290, descriptorIndex := 25, attributes := #[] }, { accessFlags := 25, nameIndex := 292, descriptorIndex := 25, attributes := #[] }, { accessFlags := 26, nameIndex := 108, descriptorIndex := 109, attributes := #[] }, { accessFlags := 25, nameIndex := 294, descriptorIndex := 25, attributes := #[] }])
  fields := #[{ name := "U", type := (.object "jdk/internal/misc/Unsafe"), accessFlags := 24, slot := 0, constantValue := 0 }, { name := "BIG_ENDIAN", type := .boolean, accessFlags := 26, slot := 1, constantValue := 0 }, { name := "LOG2_ARRAY_BOOLEAN_INDEX_SCALE", type := .int, accessFlags := 25, slot := 2, constantValue := 0 }, { name := "LOG2_ARRAY_BYTE_INDEX_SCALE", type := .int, accessFlags := 25, slot := 3, constantValue := 0 }, { name := "LOG2_ARRAY_CHAR_INDEX_SCALE", type := .int, accessFlags := 25, slot := 4, constantValue := 0 }, { name := "LOG2_ARRAY_SHORT_INDEX_SCALE", type := .int, accessFlags := 25, slot := 5, constantValue := 0 }, { name := "LOG2_ARRAY_INT_INDEX_SCALE", type := .int, accessFlags := 25, slot := 6, constantValue := 0 }, { name := "LOG2_ARRAY_LONG_INDEX_SCALE", type := .int, accessFlags := 25, slot := 7, constantValue := 0 }, { name := "LOG2_ARRAY_FLOAT_INDEX_SCALE", type := .int, accessFlags := 25, slot := 8, constantValue := 0 }, { name := "LOG2_ARRAY_DOUBLE_INDEX_SCALE", type := .int, accessFlags := 25, slot := 9, constantValue := 0 }, { name := "LOG2_BYTE_BIT_SIZE", type := .int, accessFlags := 26, slot := 10, constantValue := 0 }, { name := "T_BOOLEAN", type := .int, accessFlags := 25, slot := 11, constantValue := 0 }, { name := "T_CHAR", type := .int, accessFlags := 25, slot := 12, constantValue := 0 }, { name := "T_FLOAT", type := .int, accessFlags := 25, slot := 13, constantValue := 0 }, { name := "T_DOUBLE", type := .int, accessFlags := 25, slot := 14, constantValue := 0 }, { name := "T_BYTE", type := .int, accessFlags := 25, slot := 15, constantValue := 0 }, { name := "T_SHORT", type := .int, accessFlags := 25, slot := 16, constantValue := 0 }, { name := "T_INT", type := .int, accessFlags := 25, slot := 17, constantValue := 0 }, { name := "T_LONG", type := .int, accessFlags := 25, slot := 18, constantValue := 0 }, { name := "JLA", type := (.object "jdk/internal/access/JavaLangAccess"), accessFlags := 26, slot := 19, constantValue := 0 }, { name := "SOFT_MAX_ARRAY_LENGTH", type := .int, accessFlags := 25, slot := 20, constantValue := 0 }]
  methods := #[k15m0]
  instanceTypes := #[]
  staticTypes := #[(.object "jdk/internal/misc/Unsafe"), .boolean, .int, .int, .int, .int, .int, .int, .int, .int, .int, .int, .int, .int, .int, .int, .int, .int, .int, (.object "jdk/internal/access/JavaLangAccess"), .int]
  resolved := Array.replicate 378 none
  statics := none }

def pool16 : Array CpInfo := pool [(1, u "java/lang/Cloneable"), (0, .class_ 1), (0, u "java/lang/Object"), (0, .class_ 3)] 3

/-- java/lang/Cloneable -/
def k16 : Class := { plain "java/lang/Cloneable" (some 0) with
  accessFlags := 1537
  interfaces := #[]
  cf := some (fileOf pool16 2 #[] #[] 1537 4 #[] #[])
  fields := #[]
  methods := #[]
  instanceTypes := #[]
  staticTypes := #[]
  resolved := Array.replicate 8 none
  statics := none }

/-- the primitive byte -/
def k17 : Class := { plain "byte" none with kind := .primitive 'B', accessFlags := 0x411 }
/-- [B -/
def k18 : Class := { plain "[B" (some 0) with kind := .array 17 .byte, interfaces := #[16, 2], accessFlags := 1041 }

/-- the primitive char -/
def k19 : Class := { plain "char" none with kind := .primitive 'C', accessFlags := 0x411 }
/-- [C -/
def k20 : Class := { plain "[C" (some 0) with kind := .array 19 .char, interfaces := #[16, 2], accessFlags := 1041 }

/-- the primitive int -/
def k21 : Class := { plain "int" none with kind := .primitive 'I', accessFlags := 0x411 }
/-- [I -/
def k22 : Class := { plain "[I" (some 0) with kind := .array 21 .int, interfaces := #[16, 2], accessFlags := 1041 }

def heap : Heap := #[{ cls := 7, slots := #[.long 0, .int 1, .null, .int 0, .null, .int 0, .int 0], vm := .statics 7 },
  { cls := 9, slots := #[.null, .null, .null], vm := .statics 9 }]
def classes : Array Class := #[k0, k1, k2, k3, k4, k5, k6, k7, k8, k9, k10, k11, k12, k13, k14, k15, k16, k17, k18, k19, k20, k21, k22]
def interned : List (Array UInt16 × Addr) := []
def slotsUsed : Nat := 10
def theMethod : MethodId := ⟨1, 1⟩
def args0 : Array Value := #[.int 5, .int 6, .long 7]
def aboutOver (below : List Frame) : State where
  vm := { classes := classes, interned := interned.toArray }
  heap := heap
  slotsUsed := slotsUsed
  threads := #[{ frames := .invoking theMethod args0 :: below }]
def below0 : List Frame := [.native { method := ⟨0, 0⟩, args := #[] }]
def about1 : State := aboutOver below0
def p0 : Program := .bare "" "" ""
def e0 : Env := launch0.env 0 0 0
theorem w_frames : about1.frames = Frame.invoking theMethod args0 :: below0 := rfl
set_option maxRecDepth 65536 in
theorem w_args : argsFit about1.vm theMethod args0 = true := by decide +kernel
set_option maxRecDepth 65536 in
theorem w_heap : heapFits about1 = true := by decide +kernel
set_option maxRecDepth 65536 in
theorem w_runnable : about1.curStatus? = some .runnable := by decide +kernel
set_option maxRecDepth 65536 in
theorem w_alone : about1.alone = true := by decide +kernel
set_option maxRecDepth 65536 in
theorem w_named : about1.methodNamed? x = some theMethod := by decide +kernel
set_option maxRecDepth 65536 in
theorem w_hears : about1.hears theMethod below0 = true := by decide +kernel
set_option maxRecDepth 65536 in
theorem w_ripe : about1.ripe theMethod args0 below0 = true := by decide +kernel
theorem w_running : about1.status = .running := rfl
set_option maxRecDepth 65536 in
theorem w_room : about1.hasRoom e0.platform room_1 = true :=
  launch0.hasRoom_least _ room_1 (by decide +kernel) (by decide +kernel) (by decide +kernel) (by decide +kernel) (by decide +kernel) (by decide +kernel)
theorem allAtoms_all (ts : List Jvm.Cond) (a : Array Jvm.Value) (st : Jvm.State) : (allAtoms ts).before a st = ts.all (fun c => c.before a st) := by
  induction ts with
  | nil => rfl
  | cons c t ih =>
    show (Jvm.Cond.and c (allAtoms t)).before a st = _
    rw [Jvm.Cond.before_and, ih, List.all_cons]
def words1 : List Jvm.Cond := Jvm.Cond.code x code maxLocals ret :: tables_1
/-- a 'code' word, met by the world's own term for the bytes: nothing is compared byte by byte -/
theorem code_word {y : MethodName} {bytes : ByteArray} {mx : Nat} {rt : Option FieldType} {a : Array Value} {s : State} {m : MethodId} {meth : Method} {c : Code} (h1 : s.methodNamed? y = some m) (h2 : s.vm.method? m = some meth) (h3 : meth.code = some c) (h4 : c.code = bytes)
    (h5 : (c.maxLocals == mx && c.exceptionTable.isEmpty && decide (c.maxStack ≤ mostOperands) && decide (meth.sig.returnType = rt) && !meth.locks && decide (parseMethodDescriptor y.desc = some meth.sig)) = true) : (Jvm.Cond.code y bytes mx rt).before a s = true := by
  simp only [Bool.and_eq_true, beq_iff_eq, Bool.not_eq_true', decide_eq_true_eq] at h5
  obtain ⟨⟨⟨⟨⟨g1, g2⟩, g3⟩, g4⟩, g5⟩, g6⟩ := h5
  simp [Cond.before, Cond.holds, Cond.value, h1, h2, h3, h4, g1, g2, g3, g4, g5, g6]
def isCode : Jvm.Cond → Bool
  | .code _ _ _ _ => true
  | _ => false
theorem all_split {L : List Jvm.Cond} {P : Jvm.Cond → Bool} (h1 : L.all (fun c => isCode c || P c) = true) (h2 : ∀ c ∈ L.filter isCode, P c = true) : L.all P = true := by
  refine List.all_eq_true.mpr fun c hc => ?_
  have h := List.all_eq_true.mp h1 c hc
  rcases Bool.eq_false_or_eq_true (isCode c) with hi | hi
  · exact h2 c (List.mem_filter.mpr ⟨hc, hi⟩)
  · simpa [hi] using h
set_option maxRecDepth 65536 in
theorem w_c0 : (Jvm.Cond.code x code maxLocals ret).before args0 about1 = true := code_word (m := ⟨1, 1⟩) (meth := k1m1) (c := k1c1) (by decide +kernel) rfl rfl rfl (by decide +kernel)
set_option maxRecDepth 65536 in
theorem w_c1 : (Jvm.Cond.code ({ cls := "com/example/bare_lock/barelock/zookeeper/LockPathsChrootPinLaw", name := "chrootChar", desc := "(I)C" } : Jvm.MethodName) method_3_code (2 : Nat) (Option.some Jvm.ClassFile.FieldType.char)).before args0 about1 = true := code_word (m := ⟨1, 2⟩) (meth := k1m2) (c := k1c2) (by decide +kernel) rfl rfl rfl (by decide +kernel)
set_option maxRecDepth 65536 in
theorem w_c2 : (Jvm.Cond.code ({ cls := "com/example/bare_lock/barelock/zookeeper/LockPathsChrootPinLaw", name := "at", desc := "(IIICCJ)C" } : Jvm.MethodName) method_5_code (8 : Nat) (Option.some Jvm.ClassFile.FieldType.char)).before args0 about1 = true := code_word (m := ⟨1, 4⟩) (meth := k1m4) (c := k1c4) (by decide +kernel) rfl rfl rfl (by decide +kernel)
set_option maxRecDepth 65536 in
theorem w_c3 : (Jvm.Cond.code ({ cls := "java/lang/String", name := "charAt", desc := "(I)C" } : Jvm.MethodName) jdk_42_method_56_code (2 : Nat) (Option.some Jvm.ClassFile.FieldType.char)).before args0 about1 = true := code_word (m := ⟨7, 3⟩) (meth := k7m3) (c := k7c3) (by decide +kernel) rfl rfl rfl (by decide +kernel)
set_option maxRecDepth 65536 in
theorem w_c4 : (Jvm.Cond.code ({ cls := "java/lang/String", name := "isLatin1", desc := "()Z" } : Jvm.MethodName) jdk_42_method_154_code (1 : Nat) (Option.some Jvm.ClassFile.FieldType.boolean)).before args0 about1 = true := code_word (m := ⟨7, 11⟩) (meth := k7m11) (c := k7c11) (by decide +kernel) rfl rfl rfl (by decide +kernel)
set_option maxRecDepth 65536 in
theorem w_c5 : (Jvm.Cond.code ({ cls := "java/lang/StringLatin1", name := "charAt", desc := "([BI)C" } : Jvm.MethodName) jdk_43_method_2_code (2 : Nat) (Option.some Jvm.ClassFile.FieldType.char)).before args0 about1 = true := code_word (m := ⟨8, 1⟩) (meth := k8m1) (c := k8c1) (by decide +kernel) rfl rfl rfl (by decide +kernel)
set_option maxRecDepth 65536 in
theorem w_c6 : (Jvm.Cond.code ({ cls := "java/lang/String", name := "checkIndex", desc := "(II)V" } : Jvm.MethodName) jdk_42_method_155_code (2 : Nat) (Option.none : Option Jvm.ClassFile.FieldType)).before args0 about1 = true := code_word (m := ⟨7, 12⟩) (meth := k7m12) (c := k7c12) (by decide +kernel) rfl rfl rfl (by decide +kernel)
set_option maxRecDepth 65536 in
theorem w_c7 : (Jvm.Cond.code ({ cls := "jdk/internal/util/Preconditions", name := "checkIndex", desc := "(IILjava/util/function/BiFunction;)I" } : Jvm.MethodName) jdk_41_method_11_code (3 : Nat) (Option.some Jvm.ClassFile.FieldType.int)).before args0 about1 = true := code_word (m := ⟨9, 1⟩) (meth := k9m1) (c := k9c1) (by decide +kernel) rfl rfl rfl (by decide +kernel)
set_option maxRecDepth 65536 in
theorem w_c8 : (Jvm.Cond.code ({ cls := "com/example/bare_lock/barelock/zookeeper/LockPathsChrootPinLaw", name := "partChar", desc := "(JI)C" } : Jvm.MethodName) method_4_code (4 : Nat) (Option.some Jvm.ClassFile.FieldType.char)).before args0 about1 = true := code_word (m := ⟨1, 3⟩) (meth := k1m3) (c := k1c3) (by decide +kernel) rfl rfl rfl (by decide +kernel)
set_option maxRecDepth 65536 in
theorem w_c9 : (Jvm.Cond.code ({ cls := "java/lang/String", name := "<init>", desc := "([C)V" } : Jvm.MethodName) jdk_42_method_3_code (2 : Nat) (Option.none : Option Jvm.ClassFile.FieldType)).before args0 about1 = true := code_word (m := ⟨7, 1⟩) (meth := k7m1) (c := k7c1) (by decide +kernel) rfl rfl rfl (by decide +kernel)
set_option maxRecDepth 65536 in
theorem w_c10 : (Jvm.Cond.code ({ cls := "java/lang/String", name := "<init>", desc := "([CIILjava/lang/Void;)V" } : Jvm.MethodName) jdk_42_method_149_code (6 : Nat) (Option.none : Option Jvm.ClassFile.FieldType)).before args0 about1 = true := code_word (m := ⟨7, 8⟩) (meth := k7m8) (c := k7c8) (by decide +kernel) rfl rfl rfl (by decide +kernel)
set_option maxRecDepth 65536 in
theorem w_c11 : (Jvm.Cond.code ({ cls := "java/lang/Object", name := "<init>", desc := "()V" } : Jvm.MethodName) object_method_1_code (1 : Nat) (Option.none : Option Jvm.ClassFile.FieldType)).before args0 about1 = true := code_word (m := ⟨0, 0⟩) (meth := k0m0) (c := k0c0) (by decide +kernel) rfl rfl rfl (by decide +kernel)
set_option maxRecDepth 65536 in
theorem w_c12 : (Jvm.Cond.code ({ cls := "java/lang/StringUTF16", name := "compress", desc := "([CII)[B" } : Jvm.MethodName) jdk_52_method_16_code (6 : Nat) (Option.some (Jvm.ClassFile.FieldType.array Jvm.ClassFile.FieldType.byte))).before args0 about1 = true := code_word (m := ⟨10, 2⟩) (meth := k10m2) (c := k10c2) (by decide +kernel) rfl rfl rfl (by decide +kernel)
set_option maxRecDepth 65536 in
theorem w_c13 : (Jvm.Cond.code ({ cls := "java/lang/StringUTF16", name := "compress", desc := "([CI[BII)I" } : Jvm.MethodName) jdk_52_method_21_code (7 : Nat) (Option.some Jvm.ClassFile.FieldType.int)).before args0 about1 = true := code_word (m := ⟨10, 3⟩) (meth := k10m3) (c := k10c3) (by decide +kernel) rfl rfl rfl (by decide +kernel)
set_option maxRecDepth 65536 in
theorem w_c14 : (Jvm.Cond.code ({ cls := "java/lang/StringUTF16", name := "coderFromArrayLen", desc := "([BI)B" } : Jvm.MethodName) jdk_52_method_15_code (2 : Nat) (Option.some Jvm.ClassFile.FieldType.byte)).before args0 about1 = true := code_word (m := ⟨10, 1⟩) (meth := k10m1) (c := k10c1) (by decide +kernel) rfl rfl rfl (by decide +kernel)
set_option maxRecDepth 65536 in
theorem w_c15 : (Jvm.Cond.code ({ cls := "com/example/bare_lock/barelock/zookeeper/LockPaths", name := "chroot", desc := "(Ljava/lang/String;)Ljava/lang/String;" } : Jvm.MethodName) prog_11_method_4_code (2 : Nat) (Option.some (Jvm.ClassFile.FieldType.object "java/lang/String"))).before args0 about1 = true := code_word (m := ⟨11, 1⟩) (meth := k11m1) (c := k11c1) (by decide +kernel) rfl rfl rfl (by decide +kernel)
set_option maxRecDepth 65536 in
theorem w_c16 : (Jvm.Cond.code ({ cls := "java/lang/String", name := "lastIndexOf", desc := "(I)I" } : Jvm.MethodName) jdk_42_method_82_code (2 : Nat) (Option.some Jvm.ClassFile.FieldType.int)).before args0 about1 = true := code_word (m := ⟨7, 5⟩) (meth := k7m5) (c := k7c5) (by decide +kernel) rfl rfl rfl (by decide +kernel)
set_option maxRecDepth 65536 in
theorem w_c17 : (Jvm.Cond.code ({ cls := "java/lang/String", name := "length", desc := "()I" } : Jvm.MethodName) jdk_42_method_54_code (1 : Nat) (Option.some Jvm.ClassFile.FieldType.int)).before args0 about1 = true := code_word (m := ⟨7, 2⟩) (meth := k7m2) (c := k7c2) (by decide +kernel) rfl rfl rfl (by decide +kernel)
set_option maxRecDepth 65536 in
theorem w_c18 : (Jvm.Cond.code ({ cls := "java/lang/String", name := "coder", desc := "()B" } : Jvm.MethodName) jdk_42_method_152_code (1 : Nat) (Option.some Jvm.ClassFile.FieldType.byte)).before args0 about1 = true := code_word (m := ⟨7, 10⟩) (meth := k7m10) (c := k7c10) (by decide +kernel) rfl rfl rfl (by decide +kernel)
set_option maxRecDepth 65536 in
theorem w_c19 : (Jvm.Cond.code ({ cls := "java/lang/String", name := "lastIndexOf", desc := "(II)I" } : Jvm.MethodName) jdk_42_method_83_code (3 : Nat) (Option.some Jvm.ClassFile.FieldType.int)).before args0 about1 = true := code_word (m := ⟨7, 6⟩) (meth := k7m6) (c := k7c6) (by decide +kernel) rfl rfl rfl (by decide +kernel)
set_option maxRecDepth 65536 in
theorem w_c20 : (Jvm.Cond.code ({ cls := "java/lang/StringLatin1", name := "lastIndexOf", desc := "([BII)I" } : Jvm.MethodName) jdk_43_method_27_code (4 : Nat) (Option.some Jvm.ClassFile.FieldType.int)).before args0 about1 = true := code_word (m := ⟨8, 4⟩) (meth := k8m4) (c := k8c4) (by decide +kernel) rfl rfl rfl (by decide +kernel)
set_option maxRecDepth 65536 in
theorem w_c21 : (Jvm.Cond.code ({ cls := "java/lang/StringLatin1", name := "canEncode", desc := "(I)Z" } : Jvm.MethodName) jdk_43_method_4_code (1 : Nat) (Option.some Jvm.ClassFile.FieldType.boolean)).before args0 about1 = true := code_word (m := ⟨8, 2⟩) (meth := k8m2) (c := k8c2) (by decide +kernel) rfl rfl rfl (by decide +kernel)
set_option maxRecDepth 65536 in
theorem w_c22 : (Jvm.Cond.code ({ cls := "java/lang/Math", name := "min", desc := "(II)I" } : Jvm.MethodName) jdk_29_method_69_code (2 : Nat) (Option.some Jvm.ClassFile.FieldType.int)).before args0 about1 = true := code_word (m := ⟨12, 1⟩) (meth := k12m1) (c := k12c1) (by decide +kernel) rfl rfl rfl (by decide +kernel)
set_option maxRecDepth 65536 in
theorem w_c23 : (Jvm.Cond.code ({ cls := "java/lang/String", name := "substring", desc := "(II)Ljava/lang/String;" } : Jvm.MethodName) jdk_42_method_92_code (5 : Nat) (Option.some (Jvm.ClassFile.FieldType.object "java/lang/String"))).before args0 about1 = true := code_word (m := ⟨7, 7⟩) (meth := k7m7) (c := k7c7) (by decide +kernel) rfl rfl rfl (by decide +kernel)
set_option maxRecDepth 65536 in
theorem w_c24 : (Jvm.Cond.code ({ cls := "java/lang/String", name := "checkBoundsBeginEnd", desc := "(III)V" } : Jvm.MethodName) jdk_42_method_158_code (3 : Nat) (Option.none : Option Jvm.ClassFile.FieldType)).before args0 about1 = true := code_word (m := ⟨7, 13⟩) (meth := k7m13) (c := k7c13) (by decide +kernel) rfl rfl rfl (by decide +kernel)
set_option maxRecDepth 65536 in
theorem w_c25 : (Jvm.Cond.code ({ cls := "jdk/internal/util/Preconditions", name := "checkFromToIndex", desc := "(IIILjava/util/function/BiFunction;)I" } : Jvm.MethodName) jdk_41_method_12_code (4 : Nat) (Option.some Jvm.ClassFile.FieldType.int)).before args0 about1 = true := code_word (m := ⟨9, 2⟩) (meth := k9m2) (c := k9c2) (by decide +kernel) rfl rfl rfl (by decide +kernel)
set_option maxRecDepth 65536 in
theorem w_c26 : (Jvm.Cond.code ({ cls := "java/lang/StringLatin1", name := "newString", desc := "([BII)Ljava/lang/String;" } : Jvm.MethodName) jdk_43_method_47_code (3 : Nat) (Option.some (Jvm.ClassFile.FieldType.object "java/lang/String"))).before args0 about1 = true := code_word (m := ⟨8, 5⟩) (meth := k8m5) (c := k8c5) (by decide +kernel) rfl rfl rfl (by decide +kernel)
set_option maxRecDepth 65536 in
theorem w_c27 : (Jvm.Cond.code ({ cls := "java/util/Arrays", name := "copyOfRange", desc := "([BII)[B" } : Jvm.MethodName) jdk_65_method_132_code (3 : Nat) (Option.some (Jvm.ClassFile.FieldType.array Jvm.ClassFile.FieldType.byte))).before args0 about1 = true := code_word (m := ⟨13, 2⟩) (meth := k13m2) (c := k13c2) (by decide +kernel) rfl rfl rfl (by decide +kernel)
set_option maxRecDepth 65536 in
theorem w_c28 : (Jvm.Cond.code ({ cls := "java/util/Arrays", name := "copyOfRangeByte", desc := "([BII)[B" } : Jvm.MethodName) jdk_65_method_133_code (5 : Nat) (Option.some (Jvm.ClassFile.FieldType.array Jvm.ClassFile.FieldType.byte))).before args0 about1 = true := code_word (m := ⟨13, 3⟩) (meth := k13m3) (c := k13c3) (by decide +kernel) rfl rfl rfl (by decide +kernel)
set_option maxRecDepth 65536 in
theorem w_c29 : (Jvm.Cond.code ({ cls := "java/util/Arrays", name := "checkLength", desc := "(II)V" } : Jvm.MethodName) jdk_65_method_131_code (2 : Nat) (Option.none : Option Jvm.ClassFile.FieldType)).before args0 about1 = true := code_word (m := ⟨13, 1⟩) (meth := k13m1) (c := k13c1) (by decide +kernel) rfl rfl rfl (by decide +kernel)
set_option maxRecDepth 65536 in
theorem w_c30 : (Jvm.Cond.code ({ cls := "java/lang/String", name := "<init>", desc := "([BB)V" } : Jvm.MethodName) jdk_42_method_151_code (3 : Nat) (Option.none : Option Jvm.ClassFile.FieldType)).before args0 about1 = true := code_word (m := ⟨7, 9⟩) (meth := k7m9) (c := k7c9) (by decide +kernel) rfl rfl rfl (by decide +kernel)
set_option maxRecDepth 65536 in
theorem w_c31 : (Jvm.Cond.code ({ cls := "java/lang/String", name := "equals", desc := "(Ljava/lang/Object;)Z" } : Jvm.MethodName) jdk_42_method_66_code (3 : Nat) (Option.some Jvm.ClassFile.FieldType.boolean)).before args0 about1 = true := code_word (m := ⟨7, 4⟩) (meth := k7m4) (c := k7c4) (by decide +kernel) rfl rfl rfl (by decide +kernel)
set_option maxRecDepth 65536 in
theorem w_c32 : (Jvm.Cond.code ({ cls := "java/lang/StringLatin1", name := "equals", desc := "([B[B)Z" } : Jvm.MethodName) jdk_43_method_13_code (3 : Nat) (Option.some Jvm.ClassFile.FieldType.boolean)).before args0 about1 = true := code_word (m := ⟨8, 3⟩) (meth := k8m3) (c := k8c3) (by decide +kernel) rfl rfl rfl (by decide +kernel)
def codes1 : List Jvm.Cond := [Jvm.Cond.code x code maxLocals ret, Jvm.Cond.code ({ cls := "com/example/bare_lock/barelock/zookeeper/LockPathsChrootPinLaw", name := "chrootChar", desc := "(I)C" } : Jvm.MethodName) method_3_code (2 : Nat) (Option.some Jvm.ClassFile.FieldType.char), Jvm.Cond.code ({ cls := "com/example/bare_lock/barelock/zookeeper/LockPathsChrootPinLaw", name := "at", desc := "(IIICCJ)C" } : Jvm.MethodName) method_5_code (8 : Nat) (Option.some Jvm.ClassFile.FieldType.char), Jvm.Cond.code ({ cls := "java/lang/String", name := "charAt", desc := "(I)C" } : Jvm.MethodName) jdk_42_method_56_code (2 : Nat) (Option.some Jvm.ClassFile.FieldType.char), Jvm.Cond.code ({ cls := "java/lang/String", name := "isLatin1", desc := "()Z" } : Jvm.MethodName) jdk_42_method_154_code (1 : Nat) (Option.some Jvm.ClassFile.FieldType.boolean), Jvm.Cond.code ({ cls := "java/lang/StringLatin1", name := "charAt", desc := "([BI)C" } : Jvm.MethodName) jdk_43_method_2_code (2 : Nat) (Option.some Jvm.ClassFile.FieldType.char), Jvm.Cond.code ({ cls := "java/lang/String", name := "checkIndex", desc := "(II)V" } : Jvm.MethodName) jdk_42_method_155_code (2 : Nat) (Option.none : Option Jvm.ClassFile.FieldType), Jvm.Cond.code ({ cls := "jdk/internal/util/Preconditions", name := "checkIndex", desc := "(IILjava/util/function/BiFunction;)I" } : Jvm.MethodName) jdk_41_method_11_code (3 : Nat) (Option.some Jvm.ClassFile.FieldType.int), Jvm.Cond.code ({ cls := "com/example/bare_lock/barelock/zookeeper/LockPathsChrootPinLaw", name := "partChar", desc := "(JI)C" } : Jvm.MethodName) method_4_code (4 : Nat) (Option.some Jvm.ClassFile.FieldType.char), Jvm.Cond.code ({ cls := "java/lang/String", name := "<init>", desc := "([C)V" } : Jvm.MethodName) jdk_42_method_3_code (2 : Nat) (Option.none : Option Jvm.ClassFile.FieldType), Jvm.Cond.code ({ cls := "java/lang/String", name := "<init>", desc := "([CIILjava/lang/Void;)V" } : Jvm.MethodName) jdk_42_method_149_code (6 : Nat) (Option.none : Option Jvm.ClassFile.FieldType), Jvm.Cond.code ({ cls := "java/lang/Object", name := "<init>", desc := "()V" } : Jvm.MethodName) object_method_1_code (1 : Nat) (Option.none : Option Jvm.ClassFile.FieldType), Jvm.Cond.code ({ cls := "java/lang/StringUTF16", name := "compress", desc := "([CII)[B" } : Jvm.MethodName) jdk_52_method_16_code (6 : Nat) (Option.some (Jvm.ClassFile.FieldType.array Jvm.ClassFile.FieldType.byte)), Jvm.Cond.code ({ cls := "java/lang/StringUTF16", name := "compress", desc := "([CI[BII)I" } : Jvm.MethodName) jdk_52_method_21_code (7 : Nat) (Option.some Jvm.ClassFile.FieldType.int), Jvm.Cond.code ({ cls := "java/lang/StringUTF16", name := "coderFromArrayLen", desc := "([BI)B" } : Jvm.MethodName) jdk_52_method_15_code (2 : Nat) (Option.some Jvm.ClassFile.FieldType.byte), Jvm.Cond.code ({ cls := "com/example/bare_lock/barelock/zookeeper/LockPaths", name := "chroot", desc := "(Ljava/lang/String;)Ljava/lang/String;" } : Jvm.MethodName) prog_11_method_4_code (2 : Nat) (Option.some (Jvm.ClassFile.FieldType.object "java/lang/String")), Jvm.Cond.code ({ cls := "java/lang/String", name := "lastIndexOf", desc := "(I)I" } : Jvm.MethodName) jdk_42_method_82_code (2 : Nat) (Option.some Jvm.ClassFile.FieldType.int), Jvm.Cond.code ({ cls := "java/lang/String", name := "length", desc := "()I" } : Jvm.MethodName) jdk_42_method_54_code (1 : Nat) (Option.some Jvm.ClassFile.FieldType.int), Jvm.Cond.code ({ cls := "java/lang/String", name := "coder", desc := "()B" } : Jvm.MethodName) jdk_42_method_152_code (1 : Nat) (Option.some Jvm.ClassFile.FieldType.byte), Jvm.Cond.code ({ cls := "java/lang/String", name := "lastIndexOf", desc := "(II)I" } : Jvm.MethodName) jdk_42_method_83_code (3 : Nat) (Option.some Jvm.ClassFile.FieldType.int), Jvm.Cond.code ({ cls := "java/lang/StringLatin1", name := "lastIndexOf", desc := "([BII)I" } : Jvm.MethodName) jdk_43_method_27_code (4 : Nat) (Option.some Jvm.ClassFile.FieldType.int), Jvm.Cond.code ({ cls := "java/lang/StringLatin1", name := "canEncode", desc := "(I)Z" } : Jvm.MethodName) jdk_43_method_4_code (1 : Nat) (Option.some Jvm.ClassFile.FieldType.boolean), Jvm.Cond.code ({ cls := "java/lang/Math", name := "min", desc := "(II)I" } : Jvm.MethodName) jdk_29_method_69_code (2 : Nat) (Option.some Jvm.ClassFile.FieldType.int), Jvm.Cond.code ({ cls := "java/lang/String", name := "substring", desc := "(II)Ljava/lang/String;" } : Jvm.MethodName) jdk_42_method_92_code (5 : Nat) (Option.some (Jvm.ClassFile.FieldType.object "java/lang/String")), Jvm.Cond.code ({ cls := "java/lang/String", name := "checkBoundsBeginEnd", desc := "(III)V" } : Jvm.MethodName) jdk_42_method_158_code (3 : Nat) (Option.none : Option Jvm.ClassFile.FieldType), Jvm.Cond.code ({ cls := "jdk/internal/util/Preconditions", name := "checkFromToIndex", desc := "(IIILjava/util/function/BiFunction;)I" } : Jvm.MethodName) jdk_41_method_12_code (4 : Nat) (Option.some Jvm.ClassFile.FieldType.int), Jvm.Cond.code ({ cls := "java/lang/StringLatin1", name := "newString", desc := "([BII)Ljava/lang/String;" } : Jvm.MethodName) jdk_43_method_47_code (3 : Nat) (Option.some (Jvm.ClassFile.FieldType.object "java/lang/String")), Jvm.Cond.code ({ cls := "java/util/Arrays", name := "copyOfRange", desc := "([BII)[B" } : Jvm.MethodName) jdk_65_method_132_code (3 : Nat) (Option.some (Jvm.ClassFile.FieldType.array Jvm.ClassFile.FieldType.byte)), Jvm.Cond.code ({ cls := "java/util/Arrays", name := "copyOfRangeByte", desc := "([BII)[B" } : Jvm.MethodName) jdk_65_method_133_code (5 : Nat) (Option.some (Jvm.ClassFile.FieldType.array Jvm.ClassFile.FieldType.byte)), Jvm.Cond.code ({ cls := "java/util/Arrays", name := "checkLength", desc := "(II)V" } : Jvm.MethodName) jdk_65_method_131_code (2 : Nat) (Option.none : Option Jvm.ClassFile.FieldType), Jvm.Cond.code ({ cls := "java/lang/String", name := "<init>", desc := "([BB)V" } : Jvm.MethodName) jdk_42_method_151_code (3 : Nat) (Option.none : Option Jvm.ClassFile.FieldType), Jvm.Cond.code ({ cls := "java/lang/String", name := "equals", desc := "(Ljava/lang/Object;)Z" } : Jvm.MethodName) jdk_42_method_66_code (3 : Nat) (Option.some Jvm.ClassFile.FieldType.boolean), Jvm.Cond.code ({ cls := "java/lang/StringLatin1", name := "equals", desc := "([B[B)Z" } : Jvm.MethodName) jdk_43_method_13_code (3 : Nat) (Option.some Jvm.ClassFile.FieldType.boolean)]
set_option maxRecDepth 65536 in
theorem codes_eq : words1.filter isCode = codes1 := rfl
theorem w_codes : ∀ c ∈ words1.filter isCode, c.before args0 about1 = true := by
  rw [codes_eq]
  intro c hc
  simp only [codes1, List.mem_cons, List.not_mem_nil, or_false] at hc
  rcases hc with rfl | rfl | rfl | rfl | rfl | rfl | rfl | rfl | rfl | rfl | rfl | rfl | rfl | rfl | rfl | rfl | rfl | rfl | rfl | rfl | rfl | rfl | rfl | rfl | rfl | rfl | rfl | rfl | rfl | rfl | rfl | rfl | rfl
  · exact w_c0
  · exact w_c1
  · exact w_c2
  · exact w_c3
  · exact w_c4
  · exact w_c5
  · exact w_c6
  · exact w_c7
  · exact w_c8
  · exact w_c9
  · exact w_c10
  · exact w_c11
  · exact w_c12
  · exact w_c13
  · exact w_c14
  · exact w_c15
  · exact w_c16
  · exact w_c17
  · exact w_c18
  · exact w_c19
  · exact w_c20
  · exact w_c21
  · exact w_c22
  · exact w_c23
  · exact w_c24
  · exact w_c25
  · exact w_c26
  · exact w_c27
  · exact w_c28
  · exact w_c29
  · exact w_c30
  · exact w_c31
  · exact w_c32
set_option maxRecDepth 65536 in
theorem w_t1 : (words1.take 24).all (fun c => isCode c || c.before args0 about1) = true := by decide +kernel
set_option maxRecDepth 65536 in
theorem w_t2 : ((words1.drop 24).take 24).all (fun c => isCode c || c.before args0 about1) = true := by decide +kernel
set_option maxRecDepth 65536 in
theorem w_t3 : (((words1.drop 24).drop 24).take 24).all (fun c => isCode c || c.before args0 about1) = true := by decide +kernel
set_option maxRecDepth 65536 in
theorem w_t4 : ((((words1.drop 24).drop 24).drop 24).take 24).all (fun c => isCode c || c.before args0 about1) = true := by decide +kernel
set_option maxRecDepth 65536 in
theorem w_t5 : (((((words1.drop 24).drop 24).drop 24).drop 24).take 24).all (fun c => isCode c || c.before args0 about1) = true := by decide +kernel
set_option maxRecDepth 65536 in
theorem w_t6 : ((((((words1.drop 24).drop 24).drop 24).drop 24).drop 24).take 24).all (fun c => isCode c || c.before args0 about1) = true := by decide +kernel
set_option maxRecDepth 65536 in
theorem w_t7 : ((((((words1.drop 24).drop 24).drop 24).drop 24).drop 24).drop 24).all (fun c => isCode c || c.before args0 about1) = true := by decide +kernel
theorem w_tables : (allAtoms (Jvm.Cond.code x code maxLocals ret :: tables_1)).before args0 about1 = true := by
  rw [allAtoms_all]
  show words1.all (fun c => c.before args0 about1) = true
  refine all_split ?_ w_codes
  rw [← List.take_append_drop 24 words1, List.all_append, w_t1, ← List.take_append_drop 24 (words1.drop 24), List.all_append, w_t2, ← List.take_append_drop 24 ((words1.drop 24).drop 24), List.all_append, w_t3, ← List.take_append_drop 24 (((words1.drop 24).drop 24).drop 24), List.all_append, w_t4, ← List.take_append_drop 24 ((((words1.drop 24).drop 24).drop 24).drop 24), List.all_append, w_t5, ← List.take_append_drop 24 (((((words1.drop 24).drop 24).drop 24).drop 24).drop 24), List.all_append, w_t6, w_t7]
  rfl
set_option maxRecDepth 65536 in
theorem w_rest : rest_1_c.before args0 about1 = true := by decide +kernel
set_option maxRecDepth 65536 in
theorem w_case : (Jvm.Cond.and given_1 narrow_1).before args0 about1 = true := by decide +kernel
set_option maxRecDepth 65536 in
theorem w_consts : constsHeld consts_1 about1 := Jvm.Lit.constsHeldB_iff.mp (by decide +kernel)
theorem w_applies : (headSpec (Jvm.Cond.code x code maxLocals ret :: tables_1) room_1).applies x e0.platform about1 = true :=
  (Spec.applies_iff w_frames).mpr ⟨w_running, w_runnable, w_alone, w_named, w_hears, w_ripe, w_room, w_tables⟩
theorem atStart : AtStart classFile x code maxLocals ret World_1 tables_1 room_1 Calls_1 rest_1 Pre_1 launch0 p0 e0 about1 theMethod args0 below0 :=
  ⟨lists_1, trivial, launch0.admits_env _ _ _, launch0.least_env, fairChoices_fair.cas, fairChoices_fair.clock, w_frames, w_args, w_heap, w_applies, ⟨w_consts, trivial⟩, w_rest, w_case⟩
end start1
theorem witness_1 : WitnessClaimed_1 := ⟨start1.p0, start1.e0, start1.about1, start1.theMethod, start1.args0, start1.below0, start1.atStart⟩
end Jvm.Pilot.@@N@@
