import JvmDerived
import JvmDerived.Pilot.@@N@@Statement
import JvmDerived.Pilot.@@N@@Code
set_option linter.unusedVariables false
set_option linter.unusedSimpArgs false
namespace Jvm.RoadKit
open Sem ClassFile Op Lib Jvm.Stand Jvm.Free Jvm.LawKit
section New
variable {p : Program} {l : Launch} {e : Env} {R : Room} {s : State} {m : MethodId} {args : Array Value} {below : List Frame} {meth : Method} {c : Code} {T : State} {locs : List Loc} {cells slots : Nat}
theorem retI (X : Stand p l e R s m args below meth c T locs cells slots) (hx : p.tables.exec = Jvm.exec) {pc : Nat} {Ls : Array Slot} {z : Int32} {rest : List Value} (hret : meth.sig.returnType = some .int) (hd : decode c.code pc = .ok (.ireturn, 1)) {fs : List Frame}
    (hl : ∀ (f : JFrame) (acts : List Action), f.method = m → f.locked = none → f.entered = [] → (doReturn e (T.setTop f) acts (some (.int z))).1 = T.setFrames fs) : Steps p.tables e below (T.setTop (mkF m pc Ls (.int z :: rest))) (T.setFrames fs) := by
  have hm' : T.vm.method? m = some meth := X.method'
  have hn : narrow .int (.int z) = .int z := rfl
  show Steps p.tables e below (T.setTop { method := m, pc := pc, locals := Ls, stack := _ :: rest, locked := none }) _
  jvm_step X.here [X.here.top, hx, hd, hm', hret, hn]
  first | (intro acts; rw [hl _ acts rfl rfl rfl]) | rw [hl _ _ rfl rfl rfl]
  exact Steps.refl _
theorem own_retL (X : Stand p l e R s m args below meth c T locs cells slots) (hx : p.tables.exec = Jvm.exec) {pc : Nat} {Ls : Array Slot} {z : Int64} {rest : List Value} (hret : meth.sig.returnType = some .long) (hd : decode c.code pc = .ok (.lreturn, 1)) {fs : List Frame}
    (hl : ∀ (f : JFrame) (acts : List Action), f.method = m → f.locked = none → f.entered = [] → (doReturn e (T.setTop f) acts (some (.long z))).1 = T.setFrames fs) : Steps p.tables e below (T.setTop (mkF m pc Ls (.long z :: rest))) (T.setFrames fs) := by
  have hm' : T.vm.method? m = some meth := X.method'
  show Steps p.tables e below (T.setTop { method := m, pc := pc, locals := Ls, stack := _ :: rest, locked := none }) _
  jvm_step X.here [X.here.top, hx, hd, hm', hret, narrow]
  first | (intro acts; rw [hl _ acts rfl rfl rfl]) | rw [hl _ _ rfl rfl rfl]
  exact Steps.refl _
theorem own_retA (X : Stand p l e R s m args below meth c T locs cells slots) (hx : p.tables.exec = Jvm.exec) {pc : Nat} {Ls : Array Slot} {v : Value} {t : FieldType} {rest : List Value} (hret : meth.sig.returnType = some t) (ht : t.isReference = true) (hv : v.isRef = true) (hd : decode c.code pc = .ok (.areturn, 1)) {fs : List Frame}
    (hl : ∀ (f : JFrame) (acts : List Action), f.method = m → f.locked = none → f.entered = [] → (doReturn e (T.setTop f) acts (some v)).1 = T.setFrames fs) : Steps p.tables e below (T.setTop (mkF m pc Ls (v :: rest))) (T.setFrames fs) := by
  have hm' : T.vm.method? m = some meth := X.method'
  show Steps p.tables e below (T.setTop { method := m, pc := pc, locals := Ls, stack := v :: rest, locked := none }) _
  rcases ref_cases hv with rfl | ⟨a, rfl⟩
  all_goals
    jvm_step X.here [X.here.top, hx, hd, hm', hret, ht, Value.isRef]
    first | (intro acts; rw [hl _ acts rfl rfl rfl]) | rw [hl _ _ rfl rfl rfl]
    exact Steps.refl _
def Go (p : Program) (e : Env) (below : List Frame) (P : Outcome → State → Prop) (S : State) : Prop := ∃ s₂ o, Steps p.tables e below S s₂ ∧ s₂.status = .running ∧ Ended s₂ below o ∧ P o s₂
variable {P : Outcome → State → Prop}
theorem Go.by {A B : State} (st : ∀ t, Steps p.tables e below B t → Steps p.tables e below A t) (g : Go p e below P B) : Go p e below P A := by
  obtain ⟨u, o, h1, h2⟩ := g; exact ⟨u, o, st _ h1, h2⟩
theorem Go.tr {A B : State} (st : Steps p.tables e below A B) (g : Go p e below P B) : Go p e below P A := by
  obtain ⟨u, o, h1, h2⟩ := g; exact ⟨u, o, st.trans h1, h2⟩
theorem Go.start {f g : JFrame} (q : f = g) (h : Go p e below P (T.setTop g)) : ∃ s₂ o, Steps p.tables e below (T.setTop f) s₂ ∧ s₂.status = .running ∧ Ended s₂ below o ∧ P o s₂ := q ▸ h
variable {Q : Option Value → Heap → List Loc → Prop} {rc rs : Nat}
theorem Go.retI (X : Stand p l e R s m args below meth c T locs cells slots) (hx : p.tables.exec = Jvm.exec) {pc : Nat} {Ls : Array Slot} {z : Int32} {rest : List Value} (hret : meth.sig.returnType = some .int) (hlk : meth.locks = false) (hd : decode c.code pc = .ok (.ireturn, 1)) (hc : cells ≤ rc) (hs : slots ≤ rs) (hq : Q (some (.int z)) T.heap locs) :
    Go p e below (fun o U' => ∃ v L, o = .returned v ∧ Q v U'.heap L ∧ FrameEnd s o U' L rc rs) (T.setTop (mkF m pc Ls (.int z :: rest))) := by
  obtain ⟨fs, hr, hrun, hended, hW, hsame⟩ := X.leave (v := some (.int z)) (fun h => by rw [hret] at h; cases h) hlk
  exact ⟨_, _, RoadKit.retI X hx hret hd hr, hrun, hended, _, _, rfl, hq, ⟨_, rfl⟩, hW, hsame.mono hc hs⟩
theorem Go.retN (X : Stand p l e R s m args below meth c T locs cells slots) (hx : p.tables.exec = Jvm.exec) {pc : Nat} {Ls : Array Slot} {z : Int32} {t : FieldType} {rest : List Value} (hret : meth.sig.returnType = some t) (ht : t = .boolean ∨ t = .byte ∨ t = .char ∨ t = .short) (hlk : meth.locks = false) (hd : decode c.code pc = .ok (.ireturn, 1)) (hc : cells ≤ rc) (hs : slots ≤ rs) (hq : Q (some (.int (nar t z))) T.heap locs) :
    Go p e below (fun o U' => ∃ v L, o = .returned v ∧ Q v U'.heap L ∧ FrameEnd s o U' L rc rs) (T.setTop (mkF m pc Ls (.int z :: rest))) := by
  obtain ⟨fs, hr, hrun, hended, hW, hsame⟩ := X.leave (v := some (.int (nar t z))) (fun h => by rw [hret] at h; cases h) hlk
  exact ⟨_, _, RoadKit.retN X hx hret ht hd hr, hrun, hended, _, _, rfl, hq, ⟨_, rfl⟩, hW, hsame.mono hc hs⟩
theorem Go.retL (X : Stand p l e R s m args below meth c T locs cells slots) (hx : p.tables.exec = Jvm.exec) {pc : Nat} {Ls : Array Slot} {z : Int64} {rest : List Value} (hret : meth.sig.returnType = some .long) (hlk : meth.locks = false) (hd : decode c.code pc = .ok (.lreturn, 1)) (hc : cells ≤ rc) (hs : slots ≤ rs) (hq : Q (some (.long z)) T.heap locs) :
    Go p e below (fun o U' => ∃ v L, o = .returned v ∧ Q v U'.heap L ∧ FrameEnd s o U' L rc rs) (T.setTop (mkF m pc Ls (.long z :: rest))) := by
  obtain ⟨fs, hr, hrun, hended, hW, hsame⟩ := X.leave (v := some (.long z)) (fun h => by rw [hret] at h; cases h) hlk
  exact ⟨_, _, own_retL X hx hret hd hr, hrun, hended, _, _, rfl, hq, ⟨_, rfl⟩, hW, hsame.mono hc hs⟩
theorem Go.retA (X : Stand p l e R s m args below meth c T locs cells slots) (hx : p.tables.exec = Jvm.exec) {pc : Nat} {Ls : Array Slot} {v : Value} {t : FieldType} {rest : List Value} (hret : meth.sig.returnType = some t) (ht : t.isReference = true) (hv : v.isRef = true) (hlk : meth.locks = false) (hd : decode c.code pc = .ok (.areturn, 1)) (hc : cells ≤ rc) (hs : slots ≤ rs) (hq : Q (some v) T.heap locs) :
    Go p e below (fun o U' => ∃ v L, o = .returned v ∧ Q v U'.heap L ∧ FrameEnd s o U' L rc rs) (T.setTop (mkF m pc Ls (v :: rest))) := by
  obtain ⟨fs, hr, hrun, hended, hW, hsame⟩ := X.leave (v := some v) (fun h => by rw [hret] at h; cases h) hlk
  exact ⟨_, _, own_retA X hx hret ht hv hd hr, hrun, hended, _, _, rfl, hq, ⟨_, rfl⟩, hW, hsame.mono hc hs⟩
theorem Go.ret0 (X : Stand p l e R s m args below meth c T locs cells slots) (hx : p.tables.exec = Jvm.exec) {pc : Nat} {Ls : Array Slot} (hret : meth.sig.returnType = none) (hlk : meth.locks = false) (hd : decode c.code pc = .ok (.return_, 1)) (hc : cells ≤ rc) (hs : slots ≤ rs) (hq : Q none T.heap locs) :
    Go p e below (fun o U' => ∃ v L, o = .returned v ∧ Q v U'.heap L ∧ FrameEnd s o U' L rc rs) (T.setTop (mkF m pc Ls [])) := by
  obtain ⟨fs, hr, hrun, hended, hW, hsame⟩ := X.leave (v := none) (fun _ => rfl) hlk
  exact ⟨_, _, X.returnOut hx hret hd hr, hrun, hended, _, _, rfl, hq, ⟨_, rfl⟩, hW, hsame.mono hc hs⟩
section Wide
variable {vm₁ : Vm} {kS : Nat}
theorem Go.retIW (hS : s.Since vm₁ kS) (hn : kS ≤ T.heap.size) (X : Stand p l e R (s.setVm vm₁) m args below meth c T locs cells slots) (hx : p.tables.exec = Jvm.exec) {pc : Nat} {Ls : Array Slot} {z : Int32} {rest : List Value} (hret : meth.sig.returnType = some .int) (hlk : meth.locks = false) (hd : decode c.code pc = .ok (.ireturn, 1)) (hc : cells ≤ rc) (hs : slots ≤ rs) (hq : Q (some (.int z)) T.heap locs) :
    Go p e below (fun o U' => ∃ v L, o = .returned v ∧ Q v U'.heap L ∧ ReturnedEndW s o U' L rc rs) (T.setTop (mkF m pc Ls (.int z :: rest))) := by
  obtain ⟨fs, hr, hrun, hended, w1, w2, w3, w4⟩ := X.leaveW hS hn (v := some (.int z)) (fun h => by rw [hret] at h; cases h) hlk
  exact ⟨_, _, RoadKit.retI X hx hret hd hr, hrun, hended, _, _, rfl, hq, w1, w2, w3, w4.mono hc hs⟩
theorem Go.retNW (hS : s.Since vm₁ kS) (hn : kS ≤ T.heap.size) (X : Stand p l e R (s.setVm vm₁) m args below meth c T locs cells slots) (hx : p.tables.exec = Jvm.exec) {pc : Nat} {Ls : Array Slot} {z : Int32} {t : FieldType} {rest : List Value} (hret : meth.sig.returnType = some t) (ht : t = .boolean ∨ t = .byte ∨ t = .char ∨ t = .short) (hlk : meth.locks = false) (hd : decode c.code pc = .ok (.ireturn, 1)) (hc : cells ≤ rc) (hs : slots ≤ rs) (hq : Q (some (.int (nar t z))) T.heap locs) :
    Go p e below (fun o U' => ∃ v L, o = .returned v ∧ Q v U'.heap L ∧ ReturnedEndW s o U' L rc rs) (T.setTop (mkF m pc Ls (.int z :: rest))) := by
  obtain ⟨fs, hr, hrun, hended, w1, w2, w3, w4⟩ := X.leaveW hS hn (v := some (.int (nar t z))) (fun h => by rw [hret] at h; cases h) hlk
  exact ⟨_, _, RoadKit.retN X hx hret ht hd hr, hrun, hended, _, _, rfl, hq, w1, w2, w3, w4.mono hc hs⟩
theorem Go.retAW (hS : s.Since vm₁ kS) (hn : kS ≤ T.heap.size) (X : Stand p l e R (s.setVm vm₁) m args below meth c T locs cells slots) (hx : p.tables.exec = Jvm.exec) {pc : Nat} {Ls : Array Slot} {v : Value} {t : FieldType} {rest : List Value} (hret : meth.sig.returnType = some t) (ht : t.isReference = true) (hv : v.isRef = true) (hlk : meth.locks = false) (hd : decode c.code pc = .ok (.areturn, 1)) (hc : cells ≤ rc) (hs : slots ≤ rs) (hq : Q (some v) T.heap locs) :
    Go p e below (fun o U' => ∃ v L, o = .returned v ∧ Q v U'.heap L ∧ ReturnedEndW s o U' L rc rs) (T.setTop (mkF m pc Ls (v :: rest))) := by
  obtain ⟨fs, hr, hrun, hended, w1, w2, w3, w4⟩ := X.leaveW hS hn (v := some v) (fun h => by rw [hret] at h; cases h) hlk
  exact ⟨_, _, own_retA X hx hret ht hv hd hr, hrun, hended, _, _, rfl, hq, w1, w2, w3, w4.mono hc hs⟩
theorem Go.ret0W (hS : s.Since vm₁ kS) (hn : kS ≤ T.heap.size) (X : Stand p l e R (s.setVm vm₁) m args below meth c T locs cells slots) (hx : p.tables.exec = Jvm.exec) {pc : Nat} {Ls : Array Slot} (hret : meth.sig.returnType = none) (hlk : meth.locks = false) (hd : decode c.code pc = .ok (.return_, 1)) (hc : cells ≤ rc) (hs : slots ≤ rs) (hq : Q none T.heap locs) :
    Go p e below (fun o U' => ∃ v L, o = .returned v ∧ Q v U'.heap L ∧ ReturnedEndW s o U' L rc rs) (T.setTop (mkF m pc Ls [])) := by
  obtain ⟨fs, hr, hrun, hended, w1, w2, w3, w4⟩ := X.leaveW hS hn (v := none) (fun _ => rfl) hlk
  exact ⟨_, _, X.returnOut hx hret hd hr, hrun, hended, _, _, rfl, hq, w1, w2, w3, w4.mono hc hs⟩
end Wide
section Held
variable {vm₁ : Vm} {kS : Nat} {Z : State} {a0 : Array Value} {EL : List (String × Nat)} {h0 h h' : Heap} {vm0 : Vm}
theorem own_chE (A : CHr Z EL vm₁ h0 vm0 h) (E : Ext h h') : CHr Z EL vm₁ h0 vm0 h' := A.trans (CHr.ext E A.1)
theorem own_chW {a : Addr} {sl : Nat} {v : Value} (A : CHr Z EL vm₁ h0 vm0 h) (W : Wr h h' a sl v) (S : Safe Z EL vm0 h a) : CHr Z EL vm₁ h0 vm0 h' := A.trans (CHr.wr W S A.1)
theorem own_chK {ws : List Addr} (A : CHr Z EL vm₁ h0 vm0 h) (K : Keep h h' ws) (S : ∀ x ∈ ws, Safe Z EL vm0 h x) : CHr Z EL vm₁ h0 vm0 h' := A.trans (CHr.keep K S A.1)
theorem own_chEnd (X : Stand p l e R (s.setVm vm₁) m args below meth c T locs cells slots) (eT : T.heap = h) (hZ : Z.Warmed39 vm₁) (hEL : EW Z a0 EL) (A : CHr Z EL s.vm h0 vm₁ h) (hh : s.heap = h0) : CHr Z EL s.vm s.heap T.vm T.heap := by
  rw [eT, hh]; exact A.trans (CHv.at X hZ hEL A.1)
theorem Go.retNH (hS : s.Since vm₁ kS) (hn : kS ≤ T.heap.size) (hC : CHr Z EL s.vm s.heap T.vm T.heap) (X : Stand p l e R (s.setVm vm₁) m args below meth c T locs cells slots) (hx : p.tables.exec = Jvm.exec) {pc : Nat} {Ls : Array Slot} {z : Int32} {t : FieldType} {rest : List Value} (hret : meth.sig.returnType = some t) (ht : t = .boolean ∨ t = .byte ∨ t = .char ∨ t = .short) (hlk : meth.locks = false) (hd : decode c.code pc = .ok (.ireturn, 1)) (hc : cells ≤ rc) (hs : slots ≤ rs) (hq : Q (some (.int (nar t z))) T.heap locs) :
    Go p e below (fun o U' => ∃ v L, o = .returned v ∧ Q v U'.heap L ∧ CHr Z EL s.vm s.heap U'.vm U'.heap ∧ ReturnedEndW s o U' L rc rs) (T.setTop (mkF m pc Ls (.int z :: rest))) := by
  obtain ⟨fs, hr, hrun, hended, w1, w2, w3, w4⟩ := X.leaveW hS hn (v := some (.int (nar t z))) (fun h => by rw [hret] at h; cases h) hlk
  exact ⟨_, _, RoadKit.retN X hx hret ht hd hr, hrun, hended, _, _, rfl, hq, hC, w1, w2, w3, w4.mono hc hs⟩
theorem Go.retAH (hS : s.Since vm₁ kS) (hn : kS ≤ T.heap.size) (hC : CHr Z EL s.vm s.heap T.vm T.heap) (X : Stand p l e R (s.setVm vm₁) m args below meth c T locs cells slots) (hx : p.tables.exec = Jvm.exec) {pc : Nat} {Ls : Array Slot} {v : Value} {t : FieldType} {rest : List Value} (hret : meth.sig.returnType = some t) (ht : t.isReference = true) (hv : v.isRef = true) (hlk : meth.locks = false) (hd : decode c.code pc = .ok (.areturn, 1)) (hc : cells ≤ rc) (hs : slots ≤ rs) (hq : Q (some v) T.heap locs) :
    Go p e below (fun o U' => ∃ v L, o = .returned v ∧ Q v U'.heap L ∧ CHr Z EL s.vm s.heap U'.vm U'.heap ∧ ReturnedEndW s o U' L rc rs) (T.setTop (mkF m pc Ls (v :: rest))) := by
  obtain ⟨fs, hr, hrun, hended, w1, w2, w3, w4⟩ := X.leaveW hS hn (v := some v) (fun h => by rw [hret] at h; cases h) hlk
  exact ⟨_, _, own_retA X hx hret ht hv hd hr, hrun, hended, _, _, rfl, hq, hC, w1, w2, w3, w4.mono hc hs⟩
theorem Go.ret0H (hS : s.Since vm₁ kS) (hn : kS ≤ T.heap.size) (hC : CHr Z EL s.vm s.heap T.vm T.heap) (X : Stand p l e R (s.setVm vm₁) m args below meth c T locs cells slots) (hx : p.tables.exec = Jvm.exec) {pc : Nat} {Ls : Array Slot} (hret : meth.sig.returnType = none) (hlk : meth.locks = false) (hd : decode c.code pc = .ok (.return_, 1)) (hc : cells ≤ rc) (hs : slots ≤ rs) (hq : Q none T.heap locs) :
    Go p e below (fun o U' => ∃ v L, o = .returned v ∧ Q v U'.heap L ∧ CHr Z EL s.vm s.heap U'.vm U'.heap ∧ ReturnedEndW s o U' L rc rs) (T.setTop (mkF m pc Ls [])) := by
  obtain ⟨fs, hr, hrun, hended, w1, w2, w3, w4⟩ := X.leaveW hS hn (v := none) (fun _ => rfl) hlk
  exact ⟨_, _, X.returnOut hx hret hd hr, hrun, hended, _, _, rfl, hq, hC, w1, w2, w3, w4.mono hc hs⟩
end Held
theorem own_selP {Z : State} {a0 : Array Value} {y : MethodName} {n : Nat} (hZ : Z.Warmed39 s.vm) (wi : (Cond.instantiable y.cls n).before a0 Z = true) (wp : (Cond.privateMethod y).before a0 Z = true) (wm : (Cond.instanceMethod y).before a0 Z = true) (hy : y.cls ≠ "java/lang/invoke/MethodHandle" ∧ y.cls ≠ "java/lang/invoke/VarHandle") : (Cond.selects y.cls y y).before args s = true := by
  obtain ⟨c, k, h1, h2, h3, h4, -⟩ := Cond.instantiable_spec (show (Cond.instantiable y.cls n).before args s = true from mv hZ wi)
  refine selects_self_of_private h1 h2 ?_ (Cond.privateMethod_at (mvP (args := args) hZ wp)) (mvT hZ wm) hy
  simp only [Bool.or_eq_false_iff] at h4; exact h4.1
theorem own_NSroot {Z : State} {a0 : Array Value} {O K : String} {n : Nat} (w : (Cond.noSuperclass O).before a0 Z = true) (wk : (Cond.instantiable K n).before a0 Z = true) (hn : O ≠ K) : NS Z O K := by
  obtain ⟨c, k, h1, h2, h3, -, -⟩ := Cond.noSuperclass_spec w
  obtain ⟨t, -, g1, -⟩ := Cond.instantiable_spec wk
  have ne := ids_ne h1 g1 hn
  refine ⟨c, t, h1, g1, fun fuel => ?_⟩
  cases fuel with
  | zero => rfl
  | succ f => simp [Vm.isSubclassAux, ne, h2, h3]
theorem own_NSno {Z : State} {a0 : Array Value} {C S K : String} {n : Nat} (w : (Cond.superclass C S).before a0 Z = true) (wk : (Cond.instantiable K n).before a0 Z = true) (ns : NS Z C K) (hn : C ≠ K) : ∃ c t, Z.vm.findClass C = some c ∧ Z.vm.findClass K = some t ∧ Z.vm.assignable c t = false := by
  obtain ⟨c, t, h0, g0, n3⟩ := ns
  obtain ⟨p, k, kp, h1, h2, h3, h4, h5, -, h7⟩ := Cond.superclass_spec h0 w
  obtain ⟨t', kt, g1, g2, g3, g4, -⟩ := Cond.instantiable_spec wk
  cases g0.symm.trans g1
  simp only [Bool.or_eq_false_iff] at g4
  have ne := ids_ne h0 g0 hn
  refine ⟨c, t, h0, g0, ?_⟩
  show Z.vm.assignableAux (255 + 1) c t = false
  simp [Vm.assignableAux, ne, h2, g2, h5, g3, g4.1, Vm.isSubclass, n3]
theorem own_old_size {Z : State} {n0 : Nat} {h : Heap} (O : Old Z n0 h) : n0 ≤ h.size := by rw [← O.1]; exact O.2.1
theorem own_cat1 {v : Value} (h : v.isRef = true) : v.category = 1 := by rcases ref_cases h with rfl | ⟨_, rfl⟩ <;> rfl
end New
end Jvm.RoadKit
namespace Jvm.Pilot.@@N@@
open Jvm Jvm.ClassFile Sem Op Lib Jvm.Free Jvm.Stand Jvm.LawKit Jvm.RoadKit Bundle Jvm.Pilot.@@N@@.Jvm.D
theorem own_pos (x : Int64) (h : ¬ (x &&& (9223372036854775807 : Int64)) = (0 : Int64)) : (0 : Int64) < (x &&& (9223372036854775807 : Int64)) := by
  have e := c_maskL x 9223372036854775807 63 (by decide) (by decide)
  rw [Int64.lt_iff_toInt_lt]
  have h1 : (x &&& 9223372036854775807).toInt ≠ 0 := fun q => h (Int64.toInt_inj.mp (by rw [q]; rfl))
  have h2 : (0 : Int64).toInt = 0 := rfl
  omega
theorem pn_0 : plainName "com/example/bare_lock/barelock/Acquisition" = true := by first | (simp [plainName, overriddenIn]; done) | decide +kernel
theorem d2_0 : decode prog_1_method_1_code 0 = .ok (.aload_n 0, 1) := by decide +kernel
theorem d2_1 : decode prog_1_method_1_code 1 = .ok (.invokespecial 1, 3) := by decide +kernel
theorem d2_4 : decode prog_1_method_1_code 4 = .ok (.aload_n 0, 1) := by decide +kernel
theorem d2_5 : decode prog_1_method_1_code 5 = .ok (.lload_n 1, 1) := by decide +kernel
theorem d2_6 : decode prog_1_method_1_code 6 = .ok (.putfield 7, 3) := by decide +kernel
theorem d2_9 : decode prog_1_method_1_code 9 = .ok (.aload_n 0, 1) := by decide +kernel
theorem d2_10 : decode prog_1_method_1_code 10 = .ok (.aload_n 3, 1) := by decide +kernel
theorem d2_11 : decode prog_1_method_1_code 11 = .ok (.putfield 13, 3) := by decide +kernel
theorem d2_14 : decode prog_1_method_1_code 14 = .ok (.return_, 1) := by decide +kernel
theorem ef_init (m : MethodId) (ob : Addr) (tk : Int64) : entryFrame m #[(.ref ob), (.long tk), .null] 4 = mkF m 0 #[.val (.ref ob), .val (.long tk), .second, .val .null] [] := by first | (simp [entryFrame, mkF, argsToLocals, Value.category]; done) | rfl
def Q_init (Z : State) (ob : Addr) (tk : Int64) (h0 : Heap) (n0 : Nat) (v : Option Value) (h : Heap) (L : List Loc) : Prop := v = none ∧ Fr n0 L ∧ Keep h0 h [ob] ∧ Exa Z h ob "com/example/bare_lock/barelock/Acquisition" ∧ Fld Z h ob "com/example/bare_lock/barelock/Acquisition" "token" "J" (.long tk) ∧ Fld Z h ob "com/example/bare_lock/barelock/Acquisition" "leaseLeft" "Ljava/time/Duration;" .null
set_option maxRecDepth 65536 in
set_option maxHeartbeats 40000000 in
theorem init (l : Launch) (Z : State) (a0 : Array Value) (hw : ∀ d ∈ tables_1, d.before a0 Z = true) (ws : List Jvm.Cond) (ob : Addr) (tk : Int64) (h0 : Heap) (n0 : Nat) (O0 : Old Z n0 h0) (P0 : Exa Z h0 ob "com/example/bare_lock/barelock/Acquisition") (P1 : Fld Z h0 ob "com/example/bare_lock/barelock/Acquisition" "token" "J" (.long (0 : Int64))) (P2 : Fld Z h0 ob "com/example/bare_lock/barelock/Acquisition" "leaseLeft" "Ljava/time/Duration;" .null) (gob : n0 ≤ ob) :
    MetFree l (⟨"com/example/bare_lock/barelock/Acquisition", "<init>", "(JLjava/time/Duration;)V"⟩ : MethodName) (head1 (Jvm.Cond.code (⟨"com/example/bare_lock/barelock/Acquisition", "<init>", "(JLjava/time/Duration;)V"⟩ : MethodName) prog_1_method_1_code 4 none :: ws) ({ frames := 1, cells := 0, slots := 0, locals := 12 } : Room)) (fun a U => a = #[(.ref ob), (.long tk), .null] ∧ Z.Warmed39 U.vm ∧ U.heap = h0) (fun _ _ _ _ _ => True) (fun _ U o U' => ∃ v L, o = .returned v ∧ Q_init Z ob tk h0 n0 v U'.heap L ∧ FrameEnd U o U' L ({ frames := 1, cells := 0, slots := 0, locals := 12 } : Room).cells ({ frames := 1, cells := 0, slots := 0, locals := 12 } : Room).slots) := by
  refine MetFree.of_bodySF (plainFor_of_name pn_0) hisR ?_
  intro p e s m args below meth c s₁ Bd hml0 hP hK
  obtain ⟨rfl, hZ, hh⟩ := hP
  have hx := Bd.exec
  have hby := Bd.bytes
  have hml : c.maxLocals = 4 := hml0
  have hown : s.vm.findClass "com/example/bare_lock/barelock/Acquisition" = some m.cls := findClass_of_methodNamed Bd.named
  have hnm := (name_of_methodNamed Bd.named Bd.method).1
  have hlk := BodyLoose.notSynchronized Bd
  have X0 : Stand p l e ({ frames := 1, cells := 0, slots := 0, locals := 12 } : Room) s m #[(.ref ob), (.long tk), .null] below meth c s₁ [] 0 0 := Stand.of_body Bd
  have e0 : s₁.heap = h0 := by rw [← hh, Bd.state]; rfl
  have N0 := Fr.nil n0
  refine Go.start (P := fun o U' => ∃ v L, o = .returned v ∧ Q_init Z ob tk h0 n0 v U'.heap L ∧ FrameEnd s o U' L ({ frames := 1, cells := 0, slots := 0, locals := 12 } : Room).cells ({ frames := 1, cells := 0, slots := 0, locals := 12 } : Room).slots) (ef_init m ob tk) ?_
  show Go p e below _ (s₁.setTop (mkF m 0 #[.val (.ref ob), .val (.long tk), .second, .val .null] []))
  refine Go.by (fun t k => XS.aloadN X0.here hx rfl (hb hby d2_0) rfl rfl k) ?_
  show Go p e below _ (s₁.setTop (mkF m 1 #[.val (.ref ob), .val (.long tk), .second, .val .null] [(.ref ob)]))
  obtain ⟨T1, X1, e1, st1⟩ := initO X0 hx hZ hown (hw _ (List.mem_of_getElem? (i := 10) rfl)) (hw _ (List.mem_of_getElem? (i := 11) rfl)) (hw _ (List.mem_of_getElem? (i := 12) rfl)) e0 (g := (mkF m 1 #[.val (.ref ob), .val (.long tk), .second, .val .null] [(.ref ob)])) rfl (by rw [hml]; rfl) rfl (hb hby d2_1) (by decide) (W := 0) (by show 2 * 0 + _ ≤ _; exact Nat.le_of_eq rfl) (by decide)
  refine Go.by st1 ?_
  show Go p e below _ (T1.setTop (mkF m 4 #[.val (.ref ob), .val (.long tk), .second, .val .null] []))
  refine Go.by (fun t k => XS.aloadN X1.here hx rfl (hb hby d2_4) rfl rfl k) ?_
  show Go p e below _ (T1.setTop (mkF m 5 #[.val (.ref ob), .val (.long tk), .second, .val .null] [(.ref ob)]))
  refine Go.by (fun t k => XS.lloadN X1.here hx rfl (hb hby d2_5) rfl k) ?_
  show Go p e below _ (T1.setTop (mkF m 6 #[.val (.ref ob), .val (.long tk), .second, .val .null] [(.long tk), (.ref ob)]))
  obtain ⟨T2, h2, X2, e2, W2, st2⟩ := putF X1 hx hZ hown (host := "") (Or.inl (hw _ (List.mem_of_getElem? (i := 13) rfl))) Via.refl e1 P1 P0 (Or.inr ⟨(hw _ (List.mem_of_getElem? (i := 14) rfl)), rfl, hnm⟩) (hw _ (List.mem_of_getElem? (i := 6) rfl)) (ty := .long) (by decide) rfl rfl (g := (mkF m 6 #[.val (.ref ob), .val (.long tk), .second, .val .null] [(.long tk), (.ref ob)])) rfl rfl (hb hby d2_6)
  have N2 := Fr.snoc X2 N0 gob
  have F3 : Fld Z h2 ob "com/example/bare_lock/barelock/Acquisition" "token" "J" (.long tk) := P1.same W2
  refine Go.by st2 ?_
  show Go p e below _ (T2.setTop (mkF m 9 #[.val (.ref ob), .val (.long tk), .second, .val .null] []))
  refine Go.by (fun t k => XS.aloadN X2.here hx rfl (hb hby d2_9) rfl rfl k) ?_
  show Go p e below _ (T2.setTop (mkF m 10 #[.val (.ref ob), .val (.long tk), .second, .val .null] [(.ref ob)]))
  refine Go.by (fun t k => XS.aloadN X2.here hx rfl (hb hby d2_10) rfl rfl k) ?_
  show Go p e below _ (T2.setTop (mkF m 11 #[.val (.ref ob), .val (.long tk), .second, .val .null] [.null, (.ref ob)]))
  have F4 : Fld Z h2 ob "com/example/bare_lock/barelock/Acquisition" "leaseLeft" "Ljava/time/Duration;" .null := (P2.other W2 (Or.inr (slot_ne (Or.inr (hw _ (List.mem_of_getElem? (i := 16) rfl))) (Or.inr (hw _ (List.mem_of_getElem? (i := 14) rfl))) (by decide) (t := (.object "java/time/Duration")) (t' := .long) (by decide) (by decide))))
  have F5 : Exa Z h2 ob "com/example/bare_lock/barelock/Acquisition" := (P0.wr W2)
  obtain ⟨T6, h6, X6, e6, W6, st6⟩ := putF X2 hx hZ hown (host := "") (Or.inl (hw _ (List.mem_of_getElem? (i := 15) rfl))) Via.refl e2 F4 F5 (Or.inr ⟨(hw _ (List.mem_of_getElem? (i := 16) rfl)), rfl, hnm⟩) (hw _ (List.mem_of_getElem? (i := 6) rfl)) (ty := (.object "java/time/Duration")) (by decide) rfl rfl (g := (mkF m 11 #[.val (.ref ob), .val (.long tk), .second, .val .null] [.null, (.ref ob)])) rfl rfl (hb hby d2_11)
  have N6 := Fr.snoc X6 N2 gob
  have F7 : Fld Z h6 ob "com/example/bare_lock/barelock/Acquisition" "leaseLeft" "Ljava/time/Duration;" .null := F4.same W6
  refine Go.by st6 ?_
  show Go p e below _ (T6.setTop (mkF m 14 #[.val (.ref ob), .val (.long tk), .second, .val .null] []))
  have F8 : Keep h0 h6 [ob] := (((Keep.refl h0 [ob]).wr W2 (Or.inl (List.mem_of_getElem? (i := 0) rfl))).wr W6 (Or.inl (List.mem_of_getElem? (i := 0) rfl)))
  have F9 : Exa Z h6 ob "com/example/bare_lock/barelock/Acquisition" := (F5.wr W6)
  have F10 : Fld Z h6 ob "com/example/bare_lock/barelock/Acquisition" "token" "J" (.long tk) := (F3.other W6 (Or.inr (slot_ne (Or.inr (hw _ (List.mem_of_getElem? (i := 14) rfl))) (Or.inr (hw _ (List.mem_of_getElem? (i := 16) rfl))) (by decide) (t := .long) (t' := (.object "java/time/Duration")) (by decide) (by decide))))
  have hq : Q_init Z ob tk h0 n0 none h6 _ := ⟨rfl, N6, F8, F9, F10, F7⟩
  exact Go.ret0 X6 hx Bd.returns hlk (hb hby d2_14) (by decide) (by decide) (by rw [e6]; exact hq)
theorem d1_0 : decode prog_1_method_2_code 0 = .ok (.lload_n 0, 1) := by decide +kernel
theorem d1_1 : decode prog_1_method_2_code 1 = .ok (.lconst 0, 1) := by decide +kernel
theorem d1_2 : decode prog_1_method_2_code 2 = .ok (.lcmp, 1) := by decide +kernel
theorem d1_3 : decode prog_1_method_2_code 3 = .ok (.ifCond .gt 17, 3) := by decide +kernel
theorem d1_20 : decode prog_1_method_2_code 20 = .ok (.new 8, 3) := by decide +kernel
theorem d1_23 : decode prog_1_method_2_code 23 = .ok (.dup, 1) := by decide +kernel
theorem d1_24 : decode prog_1_method_2_code 24 = .ok (.lload_n 0, 1) := by decide +kernel
theorem d1_25 : decode prog_1_method_2_code 25 = .ok (.aconst_null, 1) := by decide +kernel
theorem d1_26 : decode prog_1_method_2_code 26 = .ok (.invokespecial 26, 3) := by decide +kernel
theorem pd_0 : parseMethodDescriptor "(JLjava/time/Duration;)V" = some ⟨[.long, (.object "java/time/Duration")], none⟩ := by decide +kernel
theorem d1_29 : decode prog_1_method_2_code 29 = .ok (.areturn, 1) := by decide +kernel
theorem ef_granted (m : MethodId) (tk : Int64) : entryFrame m #[(.long tk)] 2 = mkF m 0 #[.val (.long tk), .second] [] := by first | (simp [entryFrame, mkF, argsToLocals, Value.category]; done) | rfl
def Q_granted (Z : State) (tk : Int64) (h0 : Heap) (n0 : Nat) (v : Option Value) (h : Heap) (L : List Loc) : Prop := ∃ ob : Addr, v = some (.ref ob) ∧ Fr n0 L ∧ Keep h0 h [] ∧ h0.size ≤ ob ∧ Exa Z h ob "com/example/bare_lock/barelock/Acquisition" ∧ Fld Z h ob "com/example/bare_lock/barelock/Acquisition" "token" "J" (.long tk) ∧ Fld Z h ob "com/example/bare_lock/barelock/Acquisition" "leaseLeft" "Ljava/time/Duration;" .null
set_option maxRecDepth 65536 in
set_option maxHeartbeats 40000000 in
theorem granted (l : Launch) (Z : State) (a0 : Array Value) (hw : ∀ d ∈ tables_1, d.before a0 Z = true) (ws : List Jvm.Cond) (tk : Int64) (h0 : Heap) (n0 : Nat) (O0 : Old Z n0 h0) (hpos : (0 : Int64) < tk) :
    MetFree l (⟨"com/example/bare_lock/barelock/Acquisition", "granted", "(J)Lcom/example/bare_lock/barelock/Acquisition;"⟩ : MethodName) (head1 (Jvm.Cond.code (⟨"com/example/bare_lock/barelock/Acquisition", "granted", "(J)Lcom/example/bare_lock/barelock/Acquisition;"⟩ : MethodName) prog_1_method_2_code 2 (some (.object "com/example/bare_lock/barelock/Acquisition")) :: ws) ({ frames := 2, cells := 1, slots := 2, locals := 28 } : Room)) (fun a U => a = #[(.long tk)] ∧ Z.Warmed39 U.vm ∧ U.heap = h0) (fun _ _ _ _ _ => True) (fun _ U o U' => ∃ v L, o = .returned v ∧ Q_granted Z tk h0 n0 v U'.heap L ∧ FrameEnd U o U' L ({ frames := 2, cells := 1, slots := 2, locals := 28 } : Room).cells ({ frames := 2, cells := 1, slots := 2, locals := 28 } : Room).slots) := by
  refine MetFree.of_bodySF (plainFor_of_name pn_0) hisR ?_
  intro p e s m args below meth c s₁ Bd hml0 hP hK
  obtain ⟨rfl, hZ, hh⟩ := hP
  have hx := Bd.exec
  have hby := Bd.bytes
  have hml : c.maxLocals = 2 := hml0
  have hown : s.vm.findClass "com/example/bare_lock/barelock/Acquisition" = some m.cls := findClass_of_methodNamed Bd.named
  have hnm := (name_of_methodNamed Bd.named Bd.method).1
  have hlk := BodyLoose.notSynchronized Bd
  have X0 : Stand p l e ({ frames := 2, cells := 1, slots := 2, locals := 28 } : Room) s m #[(.long tk)] below meth c s₁ [] 0 0 := Stand.of_body Bd
  have e0 : s₁.heap = h0 := by rw [← hh, Bd.state]; rfl
  have N0 := Fr.nil n0
  refine Go.start (P := fun o U' => ∃ v L, o = .returned v ∧ Q_granted Z tk h0 n0 v U'.heap L ∧ FrameEnd s o U' L ({ frames := 2, cells := 1, slots := 2, locals := 28 } : Room).cells ({ frames := 2, cells := 1, slots := 2, locals := 28 } : Room).slots) (ef_granted m tk) ?_
  show Go p e below _ (s₁.setTop (mkF m 0 #[.val (.long tk), .second] []))
  refine Go.by (fun t k => XS.lloadN X0.here hx rfl (hb hby d1_0) rfl k) ?_
  show Go p e below _ (s₁.setTop (mkF m 1 #[.val (.long tk), .second] [(.long tk)]))
  refine Go.by (fun t k => XS.lconst X0.here hx rfl (hb hby d1_1) k) ?_
  show Go p e below _ (s₁.setTop (mkF m 2 #[.val (.long tk), .second] [(.long (0 : Int64)), (.long tk)]))
  refine Go.by (fun t k => XS.lcmp X0.here hx rfl (hb hby d1_2) rfl k) ?_
  show Go p e below _ (s₁.setTop (mkF m 3 #[.val (.long tk), .second] [(.int (lcmpW tk (0 : Int64)))]))
  refine Go.by (fun t k => XS.ifYes X0.here hx rfl (pc0 := 3) (pc' := 20) rfl (hb hby d1_3) rfl ((if0 _ _).trans (tlt ((lw_gt tk (0 : Int64)).mpr hpos)).2.2.1) (by decide) (by decide) k) ?_
  show Go p e below _ (s₁.setTop (mkF m 20 #[.val (.long tk), .second] []))
  obtain ⟨T1, h1, X1, e1, E1, A1, D1, -, st1⟩ := newO X0 hx hZ hown (hw _ (List.mem_of_getElem? (i := 5) rfl)) (hw _ (List.mem_of_getElem? (i := 6) rfl)) (hw _ (List.mem_of_getElem? (i := 3) rfl)) e0 (g := (mkF m 20 #[.val (.long tk), .second] [])) rfl (hb hby d1_20) (by decide) (by decide)
  obtain ⟨b1, g1⟩ : ∃ z, z = h0.size := ⟨_, rfl⟩
  rw [← g1] at A1 D1 st1
  have gl1 : h0.size ≤ b1 := Nat.le_of_eq g1.symm
  have ge1 : n0 ≤ b1 := Nat.le_trans (own_old_size O0) gl1
  have sz1 : h0.size ≤ b1 := Nat.le_trans (Keep.refl h0 []).1 gl1
  have F2 : Fld Z h1 b1 "com/example/bare_lock/barelock/Acquisition" "token" "J" (.long (0 : Int64)) := D1 (Or.inr (hw _ (List.mem_of_getElem? (i := 14) rfl))) (ty := .long) (by decide)
  have F3 : Fld Z h1 b1 "com/example/bare_lock/barelock/Acquisition" "leaseLeft" "Ljava/time/Duration;" .null := D1 (Or.inr (hw _ (List.mem_of_getElem? (i := 16) rfl))) (ty := (.object "java/time/Duration")) (by decide)
  refine Go.by st1 ?_
  show Go p e below _ (T1.setTop (mkF m 23 #[.val (.long tk), .second] [(.ref b1)]))
  refine Go.by (fun t k => XS.dup X1.here hx rfl (hb hby d1_23) rfl rfl k) ?_
  show Go p e below _ (T1.setTop (mkF m 24 #[.val (.long tk), .second] [(.ref b1), (.ref b1)]))
  refine Go.by (fun t k => XS.lloadN X1.here hx rfl (hb hby d1_24) rfl k) ?_
  show Go p e below _ (T1.setTop (mkF m 25 #[.val (.long tk), .second] [(.long tk), (.ref b1), (.ref b1)]))
  refine Go.by (fun t k => XS.aconstNull X1.here hx rfl (hb hby d1_25) k) ?_
  show Go p e below _ (T1.setTop (mkF m 26 #[.val (.long tk), .second] [.null, (.long tk), (.ref b1), (.ref b1)]))
  have F5 : Old Z n0 h1 := (O0.ext E1)
  have F6 : Keep h0 h1 [] := ((Keep.refl h0 []).ext E1)
  obtain ⟨_, _, ⟨T4, L4, k4, n4⟩, -, X4, ⟨Lc4, hQ4, l4, y4, z4⟩, st4⟩ := X1.specialBack hx (y := (⟨"com/example/bare_lock/barelock/Acquisition", "<init>", "(JLjava/time/Duration;)V"⟩ : MethodName)) rfl hown (mvT hZ (hw _ (List.mem_of_getElem? (i := 7) rfl))) (mvT hZ (hw _ (List.mem_of_getElem? (i := 8) rfl))) (mvT hZ (hw _ (List.mem_of_getElem? (i := 9) rfl))) (by decide) (backOf (W := 1) (init l Z a0 hw [] b1 tk h1 n0 F5 A1 F2 F3 ge1) hZ (hw _ (List.mem_of_getElem? (i := 9) rfl)) (hw _ (List.mem_of_getElem? (i := 3) rfl)) (by decide) (by decide)) (g := (mkF m 26 #[.val (.long tk), .second] [.null, (.long tk), (.ref b1), (.ref b1)])) rfl (by rw [hml]; rfl) (Steps.refl _) (a := b1) (argsL := [(.long tk), .null]) (rest := [(.ref b1)]) (lenOf pd_0 rfl) rfl (by show 2 * 0 + _ ≤ _; exact Nat.le_of_eq rfl) (hb hby d1_26) (fun _ _ => ⟨rfl, e1, (by decide : 1 + 0 ≤ _), (by decide : 2 + 0 ≤ _)⟩)
  dsimp only [Pt.U, Pt.locs, Pt.cells, Pt.slots] at X4 l4 y4 z4 st4 hQ4
  subst l4 y4 z4
  obtain ⟨rfl, N4q, K4, F4_0, F4_1, F4_2⟩ := hQ4
  have N4 := Fr.app N0 N4q
  refine Go.tr st4 ?_
  show Go p e below _ (T4.setTop (mkF m 29 #[.val (.long tk), .second] [(.ref b1)]))
  have F7 : Keep h0 T4.heap [] := (F6.trans K4 (allS (Or.inr sz1) all0))
  have hq : Q_granted Z tk h0 n0 (some (.ref b1)) T4.heap _ := ⟨b1, rfl, N4, F7, sz1, F4_0, F4_1, F4_2⟩
  exact Go.retA X4 hx Bd.returns rfl rfl hlk (hb hby d1_29) (by decide) (by decide) hq
theorem d4_0 : decode prog_1_method_4_code 0 = .ok (.aload_n 0, 1) := by decide +kernel
theorem d4_1 : decode prog_1_method_4_code 1 = .ok (.getfield 13, 3) := by decide +kernel
theorem d4_4 : decode prog_1_method_4_code 4 = .ok (.ifnonnull 7, 3) := by decide +kernel
theorem d4_7 : decode prog_1_method_4_code 7 = .ok (.iconst 1, 1) := by decide +kernel
theorem d4_8 : decode prog_1_method_4_code 8 = .ok (.goto 4, 3) := by decide +kernel
theorem d4_12 : decode prog_1_method_4_code 12 = .ok (.ireturn, 1) := by decide +kernel
theorem ef_isGranted (m : MethodId) (ob : Addr) : entryFrame m #[(.ref ob)] 1 = mkF m 0 #[.val (.ref ob)] [] := by first | (simp [entryFrame, mkF, argsToLocals, Value.category]; done) | rfl
def Q_isGranted (Z : State) (ob : Addr) (h0 : Heap) (n0 : Nat) (v : Option Value) (h : Heap) (L : List Loc) : Prop := v = some (.int (1 : Int32)) ∧ Fr n0 L ∧ h = h0
set_option maxRecDepth 65536 in
set_option maxHeartbeats 40000000 in
theorem isGranted (l : Launch) (Z : State) (a0 : Array Value) (hw : ∀ d ∈ tables_1, d.before a0 Z = true) (ws : List Jvm.Cond) (ob : Addr) (h0 : Heap) (n0 : Nat) (O0 : Old Z n0 h0) (P0 : Fld Z h0 ob "com/example/bare_lock/barelock/Acquisition" "leaseLeft" "Ljava/time/Duration;" .null) :
    MetFree l (⟨"com/example/bare_lock/barelock/Acquisition", "isGranted", "()Z"⟩ : MethodName) (head1 (Jvm.Cond.code (⟨"com/example/bare_lock/barelock/Acquisition", "isGranted", "()Z"⟩ : MethodName) prog_1_method_4_code 1 (some .boolean) :: ws) ({ frames := 0, cells := 0, slots := 0, locals := 0 } : Room)) (fun a U => a = #[(.ref ob)] ∧ Z.Warmed39 U.vm ∧ U.heap = h0) (fun _ _ _ _ _ => True) (fun _ U o U' => ∃ v L, o = .returned v ∧ Q_isGranted Z ob h0 n0 v U'.heap L ∧ FrameEnd U o U' L ({ frames := 0, cells := 0, slots := 0, locals := 0 } : Room).cells ({ frames := 0, cells := 0, slots := 0, locals := 0 } : Room).slots) := by
  refine MetFree.of_bodySF (plainFor_of_name pn_0) hisR ?_
  intro p e s m args below meth c s₁ Bd hml0 hP hK
  obtain ⟨rfl, hZ, hh⟩ := hP
  have hx := Bd.exec
  have hby := Bd.bytes
  have hml : c.maxLocals = 1 := hml0
  have hown : s.vm.findClass "com/example/bare_lock/barelock/Acquisition" = some m.cls := findClass_of_methodNamed Bd.named
  have hnm := (name_of_methodNamed Bd.named Bd.method).1
  have hlk := BodyLoose.notSynchronized Bd
  have X0 : Stand p l e ({ frames := 0, cells := 0, slots := 0, locals := 0 } : Room) s m #[(.ref ob)] below meth c s₁ [] 0 0 := Stand.of_body Bd
  have e0 : s₁.heap = h0 := by rw [← hh, Bd.state]; rfl
  have N0 := Fr.nil n0
  refine Go.start (P := fun o U' => ∃ v L, o = .returned v ∧ Q_isGranted Z ob h0 n0 v U'.heap L ∧ FrameEnd s o U' L ({ frames := 0, cells := 0, slots := 0, locals := 0 } : Room).cells ({ frames := 0, cells := 0, slots := 0, locals := 0 } : Room).slots) (ef_isGranted m ob) ?_
  show Go p e below _ (s₁.setTop (mkF m 0 #[.val (.ref ob)] []))
  refine Go.by (fun t k => XS.aloadN X0.here hx rfl (hb hby d4_0) rfl rfl k) ?_
  show Go p e below _ (s₁.setTop (mkF m 1 #[.val (.ref ob)] [(.ref ob)]))
  obtain ⟨T1, X1, e1, st1⟩ := getF X0 hx hZ hown (host := "") (Or.inl (hw _ (List.mem_of_getElem? (i := 15) rfl))) Via.refl e0 P0 (g := (mkF m 1 #[.val (.ref ob)] [(.ref ob)])) rfl rfl (hb hby d4_1)
  refine Go.by st1 ?_
  show Go p e below _ (T1.setTop (mkF m 4 #[.val (.ref ob)] [.null]))
  refine Go.by (fun t k => XS.ifnonnullNo X1.here hx rfl (hb hby d4_4) rfl k) ?_
  show Go p e below _ (T1.setTop (mkF m 7 #[.val (.ref ob)] []))
  refine Go.by (fun t k => XS.iconst X1.here hx rfl (hb hby d4_7) k) ?_
  show Go p e below _ (T1.setTop (mkF m 8 #[.val (.ref ob)] [(.int (1 : Int32))]))
  refine Go.by (fun t k => XS.goto X1.here hx rfl (pc0 := 8) (pc' := 12) rfl (hb hby d4_8) (by decide) (by decide) k) ?_
  show Go p e below _ (T1.setTop (mkF m 12 #[.val (.ref ob)] [(.int (1 : Int32))]))
  have hq : Q_isGranted Z ob h0 n0 (some (.int (nar .boolean (1 : Int32)))) h0 _ := ⟨rfl, N0, rfl⟩
  exact Go.retN X1 hx (t := .boolean) Bd.returns (by simp) hlk (hb hby d4_12) (by decide) (by decide) (by rw [e1]; exact hq)
theorem d5_0 : decode prog_1_method_5_code 0 = .ok (.aload_n 0, 1) := by decide +kernel
theorem d5_1 : decode prog_1_method_5_code 1 = .ok (.invokevirtual 51, 3) := by decide +kernel
theorem pd_1 : parseMethodDescriptor "()Z" = some ⟨[], some .boolean⟩ := by decide +kernel
theorem d5_4 : decode prog_1_method_5_code 4 = .ok (.ifCond .ne 13, 3) := by decide +kernel
theorem d5_17 : decode prog_1_method_5_code 17 = .ok (.aload_n 0, 1) := by decide +kernel
theorem d5_18 : decode prog_1_method_5_code 18 = .ok (.getfield 7, 3) := by decide +kernel
theorem d5_21 : decode prog_1_method_5_code 21 = .ok (.lreturn, 1) := by decide +kernel
theorem ef_token (m : MethodId) (ob : Addr) : entryFrame m #[(.ref ob)] 1 = mkF m 0 #[.val (.ref ob)] [] := by first | (simp [entryFrame, mkF, argsToLocals, Value.category]; done) | rfl
def Q_token (Z : State) (ob : Addr) (tk : Int64) (h0 : Heap) (n0 : Nat) (v : Option Value) (h : Heap) (L : List Loc) : Prop := v = some (.long tk) ∧ Fr n0 L ∧ h = h0
set_option maxRecDepth 65536 in
set_option maxHeartbeats 40000000 in
theorem token (l : Launch) (Z : State) (a0 : Array Value) (hw : ∀ d ∈ tables_1, d.before a0 Z = true) (ws : List Jvm.Cond) (ob : Addr) (tk : Int64) (h0 : Heap) (n0 : Nat) (O0 : Old Z n0 h0) (P0 : Exa Z h0 ob "com/example/bare_lock/barelock/Acquisition") (P1 : Fld Z h0 ob "com/example/bare_lock/barelock/Acquisition" "token" "J" (.long tk)) (P2 : Fld Z h0 ob "com/example/bare_lock/barelock/Acquisition" "leaseLeft" "Ljava/time/Duration;" .null) :
    MetFree l (⟨"com/example/bare_lock/barelock/Acquisition", "token", "()J"⟩ : MethodName) (head1 (Jvm.Cond.code (⟨"com/example/bare_lock/barelock/Acquisition", "token", "()J"⟩ : MethodName) prog_1_method_5_code 1 (some .long) :: ws) ({ frames := 1, cells := 0, slots := 0, locals := 12 } : Room)) (fun a U => a = #[(.ref ob)] ∧ Z.Warmed39 U.vm ∧ U.heap = h0) (fun _ _ _ _ _ => True) (fun _ U o U' => ∃ v L, o = .returned v ∧ Q_token Z ob tk h0 n0 v U'.heap L ∧ FrameEnd U o U' L ({ frames := 1, cells := 0, slots := 0, locals := 12 } : Room).cells ({ frames := 1, cells := 0, slots := 0, locals := 12 } : Room).slots) := by
  refine MetFree.of_bodySF (plainFor_of_name pn_0) hisR ?_
  intro p e s m args below meth c s₁ Bd hml0 hP hK
  obtain ⟨rfl, hZ, hh⟩ := hP
  have hx := Bd.exec
  have hby := Bd.bytes
  have hml : c.maxLocals = 1 := hml0
  have hown : s.vm.findClass "com/example/bare_lock/barelock/Acquisition" = some m.cls := findClass_of_methodNamed Bd.named
  have hnm := (name_of_methodNamed Bd.named Bd.method).1
  have hlk := BodyLoose.notSynchronized Bd
  have X0 : Stand p l e ({ frames := 1, cells := 0, slots := 0, locals := 12 } : Room) s m #[(.ref ob)] below meth c s₁ [] 0 0 := Stand.of_body Bd
  have e0 : s₁.heap = h0 := by rw [← hh, Bd.state]; rfl
  have N0 := Fr.nil n0
  refine Go.start (P := fun o U' => ∃ v L, o = .returned v ∧ Q_token Z ob tk h0 n0 v U'.heap L ∧ FrameEnd s o U' L ({ frames := 1, cells := 0, slots := 0, locals := 12 } : Room).cells ({ frames := 1, cells := 0, slots := 0, locals := 12 } : Room).slots) (ef_token m ob) ?_
  show Go p e below _ (s₁.setTop (mkF m 0 #[.val (.ref ob)] []))
  refine Go.by (fun t k => XS.aloadN X0.here hx rfl (hb hby d5_0) rfl rfl k) ?_
  show Go p e below _ (s₁.setTop (mkF m 1 #[.val (.ref ob)] [(.ref ob)]))
  obtain ⟨cq1, kq1, q1a, q1b, q1c⟩ := isOf hZ e0 P0
  obtain ⟨_, _, ⟨T1, L1, k1, n1⟩, -, X1, ⟨Lc1, hQ1, l1, y1, z1⟩, st1⟩ := X0.virtualBack hx (y := (⟨"com/example/bare_lock/barelock/Acquisition", "isGranted", "()Z"⟩ : MethodName)) (z := (⟨"com/example/bare_lock/barelock/Acquisition", "isGranted", "()Z"⟩ : MethodName)) hown (mvT hZ (hw _ (List.mem_of_getElem? (i := 27) rfl))) (mvT hZ (hw _ (List.mem_of_getElem? (i := 18) rfl))) (notFace_of_selects (args := #[]) (mvT hZ (hw _ (List.mem_of_getElem? (i := 20) rfl)))) (mvT hZ (hw _ (List.mem_of_getElem? (i := 20) rfl))) (mvT hZ (hw _ (List.mem_of_getElem? (i := 19) rfl))) (by decide) (backOf (W := 0) (isGranted l Z a0 hw [] ob h0 n0 O0 P2) hZ (hw _ (List.mem_of_getElem? (i := 21) rfl)) (hw _ (List.mem_of_getElem? (i := 3) rfl)) (by decide) (by decide)) q1a q1c (g := (mkF m 1 #[.val (.ref ob)] [(.ref ob)])) rfl (by rw [hml]; rfl) (Steps.refl _) (argsL := []) (rest := []) (lenOf pd_1 rfl) rfl (by show 2 * 0 + _ ≤ _; exact Nat.le_of_eq rfl) (hb hby d5_1) (fun _ _ => ⟨rfl, e0, (by decide : 0 + 0 ≤ _), (by decide : 0 + 0 ≤ _)⟩)
  dsimp only [Pt.U, Pt.locs, Pt.cells, Pt.slots] at X1 l1 y1 z1 st1 hQ1
  subst l1 y1 z1
  obtain ⟨rfl, N1q, e1⟩ := hQ1
  have N1 := Fr.app N0 N1q
  refine Go.tr st1 ?_
  show Go p e below _ (T1.setTop (mkF m 4 #[.val (.ref ob)] [(.int (1 : Int32))]))
  refine Go.by (fun t k => XS.ifYes X1.here hx rfl (pc0 := 4) (pc' := 17) rfl (hb hby d5_4) rfl ((if0 _ _).trans (feq (by decide : ¬ ((1 : Int32) = (0 : Int32)))).2) (by decide) (by decide) k) ?_
  show Go p e below _ (T1.setTop (mkF m 17 #[.val (.ref ob)] []))
  refine Go.by (fun t k => XS.aloadN X1.here hx rfl (hb hby d5_17) rfl rfl k) ?_
  show Go p e below _ (T1.setTop (mkF m 18 #[.val (.ref ob)] [(.ref ob)]))
  obtain ⟨T2, X2, e2, st2⟩ := getF X1 hx hZ hown (host := "") (Or.inl (hw _ (List.mem_of_getElem? (i := 13) rfl))) Via.refl e1 P1 (g := (mkF m 18 #[.val (.ref ob)] [(.ref ob)])) rfl rfl (hb hby d5_18)
  refine Go.by st2 ?_
  show Go p e below _ (T2.setTop (mkF m 21 #[.val (.ref ob)] [(.long tk)]))
  have hq : Q_token Z ob tk h0 n0 (some (.long tk)) h0 _ := ⟨rfl, N1, rfl⟩
  exact Go.retL X2 hx Bd.returns hlk (hb hby d5_21) (by decide) (by decide) (by rw [e2]; exact hq)
theorem pn_1 : plainName "com/example/bare_lock/barelock/AcquisitionGrantedPinLaw" = true := by first | (simp [plainName, overriddenIn]; done) | decide +kernel
theorem pd_2 : parseMethodDescriptor "(J)Lcom/example/bare_lock/barelock/Acquisition;" = some ⟨[.long], some (.object "com/example/bare_lock/barelock/Acquisition")⟩ := by decide +kernel
theorem pd_3 : parseMethodDescriptor "()J" = some ⟨[], some .long⟩ := by decide +kernel
theorem ef_law (m : MethodId) (iq : Int64) : entryFrame m #[(.long iq)] maxLocals = mkF m 0 #[.val (.long iq), .second, .unset, .unset, .unset] [] := by first | (simp [entryFrame, mkF, argsToLocals, Value.category, maxLocals]; done) | rfl
def Q_law (Z : State) (iq : Int64) (h0 : Heap) (n0 : Nat) (v : Option Value) (h : Heap) (L : List Loc) : Prop := v = some (.int (1 : Int32)) ∧ Fr n0 L ∧ Keep h0 h []
set_option maxRecDepth 65536 in
set_option maxHeartbeats 40000000 in
theorem law (l : Launch) (Z : State) (a0 : Array Value) (hw : ∀ d ∈ tables_1, d.before a0 Z = true) (ws : List Jvm.Cond) (iq : Int64) (h0 : Heap) (n0 : Nat) (O0 : Old Z n0 h0) :
    MetFree l x (head1 (Jvm.Cond.code x code maxLocals ret :: ws) room_1) (fun a U => a = #[(.long iq)] ∧ Z.Warmed39 U.vm ∧ U.heap = h0) (fun _ _ _ _ _ => True) (fun _ U o U' => ∃ v L, o = .returned v ∧ Q_law Z iq h0 n0 v U'.heap L ∧ FrameEnd U o U' L room_1.cells room_1.slots) := by
  refine MetFree.of_bodySF (plainFor_of_name pn_1) hisR ?_
  intro p e s m args below meth c s₁ Bd hml0 hP hK
  obtain ⟨rfl, hZ, hh⟩ := hP
  have hx := Bd.exec
  have hby := Bd.bytes
  have hml : c.maxLocals = 5 := hml0
  have hown : s.vm.findClass "com/example/bare_lock/barelock/AcquisitionGrantedPinLaw" = some m.cls := findClass_of_methodNamed Bd.named
  have hnm := (name_of_methodNamed Bd.named Bd.method).1
  have hlk := BodyLoose.notSynchronized Bd
  have X0 : Stand p l e room_1 s m #[(.long iq)] below meth c s₁ [] 0 0 := Stand.of_body Bd
  have e0 : s₁.heap = h0 := by rw [← hh, Bd.state]; rfl
  have N0 := Fr.nil n0
  refine Go.start (P := fun o U' => ∃ v L, o = .returned v ∧ Q_law Z iq h0 n0 v U'.heap L ∧ FrameEnd s o U' L room_1.cells room_1.slots) (ef_law m iq) ?_
  show Go p e below _ (s₁.setTop (mkF m 0 #[.val (.long iq), .second, .unset, .unset, .unset] []))
  refine Go.by (fun t k => XS.lloadN X0.here hx rfl (hb hby at_0) rfl k) ?_
  show Go p e below _ (s₁.setTop (mkF m 1 #[.val (.long iq), .second, .unset, .unset, .unset] [(.long iq)]))
  refine Go.by (fun t k => X0.ldc2Long hx hown (mvT hZ (hw _ (List.mem_of_getElem? (i := 0) rfl))) (g := (mkF m 1 #[.val (.long iq), .second, .unset, .unset, .unset] [(.long iq)])) rfl (hb hby at_1) t k) ?_
  show Go p e below _ (s₁.setTop (mkF m 4 #[.val (.long iq), .second, .unset, .unset, .unset] [(.long (9223372036854775807 : Int64)), (.long iq)]))
  refine Go.by (fun t k => XS.land X0.here hx rfl (hb hby at_4) rfl k) ?_
  show Go p e below _ (s₁.setTop (mkF m 5 #[.val (.long iq), .second, .unset, .unset, .unset] [(.long (iq &&& (9223372036854775807 : Int64)))]))
  refine Go.by (fun t k => XS.lstoreN X0.here hx rfl (hb hby at_5) rfl (l' := #[.val (.long iq), .second, .val (.long (iq &&& (9223372036854775807 : Int64))), .second, .unset]) rfl k) ?_
  show Go p e below _ (s₁.setTop (mkF m 6 #[.val (.long iq), .second, .val (.long (iq &&& (9223372036854775807 : Int64))), .second, .unset] []))
  refine Go.by (fun t k => XS.lloadN X0.here hx rfl (hb hby at_6) rfl k) ?_
  show Go p e below _ (s₁.setTop (mkF m 7 #[.val (.long iq), .second, .val (.long (iq &&& (9223372036854775807 : Int64))), .second, .unset] [(.long (iq &&& (9223372036854775807 : Int64)))]))
  refine Go.by (fun t k => XS.lconst X0.here hx rfl (hb hby at_7) k) ?_
  show Go p e below _ (s₁.setTop (mkF m 8 #[.val (.long iq), .second, .val (.long (iq &&& (9223372036854775807 : Int64))), .second, .unset] [(.long (0 : Int64)), (.long (iq &&& (9223372036854775807 : Int64)))]))
  refine Go.by (fun t k => XS.lcmp X0.here hx rfl (hb hby at_8) rfl k) ?_
  show Go p e below _ (s₁.setTop (mkF m 9 #[.val (.long iq), .second, .val (.long (iq &&& (9223372036854775807 : Int64))), .second, .unset] [(.int (lcmpW (iq &&& (9223372036854775807 : Int64)) (0 : Int64)))]))
  have J16 : ∀ (j_t : Int64) (hpos : (0 : Int64) < j_t), Go p e below (fun o U' => ∃ v L, o = .returned v ∧ Q_law Z iq h0 n0 v U'.heap L ∧ FrameEnd s o U' L room_1.cells room_1.slots) (s₁.setTop (mkF m 16 #[.val (.long iq), .second, .val (.long j_t), .second, .unset] [])) := by
    intro j_t hpos
    show Go p e below _ (s₁.setTop (mkF m 16 #[.val (.long iq), .second, .val (.long j_t), .second, .unset] []))
    refine Go.by (fun t k => XS.lloadN X0.here hx rfl (hb hby at_16) rfl k) ?_
    show Go p e below _ (s₁.setTop (mkF m 17 #[.val (.long iq), .second, .val (.long j_t), .second, .unset] [(.long j_t)]))
    obtain ⟨_, _, ⟨T1, L1, k1, n1⟩, -, X1, ⟨Lc1, hQ1, l1, y1, z1⟩, st1⟩ := Jvm.LawKit.callS X0 hx (y := (⟨"com/example/bare_lock/barelock/Acquisition", "granted", "(J)Lcom/example/bare_lock/barelock/Acquisition;"⟩ : MethodName)) hown (mvT hZ (hw _ (List.mem_of_getElem? (i := 1) rfl))) (mvT hZ (hw _ (List.mem_of_getElem? (i := 2) rfl))) (mvT hZ (hw _ (List.mem_of_getElem? (i := 3) rfl))) (mvT hZ (hw _ (List.mem_of_getElem? (i := 4) rfl))) (by decide) (backOf (W := 0) (granted l Z a0 hw [] j_t h0 n0 O0 (by first | assumption | omega | decide | simp_all : (0 : Int64) < j_t)) hZ (hw _ (List.mem_of_getElem? (i := 4) rfl)) (hw _ (List.mem_of_getElem? (i := 3) rfl)) (by decide) (by decide)) (g := (mkF m 17 #[.val (.long iq), .second, .val (.long j_t), .second, .unset] [(.long j_t)])) rfl (by rw [hml]; rfl) (argsL := [(.long j_t)]) (rest := []) (lenOf pd_2 rfl) rfl (by show 2 * 0 + _ ≤ _; exact Nat.le_of_eq rfl) (hb hby at_17) (fun _ _ => ⟨rfl, e0, (by decide : 0 + 1 ≤ _), (by decide : 0 + 2 ≤ _)⟩)
    dsimp only [Pt.U, Pt.locs, Pt.cells, Pt.slots] at X1 l1 y1 z1 st1 hQ1
    subst l1 y1 z1
    obtain ⟨ob_1, rfl, N1q, K1, fz1_ob, F1_0, F1_1, F1_2⟩ := hQ1
    have N1 := Fr.app N0 N1q
    have ge_ob_1 : n0 ≤ ob_1 := Nat.le_trans (own_old_size O0) fz1_ob
    have sz_ob_1 : h0.size ≤ ob_1 := Nat.le_trans (Keep.refl h0 []).1 fz1_ob
    refine Go.by st1 ?_
    show Go p e below _ (T1.setTop (mkF m 20 #[.val (.long iq), .second, .val (.long j_t), .second, .unset] [(.ref ob_1)]))
    refine Go.by (fun t k => XS.astore X1.here hx rfl (hb hby at_20) rfl rfl (l' := #[.val (.long iq), .second, .val (.long j_t), .second, .val (.ref ob_1)]) rfl k) ?_
    show Go p e below _ (T1.setTop (mkF m 22 #[.val (.long iq), .second, .val (.long j_t), .second, .val (.ref ob_1)] []))
    refine Go.by (fun t k => XS.aload X1.here hx rfl (hb hby at_22) rfl rfl k) ?_
    show Go p e below _ (T1.setTop (mkF m 24 #[.val (.long iq), .second, .val (.long j_t), .second, .val (.ref ob_1)] [(.ref ob_1)]))
    have F3 : Old Z n0 T1.heap := (O0.keep K1 all0)
    have F4 : Keep h0 T1.heap [] := ((Keep.refl h0 []).trans K1 all0)
    obtain ⟨cq2, kq2, q2a, q2b, q2c⟩ := isOf hZ rfl F1_0
    obtain ⟨_, _, ⟨T2, L2, k2, n2⟩, -, X2, ⟨Lc2, hQ2, l2, y2, z2⟩, st2⟩ := X1.virtualBack hx (y := (⟨"com/example/bare_lock/barelock/Acquisition", "isGranted", "()Z"⟩ : MethodName)) (z := (⟨"com/example/bare_lock/barelock/Acquisition", "isGranted", "()Z"⟩ : MethodName)) hown (mvT hZ (hw _ (List.mem_of_getElem? (i := 17) rfl))) (mvT hZ (hw _ (List.mem_of_getElem? (i := 18) rfl))) (notFace_of_selects (args := #[]) (mvT hZ (hw _ (List.mem_of_getElem? (i := 20) rfl)))) (mvT hZ (hw _ (List.mem_of_getElem? (i := 20) rfl))) (mvT hZ (hw _ (List.mem_of_getElem? (i := 19) rfl))) (by decide) (backOf (W := 0) (isGranted l Z a0 hw [] ob_1 T1.heap n0 F3 F1_2) hZ (hw _ (List.mem_of_getElem? (i := 21) rfl)) (hw _ (List.mem_of_getElem? (i := 3) rfl)) (by decide) (by decide)) q2a q2c (g := (mkF m 24 #[.val (.long iq), .second, .val (.long j_t), .second, .val (.ref ob_1)] [(.ref ob_1)])) rfl (by rw [hml]; rfl) (Steps.refl _) (argsL := []) (rest := []) (lenOf pd_1 rfl) rfl (by show 2 * 0 + _ ≤ _; exact Nat.le_of_eq rfl) (hb hby at_24) (fun _ _ => ⟨rfl, rfl, (by decide : 1 + 0 ≤ _), (by decide : 2 + 0 ≤ _)⟩)
    dsimp only [Pt.U, Pt.locs, Pt.cells, Pt.slots] at X2 l2 y2 z2 st2 hQ2
    subst l2 y2 z2
    obtain ⟨rfl, N2q, e2⟩ := hQ2
    have N2 := Fr.app N1 N2q
    refine Go.tr st2 ?_
    show Go p e below _ (T2.setTop (mkF m 27 #[.val (.long iq), .second, .val (.long j_t), .second, .val (.ref ob_1)] [(.int (1 : Int32))]))
    refine Go.by (fun t k => XS.ifYes X2.here hx rfl (pc0 := 27) (pc' := 32) rfl (hb hby at_27) rfl ((if0 _ _).trans (feq (by decide : ¬ ((1 : Int32) = (0 : Int32)))).2) (by decide) (by decide) k) ?_
    show Go p e below _ (T2.setTop (mkF m 32 #[.val (.long iq), .second, .val (.long j_t), .second, .val (.ref ob_1)] []))
    refine Go.by (fun t k => XS.aload X2.here hx rfl (hb hby at_32) rfl rfl k) ?_
    show Go p e below _ (T2.setTop (mkF m 34 #[.val (.long iq), .second, .val (.long j_t), .second, .val (.ref ob_1)] [(.ref ob_1)]))
    obtain ⟨cq5, kq5, q5a, q5b, q5c⟩ := isOf hZ e2 F1_0
    obtain ⟨_, _, ⟨T5, L5, k5, n5⟩, -, X5, ⟨Lc5, hQ5, l5, y5, z5⟩, st5⟩ := X2.virtualBack hx (y := (⟨"com/example/bare_lock/barelock/Acquisition", "token", "()J"⟩ : MethodName)) (z := (⟨"com/example/bare_lock/barelock/Acquisition", "token", "()J"⟩ : MethodName)) hown (mvT hZ (hw _ (List.mem_of_getElem? (i := 22) rfl))) (mvT hZ (hw _ (List.mem_of_getElem? (i := 23) rfl))) (notFace_of_selects (args := #[]) (mvT hZ (hw _ (List.mem_of_getElem? (i := 25) rfl)))) (mvT hZ (hw _ (List.mem_of_getElem? (i := 25) rfl))) (mvT hZ (hw _ (List.mem_of_getElem? (i := 24) rfl))) (by decide) (backOf (W := 0) (token l Z a0 hw [] ob_1 j_t T1.heap n0 F3 F1_0 F1_1 F1_2) hZ (hw _ (List.mem_of_getElem? (i := 26) rfl)) (hw _ (List.mem_of_getElem? (i := 3) rfl)) (by decide) (by decide)) q5a q5c (g := (mkF m 34 #[.val (.long iq), .second, .val (.long j_t), .second, .val (.ref ob_1)] [(.ref ob_1)])) rfl (by rw [hml]; rfl) (Steps.refl _) (argsL := []) (rest := []) (lenOf pd_3 rfl) rfl (by show 2 * 0 + _ ≤ _; exact Nat.le_of_eq rfl) (hb hby at_34) (fun _ _ => ⟨rfl, e2, (by decide : 1 + 0 ≤ _), (by decide : 2 + 0 ≤ _)⟩)
    dsimp only [Pt.U, Pt.locs, Pt.cells, Pt.slots] at X5 l5 y5 z5 st5 hQ5
    subst l5 y5 z5
    obtain ⟨rfl, N5q, e5⟩ := hQ5
    have N5 := Fr.app N2 N5q
    refine Go.tr st5 ?_
    show Go p e below _ (T5.setTop (mkF m 37 #[.val (.long iq), .second, .val (.long j_t), .second, .val (.ref ob_1)] [(.long j_t)]))
    refine Go.by (fun t k => XS.lloadN X5.here hx rfl (hb hby at_37) rfl k) ?_
    show Go p e below _ (T5.setTop (mkF m 38 #[.val (.long iq), .second, .val (.long j_t), .second, .val (.ref ob_1)] [(.long j_t), (.long j_t)]))
    refine Go.by (fun t k => XS.lcmp X5.here hx rfl (hb hby at_38) rfl k) ?_
    show Go p e below _ (T5.setTop (mkF m 39 #[.val (.long iq), .second, .val (.long j_t), .second, .val (.ref ob_1)] [(.int (lcmpW j_t j_t))]))
    refine Go.by (fun t k => XS.ifNo X5.here hx rfl (hb hby at_39) rfl ((if0 _ _).trans (teq ((lw_eq j_t j_t).mpr rfl)).2) k) ?_
    show Go p e below _ (T5.setTop (mkF m 42 #[.val (.long iq), .second, .val (.long j_t), .second, .val (.ref ob_1)] []))
    refine Go.by (fun t k => XS.iconst X5.here hx rfl (hb hby at_42) k) ?_
    show Go p e below _ (T5.setTop (mkF m 43 #[.val (.long iq), .second, .val (.long j_t), .second, .val (.ref ob_1)] [(.int (1 : Int32))]))
    refine Go.by (fun t k => XS.goto X5.here hx rfl (pc0 := 43) (pc' := 47) rfl (hb hby at_43) (by decide) (by decide) k) ?_
    show Go p e below _ (T5.setTop (mkF m 47 #[.val (.long iq), .second, .val (.long j_t), .second, .val (.ref ob_1)] [(.int (1 : Int32))]))
    have hq : Q_law Z iq h0 n0 (some (.int (nar .boolean (1 : Int32)))) T1.heap _ := ⟨rfl, N5, F4⟩
    exact Go.retN X5 hx (t := .boolean) Bd.returns (by simp) hlk (hb hby at_47) (by decide) (by decide) (by rw [e5]; exact hq)
  by_cases hc6 : (iq &&& (9223372036854775807 : Int64)) = (0 : Int64)
  · skip
    refine Go.by (fun t k => XS.ifNo X0.here hx rfl (hb hby at_9) rfl ((if0 _ _).trans (teq ((lw_eq (iq &&& (9223372036854775807 : Int64)) (0 : Int64)).mpr hc6)).2) k) ?_
    show Go p e below _ (s₁.setTop (mkF m 12 #[.val (.long iq), .second, .val (.long (iq &&& (9223372036854775807 : Int64))), .second, .unset] []))
    refine Go.by (fun t k => X0.ldc2Long hx hown (mvT hZ (hw _ (List.mem_of_getElem? (i := 0) rfl))) (g := (mkF m 12 #[.val (.long iq), .second, .val (.long (iq &&& (9223372036854775807 : Int64))), .second, .unset] [])) rfl (hb hby at_12) t k) ?_
    show Go p e below _ (s₁.setTop (mkF m 15 #[.val (.long iq), .second, .val (.long (iq &&& (9223372036854775807 : Int64))), .second, .unset] [(.long (9223372036854775807 : Int64))]))
    refine Go.by (fun t k => XS.lstoreN X0.here hx rfl (hb hby at_15) rfl (l' := #[.val (.long iq), .second, .val (.long (9223372036854775807 : Int64)), .second, .unset]) rfl k) ?_
    show Go p e below _ (s₁.setTop (mkF m 16 #[.val (.long iq), .second, .val (.long (9223372036854775807 : Int64)), .second, .unset] []))
    exact J16 _ (by first | decide | exact own_pos _ (by assumption))
  · skip
    refine Go.by (fun t k => XS.ifYes X0.here hx rfl (pc0 := 9) (pc' := 16) rfl (hb hby at_9) rfl ((if0 _ _).trans (feq (fun q => hc6 ((lw_eq (iq &&& (9223372036854775807 : Int64)) (0 : Int64)).mp q))).2) (by decide) (by decide) k) ?_
    show Go p e below _ (s₁.setTop (mkF m 16 #[.val (.long iq), .second, .val (.long (iq &&& (9223372036854775807 : Int64))), .second, .unset] []))
    exact J16 _ (by first | decide | exact own_pos _ (by assumption))
set_option maxRecDepth 65536 in
set_option maxHeartbeats 40000000 in
theorem comes_1 {Post : Tables → Env → Array Value → State → Outcome → State → Prop} (hpost : ∀ tb e args s v u, (limb_1_1.after args s (.returned v) u = true ∧ limb_1_2.after args s (.returned v) u = true ∧ True) → FrameEnd s (.returned v) u (Jvm.fieldLocs frame_1_writes args s ++ Jvm.arrayLocs frame_1_arrays args s ++ Jvm.staticLocs frame_1_statics s) 16 128 → Post tb e args s (.returned v) u) :
    ArmFor flags0 classFile x code maxLocals ret World_1 tables_1 room_1 Calls_1 rest_1 Pre_1 Post := by
  intro l hfl _ _ p e ha hc hk s m args below hf hA hF happ hP
  obtain ⟨hcalls, hrest, hpre⟩ := hP
  obtain ⟨-, -, -, hnamed, -, -, -, hat⟩ := (Spec.applies_iff hf).mp happ
  obtain ⟨hg, hn⟩ := and_e (Cond.before_iff.mp (show (Jvm.Cond.and given_1 narrow_1).before args s = true from hpre))
  obtain ⟨hcnt, hv0⟩ := and_e hg
  obtain ⟨w0, rfl⟩ : ∃ w0 : Value, args = #[w0] := by
    have hs : args.size = 1 := by simpa [Cond.value, given_1] using hcnt
    obtain ⟨L⟩ := args
    match L, hs with
    | [w0], _ => exact ⟨w0, rfl⟩
  have hw := fun d (hd : d ∈ tables_1) => atoms_spec (ws := Jvm.Cond.code x code maxLocals ret :: tables_1) hat d (List.mem_cons_of_mem _ hd)
  have hfit : Fit s := fun {y c} hc i hi => by
    obtain ⟨ha, rfl⟩ := Array.getElem?_eq_some_iff.mp hc
    have q := List.all_eq_true.mp ((Array.all_eq_true_iff_forall_mem.mp hF) _ (Array.getElem_mem ha)) i (List.mem_range.mpr hi)
    simpa [Array.getElem?_eq_getElem hi] using q
  obtain ⟨i0, ei0⟩ := isL_v hv0
  obtain rfl : w0 = (.long i0) := Option.some.inj ei0
  obtain ⟨n, o, h1, h2, h3, _, L, rfl, ⟨rfl, N, -⟩, hq⟩ := law l s _ hw tables_1 i0  s.heap s.heap.size (Old.start s)  p e ha hc hk s m _ below hf ((Spec.applies_iff_loose hf).mp happ).1 ⟨rfl, State.Warmed39.refl s, rfl⟩ trivial
  refine ⟨n, _, h1, h2, h3, hpost _ _ _ _ _ _ ⟨Cond.after_iff.mpr rfl, Cond.after_iff.mpr (eq_i res_at (Term.int_eval (1)) rfl), trivial⟩ ⟨hq.1, hq.2.1, (hq.2.2.sift fun y hy => Or.inr (N y hy)).mono (by decide) (by decide)⟩⟩
theorem main_1_1 : Claimed_1_1 := comes_1 fun _ _ _ _ _ _ h hF => ⟨h.1, hF⟩
theorem main_1_2 : Claimed_1_2 := comes_1 fun _ _ _ _ _ _ h hF => ⟨h.2.1, hF⟩
end Jvm.Pilot.@@N@@
namespace Jvm.Pilot.@@N@@
open Jvm Jvm.ClassFile Sem Op Lib Jvm.Free Jvm.Stand Jvm.Pilot.@@N@@.Jvm.D
/-! MADE BY PROGRAM (witnessworld.py) out of the Statement's table words and the real class files: 9 classes; the members and pool entries that the words name. The judged class is class 1, her method 1. -/
namespace start1
open Jvm.ClassFile
def u (s : String) : CpInfo := .utf8 (stringToUtf16 s)
/-- a pool by its gaps: so many unusable entries, then the entry; so many at the end -/
def gap : Nat → List CpInfo → List CpInfo
  | 0, r => r
  | n + 1, r => .unusable :: gap n r
def poolList (es : List (Nat × CpInfo)) (last : Nat) : List CpInfo := es.foldr (fun e r => gap e.1 (e.2 :: r)) (gap last [])
def pool (es : List (Nat × CpInfo)) (last : Nat) : Array CpInfo := ⟨poolList es last⟩
def fileOf (pool : Array CpInfo) (this : Nat) (attrs : Array Attribute := #[]) (ms : Array MethodInfo := #[]) (fl : Nat := 33) (sup : Nat := 0) (ifs : Array Nat := #[]) (fds : Array FieldInfo := #[]) : ClassFile where
  minorVersion := 0
  majorVersion := 65
  constantPool := pool
  accessFlags := fl
  thisClass := this
  superClass := sup
  interfaces := ifs
  fields := fds
  methods := ms
  attributes := attrs
def plain (name : String) (sup : Option ClassId) : Class where
  name := name
  kind := .ordinary
  loader := none
  accessFlags := 33
  super := sup
  interfaces := #[]
  cf := none
  fields := #[]
  methods := #[]
  instanceTypes := #[]
  staticTypes := #[]
  resolved := #[]
  callSites := []
  init := .initialized
  statics := none
  mirror := none

def pool0 : Array CpInfo := pool [(5, u "<init>"), (0, u "()V"), (1, .class_ 10), (1, u "java/lang/Object")] 113

def k0c0 : Code := { maxStack := 0, maxLocals := 1, code := object_method_1_code, exceptionTable := #[], attributes := #[] }
def k0m0 : Method := { name := "<init>", desc := "()V", sig := { parameters := [], returnType := none }, accessFlags := 1, code := some k0c0 }
/-- java/lang/Object -/
def k0 : Class := { plain "java/lang/Object" none with
  accessFlags := 33
  interfaces := #[]
  cf := some (fileOf pool0 8 #[] #[{ accessFlags := 1, nameIndex := 5, descriptorIndex := 6, attributes := #[] }] 33 0 #[] #[])
  fields := #[]
  methods := #[k0m0]
  instanceTypes := #[]
  staticTypes := #[]
  resolved := Array.replicate 124 none
  statics := none }

def pool1 : Array CpInfo := pool [(2, .class_ 4), (1, u "java/lang/Object"), (0, u "<init>"), (0, u "()V"), (2, .long 9223372036854775807), (1, .methodref 12 13), (0, .class_ 14), (0, .nameAndType 15 16), (0, u "com/example/bare_lock/barelock/Acquisition"), (0, u "granted"), (0, u "(J)Lcom/example/bare_lock/barelock/Acquisition;"), (0, .methodref 12 18), (0, .nameAndType 19 20), (0, u "isGranted"), (0, u "()Z"), (0, .methodref 12 22), (0, .nameAndType 23 24), (0, u "token"), (0, u "()J"), (0, .class_ 26), (0, u "com/example/bare_lock/barelock/AcquisitionGrantedPinLaw"), (2, u "law"), (0, u "(J)Z")] 3

def k1m0 : Method := { name := "<init>", desc := "()V", sig := { parameters := [], returnType := none }, accessFlags := 1, code := none }
def k1c1 : Code := { maxStack := 4, maxLocals := 5, code := code, exceptionTable := #[], attributes := #[] }
def k1m1 : Method := { name := "law", desc := "(J)Z", sig := { parameters := [.long], returnType := some .boolean }, accessFlags := 9, code := some k1c1 }
/-- com/example/bare_lock/barelock/AcquisitionGrantedPinLaw -/
def k1 : Class := { plain "com/example/bare_lock/barelock/AcquisitionGrantedPinLaw" (some 0) with
  accessFlags := 49
  interfaces := #[]
  cf := some (fileOf pool1 25 #[] #[{ accessFlags := 1, nameIndex := 5, descriptorIndex := 6, attributes := #[] }, { accessFlags := 9, nameIndex := 29, descriptorIndex := 30, attributes := #[] }] 49 2 #[] #[])
  fields := #[]
  methods := #[k1m0, k1m1]
  instanceTypes := #[]
  staticTypes := #[]
  resolved := Array.replicate 34 none
  statics := none }

def pool2 : Array CpInfo := pool [(1, .methodref 2 3), (0, .class_ 4), (0, .nameAndType 5 6), (0, u "java/lang/Object"), (0, u "<init>"), (0, u "()V"), (0, .fieldref 8 9), (0, .class_ 10), (0, .nameAndType 11 12), (0, u "com/example/bare_lock/barelock/Acquisition"), (0, u "token"), (0, u "J"), (0, .fieldref 8 14), (0, .nameAndType 15 16), (0, u "leaseLeft"), (0, u "Ljava/time/Duration;"), (9, .methodref 8 27), (0, .nameAndType 5 28), (0, u "(JLjava/time/Duration;)V"), (12, u "()Z"), (9, .methodref 8 52), (0, .nameAndType 53 41), (0, u "isGranted"), (11, u "granted"), (0, u "(J)Lcom/example/bare_lock/barelock/Acquisition;"), (3, u "()J")] 26

def k2c0 : Code := { maxStack := 3, maxLocals := 4, code := prog_1_method_1_code, exceptionTable := #[], attributes := #[] }
def k2m0 : Method := { name := "<init>", desc := "(JLjava/time/Duration;)V", sig := { parameters := [.long, (.object "java/time/Duration")], returnType := none }, accessFlags := 2, code := some k2c0 }
def k2c1 : Code := { maxStack := 5, maxLocals := 2, code := prog_1_method_2_code, exceptionTable := #[], attributes := #[] }
def k2m1 : Method := { name := "granted", desc := "(J)Lcom/example/bare_lock/barelock/Acquisition;", sig := { parameters := [.long], returnType := some (.object "com/example/bare_lock/barelock/Acquisition") }, accessFlags := 9, code := some k2c1 }
def k2c2 : Code := { maxStack := 1, maxLocals := 1, code := prog_1_method_4_code, exceptionTable := #[], attributes := #[] }
def k2m2 : Method := { name := "isGranted", desc := "()Z", sig := { parameters := [], returnType := some .boolean }, accessFlags := 1, code := some k2c2 }
def k2c3 : Code := { maxStack := 3, maxLocals := 1, code := prog_1_method_5_code, exceptionTable := #[], attributes := #[] }
def k2m3 : Method := { name := "token", desc := "()J", sig := { parameters := [], returnType := some .long }, accessFlags := 1, code := some k2c3 }
/-- com/example/bare_lock/barelock/Acquisition -/
def k2 : Class := { plain "com/example/bare_lock/barelock/Acquisition" (some 0) with
  accessFlags := 33
  interfaces := #[]
  cf := some (fileOf pool2 8 #[] #[{ accessFlags := 2, nameIndex := 5, descriptorIndex := 28, attributes := #[] }, { accessFlags := 9, nameIndex := 65, descriptorIndex := 66, attributes := #[] }, { accessFlags := 1, nameIndex := 53, descriptorIndex := 41, attributes := #[] }, { accessFlags := 1, nameIndex := 11, descriptorIndex := 70, attributes := #[] }] 33 2 #[] #[{ accessFlags := 18, nameIndex := 11, descriptorIndex := 12, attributes := #[] }, { accessFlags := 18, nameIndex := 15, descriptorIndex := 16, attributes := #[] }])
  fields := #[{ name := "token", type := .long, accessFlags := 18, slot := 0, constantValue := 0 }, { name := "leaseLeft", type := (.object "java/time/Duration"), accessFlags := 18, slot := 1, constantValue := 0 }]
  methods := #[k2m0, k2m1, k2m2, k2m3]
  instanceTypes := #[.long, (.object "java/time/Duration")]
  staticTypes := #[]
  resolved := Array.replicate 97 none
  statics := none }

def pool3 : Array CpInfo := pool [(1, u "java/lang/Cloneable"), (0, .class_ 1), (0, u "java/lang/Object"), (0, .class_ 3)] 3

/-- java/lang/Cloneable -/
def k3 : Class := { plain "java/lang/Cloneable" (some 0) with
  accessFlags := 1537
  interfaces := #[]
  cf := some (fileOf pool3 2 #[] #[] 1537 4 #[] #[])
  fields := #[]
  methods := #[]
  instanceTypes := #[]
  staticTypes := #[]
  resolved := Array.replicate 8 none
  statics := none }

def pool4 : Array CpInfo := pool [(1, u "java/io/Serializable"), (0, .class_ 1), (0, u "java/lang/Object"), (0, .class_ 3)] 3

/-- java/io/Serializable -/
def k4 : Class := { plain "java/io/Serializable" (some 0) with
  accessFlags := 1537
  interfaces := #[]
  cf := some (fileOf pool4 2 #[] #[] 1537 4 #[] #[])
  fields := #[]
  methods := #[]
  instanceTypes := #[]
  staticTypes := #[]
  resolved := Array.replicate 8 none
  statics := none }

/-- the primitive byte -/
def k5 : Class := { plain "byte" none with kind := .primitive 'B', accessFlags := 0x411 }
/-- [B -/
def k6 : Class := { plain "[B" (some 0) with kind := .array 5 .byte, interfaces := #[3, 4], accessFlags := 1041 }

/-- the primitive int -/
def k7 : Class := { plain "int" none with kind := .primitive 'I', accessFlags := 0x411 }
/-- [I -/
def k8 : Class := { plain "[I" (some 0) with kind := .array 7 .int, interfaces := #[3, 4], accessFlags := 1041 }

def heap : Heap := #[]
def classes : Array Class := #[k0, k1, k2, k3, k4, k5, k6, k7, k8]
def interned : List (Array UInt16 × Addr) := []
def slotsUsed : Nat := 0
def theMethod : MethodId := ⟨1, 1⟩
def args0 : Array Value := #[.long 5]
def aboutOver (below : List Frame) : State where
  vm := { classes := classes, interned := interned.toArray }
  heap := heap
  slotsUsed := slotsUsed
  threads := #[{ frames := .invoking theMethod args0 :: below }]
def below0 : List Frame := [.native { method := ⟨0, 0⟩, args := #[] }]
def about1 : State := aboutOver below0
def p0 : Program := .bare "" "" ""
def e0 : Env := launch0.env 0 0 0
theorem w_frames : about1.frames = Frame.invoking theMethod args0 :: below0 := rfl
set_option maxRecDepth 65536 in
theorem w_args : argsFit about1.vm theMethod args0 = true := by decide +kernel
set_option maxRecDepth 65536 in
theorem w_heap : heapFits about1 = true := by decide +kernel
set_option maxRecDepth 65536 in
theorem w_runnable : about1.curStatus? = some .runnable := by decide +kernel
set_option maxRecDepth 65536 in
theorem w_alone : about1.alone = true := by decide +kernel
set_option maxRecDepth 65536 in
theorem w_named : about1.methodNamed? x = some theMethod := by decide +kernel
set_option maxRecDepth 65536 in
theorem w_hears : about1.hears theMethod below0 = true := by decide +kernel
set_option maxRecDepth 65536 in
theorem w_ripe : about1.ripe theMethod args0 below0 = true := by decide +kernel
theorem w_running : about1.status = .running := rfl
set_option maxRecDepth 65536 in
theorem w_room : about1.hasRoom e0.platform room_1 = true :=
  launch0.hasRoom_least _ room_1 (by decide +kernel) (by decide +kernel) (by decide +kernel) (by decide +kernel) (by decide +kernel) (by decide +kernel)
theorem allAtoms_all (ts : List Jvm.Cond) (a : Array Jvm.Value) (st : Jvm.State) : (allAtoms ts).before a st = ts.all (fun c => c.before a st) := by
  induction ts with
  | nil => rfl
  | cons c t ih =>
    show (Jvm.Cond.and c (allAtoms t)).before a st = _
    rw [Jvm.Cond.before_and, ih, List.all_cons]
def words1 : List Jvm.Cond := Jvm.Cond.code x code maxLocals ret :: tables_1
/-- a 'code' word, met by the world's own term for the bytes: nothing is compared byte by byte -/
theorem code_word {y : MethodName} {bytes : ByteArray} {mx : Nat} {rt : Option FieldType} {a : Array Value} {s : State} {m : MethodId} {meth : Method} {c : Code} (h1 : s.methodNamed? y = some m) (h2 : s.vm.method? m = some meth) (h3 : meth.code = some c) (h4 : c.code = bytes)
    (h5 : (c.maxLocals == mx && c.exceptionTable.isEmpty && decide (c.maxStack ≤ mostOperands) && decide (meth.sig.returnType = rt) && !meth.locks && decide (parseMethodDescriptor y.desc = some meth.sig)) = true) : (Jvm.Cond.code y bytes mx rt).before a s = true := by
  simp only [Bool.and_eq_true, beq_iff_eq, Bool.not_eq_true', decide_eq_true_eq] at h5
  obtain ⟨⟨⟨⟨⟨g1, g2⟩, g3⟩, g4⟩, g5⟩, g6⟩ := h5
  simp [Cond.before, Cond.holds, Cond.value, h1, h2, h3, h4, g1, g2, g3, g4, g5, g6]
def isCode : Jvm.Cond → Bool
  | .code _ _ _ _ => true
  | _ => false
theorem all_split {L : List Jvm.Cond} {P : Jvm.Cond → Bool} (h1 : L.all (fun c => isCode c || P c) = true) (h2 : ∀ c ∈ L.filter isCode, P c = true) : L.all P = true := by
  refine List.all_eq_true.mpr fun c hc => ?_
  have h := List.all_eq_true.mp h1 c hc
  rcases Bool.eq_false_or_eq_true (isCode c) with hi | hi
  · exact h2 c (List.mem_filter.mpr ⟨hc, hi⟩)
  · simpa [hi] using h
set_option maxRecDepth 65536 in
theorem w_c0 : (Jvm.Cond.code x code maxLocals ret).before args0 about1 = true := code_word (m := ⟨1, 1⟩) (meth := k1m1) (c := k1c1) (by decide +kernel) rfl rfl rfl (by decide +kernel)
set_option maxRecDepth 65536 in
theorem w_c1 : (Jvm.Cond.code ({ cls := "com/example/bare_lock/barelock/Acquisition", name := "granted", desc := "(J)Lcom/example/bare_lock/barelock/Acquisition;" } : Jvm.MethodName) prog_1_method_2_code (2 : Nat) (Option.some (Jvm.ClassFile.FieldType.object "com/example/bare_lock/barelock/Acquisition"))).before args0 about1 = true := code_word (m := ⟨2, 1⟩) (meth := k2m1) (c := k2c1) (by decide +kernel) rfl rfl rfl (by decide +kernel)
set_option maxRecDepth 65536 in
theorem w_c2 : (Jvm.Cond.code ({ cls := "com/example/bare_lock/barelock/Acquisition", name := "<init>", desc := "(JLjava/time/Duration;)V" } : Jvm.MethodName) prog_1_method_1_code (4 : Nat) (Option.none : Option Jvm.ClassFile.FieldType)).before args0 about1 = true := code_word (m := ⟨2, 0⟩) (meth := k2m0) (c := k2c0) (by decide +kernel) rfl rfl rfl (by decide +kernel)
set_option maxRecDepth 65536 in
theorem w_c3 : (Jvm.Cond.code ({ cls := "java/lang/Object", name := "<init>", desc := "()V" } : Jvm.MethodName) object_method_1_code (1 : Nat) (Option.none : Option Jvm.ClassFile.FieldType)).before args0 about1 = true := code_word (m := ⟨0, 0⟩) (meth := k0m0) (c := k0c0) (by decide +kernel) rfl rfl rfl (by decide +kernel)
set_option maxRecDepth 65536 in
theorem w_c4 : (Jvm.Cond.code ({ cls := "com/example/bare_lock/barelock/Acquisition", name := "isGranted", desc := "()Z" } : Jvm.MethodName) prog_1_method_4_code (1 : Nat) (Option.some Jvm.ClassFile.FieldType.boolean)).before args0 about1 = true := code_word (m := ⟨2, 2⟩) (meth := k2m2) (c := k2c2) (by decide +kernel) rfl rfl rfl (by decide +kernel)
set_option maxRecDepth 65536 in
theorem w_c5 : (Jvm.Cond.code ({ cls := "com/example/bare_lock/barelock/Acquisition", name := "token", desc := "()J" } : Jvm.MethodName) prog_1_method_5_code (1 : Nat) (Option.some Jvm.ClassFile.FieldType.long)).before args0 about1 = true := code_word (m := ⟨2, 3⟩) (meth := k2m3) (c := k2c3) (by decide +kernel) rfl rfl rfl (by decide +kernel)
def codes1 : List Jvm.Cond := [Jvm.Cond.code x code maxLocals ret, Jvm.Cond.code ({ cls := "com/example/bare_lock/barelock/Acquisition", name := "granted", desc := "(J)Lcom/example/bare_lock/barelock/Acquisition;" } : Jvm.MethodName) prog_1_method_2_code (2 : Nat) (Option.some (Jvm.ClassFile.FieldType.object "com/example/bare_lock/barelock/Acquisition")), Jvm.Cond.code ({ cls := "com/example/bare_lock/barelock/Acquisition", name := "<init>", desc := "(JLjava/time/Duration;)V" } : Jvm.MethodName) prog_1_method_1_code (4 : Nat) (Option.none : Option Jvm.ClassFile.FieldType), Jvm.Cond.code ({ cls := "java/lang/Object", name := "<init>", desc := "()V" } : Jvm.MethodName) object_method_1_code (1 : Nat) (Option.none : Option Jvm.ClassFile.FieldType), Jvm.Cond.code ({ cls := "com/example/bare_lock/barelock/Acquisition", name := "isGranted", desc := "()Z" } : Jvm.MethodName) prog_1_method_4_code (1 : Nat) (Option.some Jvm.ClassFile.FieldType.boolean), Jvm.Cond.code ({ cls := "com/example/bare_lock/barelock/Acquisition", name := "token", desc := "()J" } : Jvm.MethodName) prog_1_method_5_code (1 : Nat) (Option.some Jvm.ClassFile.FieldType.long)]
set_option maxRecDepth 65536 in
theorem codes_eq : words1.filter isCode = codes1 := rfl
theorem w_codes : ∀ c ∈ words1.filter isCode, c.before args0 about1 = true := by
  rw [codes_eq]
  intro c hc
  simp only [codes1, List.mem_cons, List.not_mem_nil, or_false] at hc
  rcases hc with rfl | rfl | rfl | rfl | rfl | rfl
  · exact w_c0
  · exact w_c1
  · exact w_c2
  · exact w_c3
  · exact w_c4
  · exact w_c5
set_option maxRecDepth 65536 in
theorem w_t1 : (words1.take 24).all (fun c => isCode c || c.before args0 about1) = true := by decide +kernel
set_option maxRecDepth 65536 in
theorem w_t2 : (words1.drop 24).all (fun c => isCode c || c.before args0 about1) = true := by decide +kernel
theorem w_tables : (allAtoms (Jvm.Cond.code x code maxLocals ret :: tables_1)).before args0 about1 = true := by
  rw [allAtoms_all]
  show words1.all (fun c => c.before args0 about1) = true
  refine all_split ?_ w_codes
  rw [← List.take_append_drop 24 words1, List.all_append, w_t1, w_t2]
  rfl
set_option maxRecDepth 65536 in
theorem w_case : (Jvm.Cond.and given_1 narrow_1).before args0 about1 = true := by decide +kernel
theorem w_applies : (headSpec (Jvm.Cond.code x code maxLocals ret :: tables_1) room_1).applies x e0.platform about1 = true :=
  (Spec.applies_iff w_frames).mpr ⟨w_running, w_runnable, w_alone, w_named, w_hears, w_ripe, w_room, w_tables⟩
theorem atStart : AtStart classFile x code maxLocals ret World_1 tables_1 room_1 Calls_1 rest_1 Pre_1 launch0 p0 e0 about1 theMethod args0 below0 :=
  ⟨lists_1, trivial, launch0.admits_env _ _ _, launch0.least_env, fairChoices_fair.cas, fairChoices_fair.clock, w_frames, w_args, w_heap, w_applies, trivial, trivial, w_case⟩
end start1
theorem witness_1 : WitnessClaimed_1 := ⟨start1.p0, start1.e0, start1.about1, start1.theMethod, start1.args0, start1.below0, start1.atStart⟩
end Jvm.Pilot.@@N@@
