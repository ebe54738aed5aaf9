import JvmDerived
import JvmDerived.Pilot.@@N@@Statement
import JvmDerived.Pilot.@@N@@Code
set_option linter.unusedVariables false
set_option linter.unusedSimpArgs false
namespace Jvm.RoadKit
open Sem ClassFile Op Lib Jvm.Stand Jvm.Free Jvm.LawKit
section New
variable {p : Program} {l : Launch} {e : Env} {R : Room} {s : State} {m : MethodId} {args : Array Value} {below : List Frame} {meth : Method} {c : Code} {T : State} {locs : List Loc} {cells slots : Nat}
theorem retI (X : Stand p l e R s m args below meth c T locs cells slots) (hx : p.tables.exec = Jvm.exec) {pc : Nat} {Ls : Array Slot} {z : Int32} {rest : List Value} (hret : meth.sig.returnType = some .int) (hd : decode c.code pc = .ok (.ireturn, 1)) {fs : List Frame}
    (hl : ∀ (f : JFrame) (acts : List Action), f.method = m → f.locked = none → f.entered = [] → (doReturn e (T.setTop f) acts (some (.int z))).1 = T.setFrames fs) : Steps p.tables e below (T.setTop (mkF m pc Ls (.int z :: rest))) (T.setFrames fs) := by
  have hm' : T.vm.method? m = some meth := X.method'
  have hn : narrow .int (.int z) = .int z := rfl
  show Steps p.tables e below (T.setTop { method := m, pc := pc, locals := Ls, stack := _ :: rest, locked := none }) _
  jvm_step X.here [X.here.top, hx, hd, hm', hret, hn]
  first | (intro acts; rw [hl _ acts rfl rfl rfl]) | rw [hl _ _ rfl rfl rfl]
  exact Steps.refl _
theorem own_retL (X : Stand p l e R s m args below meth c T locs cells slots) (hx : p.tables.exec = Jvm.exec) {pc : Nat} {Ls : Array Slot} {z : Int64} {rest : List Value} (hret : meth.sig.returnType = some .long) (hd : decode c.code pc = .ok (.lreturn, 1)) {fs : List Frame}
    (hl : ∀ (f : JFrame) (acts : List Action), f.method = m → f.locked = none → f.entered = [] → (doReturn e (T.setTop f) acts (some (.long z))).1 = T.setFrames fs) : Steps p.tables e below (T.setTop (mkF m pc Ls (.long z :: rest))) (T.setFrames fs) := by
  have hm' : T.vm.method? m = some meth := X.method'
  show Steps p.tables e below (T.setTop { method := m, pc := pc, locals := Ls, stack := _ :: rest, locked := none }) _
  jvm_step X.here [X.here.top, hx, hd, hm', hret, narrow]
  first | (intro acts; rw [hl _ acts rfl rfl rfl]) | rw [hl _ _ rfl rfl rfl]
  exact Steps.refl _
theorem own_retA (X : Stand p l e R s m args below meth c T locs cells slots) (hx : p.tables.exec = Jvm.exec) {pc : Nat} {Ls : Array Slot} {v : Value} {t : FieldType} {rest : List Value} (hret : meth.sig.returnType = some t) (ht : t.isReference = true) (hv : v.isRef = true) (hd : decode c.code pc = .ok (.areturn, 1)) {fs : List Frame}
    (hl : ∀ (f : JFrame) (acts : List Action), f.method = m → f.locked = none → f.entered = [] → (doReturn e (T.setTop f) acts (some v)).1 = T.setFrames fs) : Steps p.tables e below (T.setTop (mkF m pc Ls (v :: rest))) (T.setFrames fs) := by
  have hm' : T.vm.method? m = some meth := X.method'
  show Steps p.tables e below (T.setTop { method := m, pc := pc, locals := Ls, stack := v :: rest, locked := none }) _
  rcases ref_cases hv with rfl | ⟨a, rfl⟩
  all_goals
    jvm_step X.here [X.here.top, hx, hd, hm', hret, ht, Value.isRef]
    first | (intro acts; rw [hl _ acts rfl rfl rfl]) | rw [hl _ _ rfl rfl rfl]
    exact Steps.refl _
def Go (p : Program) (e : Env) (below : List Frame) (P : Outcome → State → Prop) (S : State) : Prop := ∃ s₂ o, Steps p.tables e below S s₂ ∧ s₂.status = .running ∧ Ended s₂ below o ∧ P o s₂
variable {P : Outcome → State → Prop}
theorem Go.by {A B : State} (st : ∀ t, Steps p.tables e below B t → Steps p.tables e below A t) (g : Go p e below P B) : Go p e below P A := by
  obtain ⟨u, o, h1, h2⟩ := g; exact ⟨u, o, st _ h1, h2⟩
theorem Go.tr {A B : State} (st : Steps p.tables e below A B) (g : Go p e below P B) : Go p e below P A := by
  obtain ⟨u, o, h1, h2⟩ := g; exact ⟨u, o, st.trans h1, h2⟩
theorem Go.start {f g : JFrame} (q : f = g) (h : Go p e below P (T.setTop g)) : ∃ s₂ o, Steps p.tables e below (T.setTop f) s₂ ∧ s₂.status = .running ∧ Ended s₂ below o ∧ P o s₂ := q ▸ h
variable {Q : Option Value → Heap → List Loc → Prop} {rc rs : Nat}
theorem Go.retI (X : Stand p l e R s m args below meth c T locs cells slots) (hx : p.tables.exec = Jvm.exec) {pc : Nat} {Ls : Array Slot} {z : Int32} {rest : List Value} (hret : meth.sig.returnType = some .int) (hlk : meth.locks = false) (hd : decode c.code pc = .ok (.ireturn, 1)) (hc : cells ≤ rc) (hs : slots ≤ rs) (hq : Q (some (.int z)) T.heap locs) :
    Go p e below (fun o U' => ∃ v L, o = .returned v ∧ Q v U'.heap L ∧ FrameEnd s o U' L rc rs) (T.setTop (mkF m pc Ls (.int z :: rest))) := by
  obtain ⟨fs, hr, hrun, hended, hW, hsame⟩ := X.leave (v := some (.int z)) (fun h => by rw [hret] at h; cases h) hlk
  exact ⟨_, _, RoadKit.retI X hx hret hd hr, hrun, hended, _, _, rfl, hq, ⟨_, rfl⟩, hW, hsame.mono hc hs⟩
theorem Go.retN (X : Stand p l e R s m args below meth c T locs cells slots) (hx : p.tables.exec = Jvm.exec) {pc : Nat} {Ls : Array Slot} {z : Int32} {t : FieldType} {rest : List Value} (hret : meth.sig.returnType = some t) (ht : t = .boolean ∨ t = .byte ∨ t = .char ∨ t = .short) (hlk : meth.locks = false) (hd : decode c.code pc = .ok (.ireturn, 1)) (hc : cells ≤ rc) (hs : slots ≤ rs) (hq : Q (some (.int (nar t z))) T.heap locs) :
    Go p e below (fun o U' => ∃ v L, o = .returned v ∧ Q v U'.heap L ∧ FrameEnd s o U' L rc rs) (T.setTop (mkF m pc Ls (.int z :: rest))) := by
  obtain ⟨fs, hr, hrun, hended, hW, hsame⟩ := X.leave (v := some (.int (nar t z))) (fun h => by rw [hret] at h; cases h) hlk
  exact ⟨_, _, RoadKit.retN X hx hret ht hd hr, hrun, hended, _, _, rfl, hq, ⟨_, rfl⟩, hW, hsame.mono hc hs⟩
theorem Go.retL (X : Stand p l e R s m args below meth c T locs cells slots) (hx : p.tables.exec = Jvm.exec) {pc : Nat} {Ls : Array Slot} {z : Int64} {rest : List Value} (hret : meth.sig.returnType = some .long) (hlk : meth.locks = false) (hd : decode c.code pc = .ok (.lreturn, 1)) (hc : cells ≤ rc) (hs : slots ≤ rs) (hq : Q (some (.long z)) T.heap locs) :
    Go p e below (fun o U' => ∃ v L, o = .returned v ∧ Q v U'.heap L ∧ FrameEnd s o U' L rc rs) (T.setTop (mkF m pc Ls (.long z :: rest))) := by
  obtain ⟨fs, hr, hrun, hended, hW, hsame⟩ := X.leave (v := some (.long z)) (fun h => by rw [hret] at h; cases h) hlk
  exact ⟨_, _, own_retL X hx hret hd hr, hrun, hended, _, _, rfl, hq, ⟨_, rfl⟩, hW, hsame.mono hc hs⟩
theorem Go.retA (X : Stand p l e R s m args below meth c T locs cells slots) (hx : p.tables.exec = Jvm.exec) {pc : Nat} {Ls : Array Slot} {v : Value} {t : FieldType} {rest : List Value} (hret : meth.sig.returnType = some t) (ht : t.isReference = true) (hv : v.isRef = true) (hlk : meth.locks = false) (hd : decode c.code pc = .ok (.areturn, 1)) (hc : cells ≤ rc) (hs : slots ≤ rs) (hq : Q (some v) T.heap locs) :
    Go p e below (fun o U' => ∃ v L, o = .returned v ∧ Q v U'.heap L ∧ FrameEnd s o U' L rc rs) (T.setTop (mkF m pc Ls (v :: rest))) := by
  obtain ⟨fs, hr, hrun, hended, hW, hsame⟩ := X.leave (v := some v) (fun h => by rw [hret] at h; cases h) hlk
  exact ⟨_, _, own_retA X hx hret ht hv hd hr, hrun, hended, _, _, rfl, hq, ⟨_, rfl⟩, hW, hsame.mono hc hs⟩
theorem Go.ret0 (X : Stand p l e R s m args below meth c T locs cells slots) (hx : p.tables.exec = Jvm.exec) {pc : Nat} {Ls : Array Slot} (hret : meth.sig.returnType = none) (hlk : meth.locks = false) (hd : decode c.code pc = .ok (.return_, 1)) (hc : cells ≤ rc) (hs : slots ≤ rs) (hq : Q none T.heap locs) :
    Go p e below (fun o U' => ∃ v L, o = .returned v ∧ Q v U'.heap L ∧ FrameEnd s o U' L rc rs) (T.setTop (mkF m pc Ls [])) := by
  obtain ⟨fs, hr, hrun, hended, hW, hsame⟩ := X.leave (v := none) (fun _ => rfl) hlk
  exact ⟨_, _, X.returnOut hx hret hd hr, hrun, hended, _, _, rfl, hq, ⟨_, rfl⟩, hW, hsame.mono hc hs⟩
section Wide
variable {vm₁ : Vm} {kS : Nat}
theorem Go.retIW (hS : s.Since vm₁ kS) (hn : kS ≤ T.heap.size) (X : Stand p l e R (s.setVm vm₁) m args below meth c T locs cells slots) (hx : p.tables.exec = Jvm.exec) {pc : Nat} {Ls : Array Slot} {z : Int32} {rest : List Value} (hret : meth.sig.returnType = some .int) (hlk : meth.locks = false) (hd : decode c.code pc = .ok (.ireturn, 1)) (hc : cells ≤ rc) (hs : slots ≤ rs) (hq : Q (some (.int z)) T.heap locs) :
    Go p e below (fun o U' => ∃ v L, o = .returned v ∧ Q v U'.heap L ∧ ReturnedEndW s o U' L rc rs) (T.setTop (mkF m pc Ls (.int z :: rest))) := by
  obtain ⟨fs, hr, hrun, hended, w1, w2, w3, w4⟩ := X.leaveW hS hn (v := some (.int z)) (fun h => by rw [hret] at h; cases h) hlk
  exact ⟨_, _, RoadKit.retI X hx hret hd hr, hrun, hended, _, _, rfl, hq, w1, w2, w3, w4.mono hc hs⟩
theorem Go.retNW (hS : s.Since vm₁ kS) (hn : kS ≤ T.heap.size) (X : Stand p l e R (s.setVm vm₁) m args below meth c T locs cells slots) (hx : p.tables.exec = Jvm.exec) {pc : Nat} {Ls : Array Slot} {z : Int32} {t : FieldType} {rest : List Value} (hret : meth.sig.returnType = some t) (ht : t = .boolean ∨ t = .byte ∨ t = .char ∨ t = .short) (hlk : meth.locks = false) (hd : decode c.code pc = .ok (.ireturn, 1)) (hc : cells ≤ rc) (hs : slots ≤ rs) (hq : Q (some (.int (nar t z))) T.heap locs) :
    Go p e below (fun o U' => ∃ v L, o = .returned v ∧ Q v U'.heap L ∧ ReturnedEndW s o U' L rc rs) (T.setTop (mkF m pc Ls (.int z :: rest))) := by
  obtain ⟨fs, hr, hrun, hended, w1, w2, w3, w4⟩ := X.leaveW hS hn (v := some (.int (nar t z))) (fun h => by rw [hret] at h; cases h) hlk
  exact ⟨_, _, RoadKit.retN X hx hret ht hd hr, hrun, hended, _, _, rfl, hq, w1, w2, w3, w4.mono hc hs⟩
theorem Go.retAW (hS : s.Since vm₁ kS) (hn : kS ≤ T.heap.size) (X : Stand p l e R (s.setVm vm₁) m args below meth c T locs cells slots) (hx : p.tables.exec = Jvm.exec) {pc : Nat} {Ls : Array Slot} {v : Value} {t : FieldType} {rest : List Value} (hret : meth.sig.returnType = some t) (ht : t.isReference = true) (hv : v.isRef = true) (hlk : meth.locks = false) (hd : decode c.code pc = .ok (.areturn, 1)) (hc : cells ≤ rc) (hs : slots ≤ rs) (hq : Q (some v) T.heap locs) :
    Go p e below (fun o U' => ∃ v L, o = .returned v ∧ Q v U'.heap L ∧ ReturnedEndW s o U' L rc rs) (T.setTop (mkF m pc Ls (v :: rest))) := by
  obtain ⟨fs, hr, hrun, hended, w1, w2, w3, w4⟩ := X.leaveW hS hn (v := some v) (fun h => by rw [hret] at h; cases h) hlk
  exact ⟨_, _, own_retA X hx hret ht hv hd hr, hrun, hended, _, _, rfl, hq, w1, w2, w3, w4.mono hc hs⟩
theorem Go.ret0W (hS : s.Since vm₁ kS) (hn : kS ≤ T.heap.size) (X : Stand p l e R (s.setVm vm₁) m args below meth c T locs cells slots) (hx : p.tables.exec = Jvm.exec) {pc : Nat} {Ls : Array Slot} (hret : meth.sig.returnType = none) (hlk : meth.locks = false) (hd : decode c.code pc = .ok (.return_, 1)) (hc : cells ≤ rc) (hs : slots ≤ rs) (hq : Q none T.heap locs) :
    Go p e below (fun o U' => ∃ v L, o = .returned v ∧ Q v U'.heap L ∧ ReturnedEndW s o U' L rc rs) (T.setTop (mkF m pc Ls [])) := by
  obtain ⟨fs, hr, hrun, hended, w1, w2, w3, w4⟩ := X.leaveW hS hn (v := none) (fun _ => rfl) hlk
  exact ⟨_, _, X.returnOut hx hret hd hr, hrun, hended, _, _, rfl, hq, w1, w2, w3, w4.mono hc hs⟩
end Wide
section Held
variable {vm₁ : Vm} {kS : Nat} {Z : State} {a0 : Array Value} {EL : List (String × Nat)} {h0 h h' : Heap} {vm0 : Vm}
theorem own_chE (A : CHr Z EL vm₁ h0 vm0 h) (E : Ext h h') : CHr Z EL vm₁ h0 vm0 h' := A.trans (CHr.ext E A.1)
theorem own_chW {a : Addr} {sl : Nat} {v : Value} (A : CHr Z EL vm₁ h0 vm0 h) (W : Wr h h' a sl v) (S : Safe Z EL vm0 h a) : CHr Z EL vm₁ h0 vm0 h' := A.trans (CHr.wr W S A.1)
theorem own_chK {ws : List Addr} (A : CHr Z EL vm₁ h0 vm0 h) (K : Keep h h' ws) (S : ∀ x ∈ ws, Safe Z EL vm0 h x) : CHr Z EL vm₁ h0 vm0 h' := A.trans (CHr.keep K S A.1)
theorem own_chEnd (X : Stand p l e R (s.setVm vm₁) m args below meth c T locs cells slots) (eT : T.heap = h) (hZ : Z.Warmed39 vm₁) (hEL : EW Z a0 EL) (A : CHr Z EL s.vm h0 vm₁ h) (hh : s.heap = h0) : CHr Z EL s.vm s.heap T.vm T.heap := by
  rw [eT, hh]; exact A.trans (CHv.at X hZ hEL A.1)
theorem Go.retNH (hS : s.Since vm₁ kS) (hn : kS ≤ T.heap.size) (hC : CHr Z EL s.vm s.heap T.vm T.heap) (X : Stand p l e R (s.setVm vm₁) m args below meth c T locs cells slots) (hx : p.tables.exec = Jvm.exec) {pc : Nat} {Ls : Array Slot} {z : Int32} {t : FieldType} {rest : List Value} (hret : meth.sig.returnType = some t) (ht : t = .boolean ∨ t = .byte ∨ t = .char ∨ t = .short) (hlk : meth.locks = false) (hd : decode c.code pc = .ok (.ireturn, 1)) (hc : cells ≤ rc) (hs : slots ≤ rs) (hq : Q (some (.int (nar t z))) T.heap locs) :
    Go p e below (fun o U' => ∃ v L, o = .returned v ∧ Q v U'.heap L ∧ CHr Z EL s.vm s.heap U'.vm U'.heap ∧ ReturnedEndW s o U' L rc rs) (T.setTop (mkF m pc Ls (.int z :: rest))) := by
  obtain ⟨fs, hr, hrun, hended, w1, w2, w3, w4⟩ := X.leaveW hS hn (v := some (.int (nar t z))) (fun h => by rw [hret] at h; cases h) hlk
  exact ⟨_, _, RoadKit.retN X hx hret ht hd hr, hrun, hended, _, _, rfl, hq, hC, w1, w2, w3, w4.mono hc hs⟩
theorem Go.retAH (hS : s.Since vm₁ kS) (hn : kS ≤ T.heap.size) (hC : CHr Z EL s.vm s.heap T.vm T.heap) (X : Stand p l e R (s.setVm vm₁) m args below meth c T locs cells slots) (hx : p.tables.exec = Jvm.exec) {pc : Nat} {Ls : Array Slot} {v : Value} {t : FieldType} {rest : List Value} (hret : meth.sig.returnType = some t) (ht : t.isReference = true) (hv : v.isRef = true) (hlk : meth.locks = false) (hd : decode c.code pc = .ok (.areturn, 1)) (hc : cells ≤ rc) (hs : slots ≤ rs) (hq : Q (some v) T.heap locs) :
    Go p e below (fun o U' => ∃ v L, o = .returned v ∧ Q v U'.heap L ∧ CHr Z EL s.vm s.heap U'.vm U'.heap ∧ ReturnedEndW s o U' L rc rs) (T.setTop (mkF m pc Ls (v :: rest))) := by
  obtain ⟨fs, hr, hrun, hended, w1, w2, w3, w4⟩ := X.leaveW hS hn (v := some v) (fun h => by rw [hret] at h; cases h) hlk
  exact ⟨_, _, own_retA X hx hret ht hv hd hr, hrun, hended, _, _, rfl, hq, hC, w1, w2, w3, w4.mono hc hs⟩
theorem Go.ret0H (hS : s.Since vm₁ kS) (hn : kS ≤ T.heap.size) (hC : CHr Z EL s.vm s.heap T.vm T.heap) (X : Stand p l e R (s.setVm vm₁) m args below meth c T locs cells slots) (hx : p.tables.exec = Jvm.exec) {pc : Nat} {Ls : Array Slot} (hret : meth.sig.returnType = none) (hlk : meth.locks = false) (hd : decode c.code pc = .ok (.return_, 1)) (hc : cells ≤ rc) (hs : slots ≤ rs) (hq : Q none T.heap locs) :
    Go p e below (fun o U' => ∃ v L, o = .returned v ∧ Q v U'.heap L ∧ CHr Z EL s.vm s.heap U'.vm U'.heap ∧ ReturnedEndW s o U' L rc rs) (T.setTop (mkF m pc Ls [])) := by
  obtain ⟨fs, hr, hrun, hended, w1, w2, w3, w4⟩ := X.leaveW hS hn (v := none) (fun _ => rfl) hlk
  exact ⟨_, _, X.returnOut hx hret hd hr, hrun, hended, _, _, rfl, hq, hC, w1, w2, w3, w4.mono hc hs⟩
end Held
theorem own_selP {Z : State} {a0 : Array Value} {y : MethodName} {n : Nat} (hZ : Z.Warmed39 s.vm) (wi : (Cond.instantiable y.cls n).before a0 Z = true) (wp : (Cond.privateMethod y).before a0 Z = true) (wm : (Cond.instanceMethod y).before a0 Z = true) (hy : y.cls ≠ "java/lang/invoke/MethodHandle" ∧ y.cls ≠ "java/lang/invoke/VarHandle") : (Cond.selects y.cls y y).before args s = true := by
  obtain ⟨c, k, h1, h2, h3, h4, -⟩ := Cond.instantiable_spec (show (Cond.instantiable y.cls n).before args s = true from mv hZ wi)
  refine selects_self_of_private h1 h2 ?_ (Cond.privateMethod_at (mvP (args := args) hZ wp)) (mvT hZ wm) hy
  simp only [Bool.or_eq_false_iff] at h4; exact h4.1
theorem own_NSroot {Z : State} {a0 : Array Value} {O K : String} {n : Nat} (w : (Cond.noSuperclass O).before a0 Z = true) (wk : (Cond.instantiable K n).before a0 Z = true) (hn : O ≠ K) : NS Z O K := by
  obtain ⟨c, k, h1, h2, h3, -, -⟩ := Cond.noSuperclass_spec w
  obtain ⟨t, -, g1, -⟩ := Cond.instantiable_spec wk
  have ne := ids_ne h1 g1 hn
  refine ⟨c, t, h1, g1, fun fuel => ?_⟩
  cases fuel with
  | zero => rfl
  | succ f => simp [Vm.isSubclassAux, ne, h2, h3]
theorem own_NSno {Z : State} {a0 : Array Value} {C S K : String} {n : Nat} (w : (Cond.superclass C S).before a0 Z = true) (wk : (Cond.instantiable K n).before a0 Z = true) (ns : NS Z C K) (hn : C ≠ K) : ∃ c t, Z.vm.findClass C = some c ∧ Z.vm.findClass K = some t ∧ Z.vm.assignable c t = false := by
  obtain ⟨c, t, h0, g0, n3⟩ := ns
  obtain ⟨p, k, kp, h1, h2, h3, h4, h5, -, h7⟩ := Cond.superclass_spec h0 w
  obtain ⟨t', kt, g1, g2, g3, g4, -⟩ := Cond.instantiable_spec wk
  cases g0.symm.trans g1
  simp only [Bool.or_eq_false_iff] at g4
  have ne := ids_ne h0 g0 hn
  refine ⟨c, t, h0, g0, ?_⟩
  show Z.vm.assignableAux (255 + 1) c t = false
  simp [Vm.assignableAux, ne, h2, g2, h5, g3, g4.1, Vm.isSubclass, n3]
theorem own_old_size {Z : State} {n0 : Nat} {h : Heap} (O : Old Z n0 h) : n0 ≤ h.size := by rw [← O.1]; exact O.2.1
theorem own_cat1 {v : Value} (h : v.isRef = true) : v.category = 1 := by rcases ref_cases h with rfl | ⟨_, rfl⟩ <;> rfl
end New
end Jvm.RoadKit
namespace Jvm.Pilot.@@N@@
open Jvm Jvm.ClassFile Sem Op Lib Jvm.Free Jvm.Stand Jvm.LawKit Jvm.RoadKit Bundle Jvm.Pilot.@@N@@.Jvm.D
theorem own_mod10 (x : Int32) : ((x &&& (2147483647 : Int32)) % (10 : Int32)) = (0 : Int32) ∨ ((x &&& (2147483647 : Int32)) % (10 : Int32)) = (1 : Int32) ∨ ((x &&& (2147483647 : Int32)) % (10 : Int32)) = (2 : Int32) ∨ ((x &&& (2147483647 : Int32)) % (10 : Int32)) = (3 : Int32) ∨ ((x &&& (2147483647 : Int32)) % (10 : Int32)) = (4 : Int32) ∨ ((x &&& (2147483647 : Int32)) % (10 : Int32)) = (5 : Int32) ∨ ((x &&& (2147483647 : Int32)) % (10 : Int32)) = (6 : Int32) ∨ ((x &&& (2147483647 : Int32)) % (10 : Int32)) = (7 : Int32) ∨ ((x &&& (2147483647 : Int32)) % (10 : Int32)) = (8 : Int32) ∨ ((x &&& (2147483647 : Int32)) % (10 : Int32)) = (9 : Int32) := by
  have e := c_mask x 2147483647 31 (by decide) (by decide)
  have f := (c_irem (x &&& 2147483647) 10 10 rfl).1 (by omega)
  generalize ((x &&& (2147483647 : Int32)) % (10 : Int32)) = k at *
  simp only [← Int32.toInt_inj, Int32.reduceToInt]
  omega
theorem own_eq_int {args : Array Value} {s : State} {t : Term} {n : Int32} (h : (Jvm.Cond.eq t (.int n)).value args s none s [] = some true) : t.eval args s none [] s = some (.int n) := by
  simp only [Cond.value, Term.eval] at h
  cases ht : t.eval args s none [] s with
  | none => simp [ht] at h
  | some x => cases x <;> simp [ht] at h ⊢; exact h
theorem pn_0 : plainName "com/example/whole_commit/wholecommit/Completions$Ending" = true := by first | (simp [plainName, overriddenIn]; done) | decide +kernel
theorem d1_0 : decode prog_8_method_4_code 0 = .ok (.aload_n 0, 1) := by decide +kernel
theorem d1_1 : decode prog_8_method_4_code 1 = .ok (.getstatic 3, 3) := by decide +kernel
theorem d1_4 : decode prog_8_method_4_code 4 = .ok (.if_acmp .eq 10, 3) := by decide +kernel
theorem d1_14 : decode prog_8_method_4_code 14 = .ok (.iconst 1, 1) := by decide +kernel
theorem d1_15 : decode prog_8_method_4_code 15 = .ok (.goto 4, 3) := by decide +kernel
theorem d1_19 : decode prog_8_method_4_code 19 = .ok (.ireturn, 1) := by decide +kernel
theorem ef_com_0 (m : MethodId) (ka : Addr) : entryFrame m #[(.ref ka)] 1 = mkF m 0 #[.val (.ref ka)] [] := by first | (simp [entryFrame, mkF, argsToLocals, Value.category]; done) | rfl
def Q_com_0 (Z : State) (ka : Addr) (kb : Addr) (h0 : Heap) (n0 : Nat) (v : Option Value) (h : Heap) (L : List Loc) : Prop := v = some (.int (1 : Int32)) ∧ Fr n0 L ∧ h = h0
set_option maxRecDepth 65536 in
set_option maxHeartbeats 40000000 in
theorem com_0 (l : Launch) (Z : State) (a0 : Array Value) (hw : ∀ d ∈ tables_1, d.before a0 Z = true) (ws : List Jvm.Cond) (ka : Addr) (kb : Addr) (h0 : Heap) (n0 : Nat) (O0 : Old Z n0 h0) (P0 : Sta Z Z.heap "com/example/whole_commit/wholecommit/Completions$Ending" "COMMITTED_IN_TWO_PHASES" "Lcom/example/whole_commit/wholecommit/Completions$Ending;" (.ref ka)) (P1 : Sta Z Z.heap "com/example/whole_commit/wholecommit/Completions$Ending" "COMMITTED_IN_ONE_PHASE" "Lcom/example/whole_commit/wholecommit/Completions$Ending;" (.ref kb)) :
    MetFree l (⟨"com/example/whole_commit/wholecommit/Completions$Ending", "committed", "()Z"⟩ : MethodName) (head1 (Jvm.Cond.code (⟨"com/example/whole_commit/wholecommit/Completions$Ending", "committed", "()Z"⟩ : MethodName) prog_8_method_4_code 1 (some .boolean) :: ws) ({ frames := 0, cells := 0, slots := 0, locals := 0 } : Room)) (fun a U => a = #[(.ref ka)] ∧ Z.Warmed39 U.vm ∧ U.heap = h0) (fun _ _ _ _ _ => True) (fun _ U o U' => ∃ v L, o = .returned v ∧ Q_com_0 Z ka kb h0 n0 v U'.heap L ∧ FrameEnd U o U' L ({ frames := 0, cells := 0, slots := 0, locals := 0 } : Room).cells ({ frames := 0, cells := 0, slots := 0, locals := 0 } : Room).slots) := by
  refine MetFree.of_bodySF (plainFor_of_name pn_0) hisR ?_
  intro p e s m args below meth c s₁ Bd hml0 hP hK
  obtain ⟨rfl, hZ, hh⟩ := hP
  have hx := Bd.exec
  have hby := Bd.bytes
  have hml : c.maxLocals = 1 := hml0
  have hown : s.vm.findClass "com/example/whole_commit/wholecommit/Completions$Ending" = some m.cls := findClass_of_methodNamed Bd.named
  have hnm := (name_of_methodNamed Bd.named Bd.method).1
  have hlk := BodyLoose.notSynchronized Bd
  have X0 : Stand p l e ({ frames := 0, cells := 0, slots := 0, locals := 0 } : Room) s m #[(.ref ka)] below meth c s₁ [] 0 0 := Stand.of_body Bd
  have e0 : s₁.heap = h0 := by rw [← hh, Bd.state]; rfl
  have N0 := Fr.nil n0
  refine Go.start (P := fun o U' => ∃ v L, o = .returned v ∧ Q_com_0 Z ka kb h0 n0 v U'.heap L ∧ FrameEnd s o U' L ({ frames := 0, cells := 0, slots := 0, locals := 0 } : Room).cells ({ frames := 0, cells := 0, slots := 0, locals := 0 } : Room).slots) (ef_com_0 m ka) ?_
  show Go p e below _ (s₁.setTop (mkF m 0 #[.val (.ref ka)] []))
  refine Go.by (fun t k => XS.aloadN X0.here hx rfl (hb hby d1_0) rfl rfl k) ?_
  show Go p e below _ (s₁.setTop (mkF m 1 #[.val (.ref ka)] [(.ref ka)]))
  have F1 : Sta Z h0 "com/example/whole_commit/wholecommit/Completions$Ending" "COMMITTED_IN_TWO_PHASES" "Lcom/example/whole_commit/wholecommit/Completions$Ending;" (.ref ka) := P0.ext O0.2
  obtain ⟨T2, X2, e2, st2⟩ := getS2 X0 hx hZ hown (host := "") (Or.inl (hw _ (List.mem_of_getElem? (i := 30) rfl))) Via.refl e0 F1 (g := (mkF m 1 #[.val (.ref ka)] [(.ref ka)])) rfl (hb hby d1_1)
  refine Go.by st2 ?_
  show Go p e below _ (T2.setTop (mkF m 4 #[.val (.ref ka)] [(.ref ka), (.ref ka)]))
  refine Go.by (fun t k => Jvm.RoadKit.acmp (g := (mkF m 4 #[.val (.ref ka)] [(.ref ka), (.ref ka)])) X2 hx rfl rfl rfl (pc0 := 4) (pc' := 14) (same := true) rfl (hb hby d1_4) rfl (decide_eq_true rfl) (by decide) (by decide) k) ?_
  show Go p e below _ (T2.setTop (mkF m 14 #[.val (.ref ka)] []))
  refine Go.by (fun t k => XS.iconst X2.here hx rfl (hb hby d1_14) k) ?_
  show Go p e below _ (T2.setTop (mkF m 15 #[.val (.ref ka)] [(.int (1 : Int32))]))
  refine Go.by (fun t k => XS.goto X2.here hx rfl (pc0 := 15) (pc' := 19) rfl (hb hby d1_15) (by decide) (by decide) k) ?_
  show Go p e below _ (T2.setTop (mkF m 19 #[.val (.ref ka)] [(.int (1 : Int32))]))
  have hq : Q_com_0 Z ka kb h0 n0 (some (.int (nar .boolean (1 : Int32)))) h0 _ := ⟨rfl, N0, rfl⟩
  exact Go.retN X2 hx (t := .boolean) Bd.returns (by simp) hlk (hb hby d1_19) (by decide) (by decide) (by rw [e2]; exact hq)
theorem d1_7 : decode prog_8_method_4_code 7 = .ok (.aload_n 0, 1) := by decide +kernel
theorem d1_8 : decode prog_8_method_4_code 8 = .ok (.getstatic 7, 3) := by decide +kernel
theorem d1_11 : decode prog_8_method_4_code 11 = .ok (.if_acmp .ne 7, 3) := by decide +kernel
theorem ef_com_1 (m : MethodId) (kb : Addr) : entryFrame m #[(.ref kb)] 1 = mkF m 0 #[.val (.ref kb)] [] := by first | (simp [entryFrame, mkF, argsToLocals, Value.category]; done) | rfl
def Q_com_1 (Z : State) (kb : Addr) (ka : Addr) (h0 : Heap) (n0 : Nat) (v : Option Value) (h : Heap) (L : List Loc) : Prop := v = some (.int (1 : Int32)) ∧ Fr n0 L ∧ h = h0
set_option maxRecDepth 65536 in
set_option maxHeartbeats 40000000 in
theorem com_1 (l : Launch) (Z : State) (a0 : Array Value) (hw : ∀ d ∈ tables_1, d.before a0 Z = true) (ws : List Jvm.Cond) (kb : Addr) (ka : Addr) (h0 : Heap) (n0 : Nat) (O0 : Old Z n0 h0) (P0 : Sta Z Z.heap "com/example/whole_commit/wholecommit/Completions$Ending" "COMMITTED_IN_TWO_PHASES" "Lcom/example/whole_commit/wholecommit/Completions$Ending;" (.ref ka)) (P1 : Sta Z Z.heap "com/example/whole_commit/wholecommit/Completions$Ending" "COMMITTED_IN_ONE_PHASE" "Lcom/example/whole_commit/wholecommit/Completions$Ending;" (.ref kb)) :
    MetFree l (⟨"com/example/whole_commit/wholecommit/Completions$Ending", "committed", "()Z"⟩ : MethodName) (head1 (Jvm.Cond.code (⟨"com/example/whole_commit/wholecommit/Completions$Ending", "committed", "()Z"⟩ : MethodName) prog_8_method_4_code 1 (some .boolean) :: ws) ({ frames := 0, cells := 0, slots := 0, locals := 0 } : Room)) (fun a U => a = #[(.ref kb)] ∧ Z.Warmed39 U.vm ∧ U.heap = h0) (fun _ _ _ _ _ => True) (fun _ U o U' => ∃ v L, o = .returned v ∧ Q_com_1 Z kb ka h0 n0 v U'.heap L ∧ FrameEnd U o U' L ({ frames := 0, cells := 0, slots := 0, locals := 0 } : Room).cells ({ frames := 0, cells := 0, slots := 0, locals := 0 } : Room).slots) := by
  refine MetFree.of_bodySF (plainFor_of_name pn_0) hisR ?_
  intro p e s m args below meth c s₁ Bd hml0 hP hK
  obtain ⟨rfl, hZ, hh⟩ := hP
  have hx := Bd.exec
  have hby := Bd.bytes
  have hml : c.maxLocals = 1 := hml0
  have hown : s.vm.findClass "com/example/whole_commit/wholecommit/Completions$Ending" = some m.cls := findClass_of_methodNamed Bd.named
  have hnm := (name_of_methodNamed Bd.named Bd.method).1
  have hlk := BodyLoose.notSynchronized Bd
  have X0 : Stand p l e ({ frames := 0, cells := 0, slots := 0, locals := 0 } : Room) s m #[(.ref kb)] below meth c s₁ [] 0 0 := Stand.of_body Bd
  have e0 : s₁.heap = h0 := by rw [← hh, Bd.state]; rfl
  have N0 := Fr.nil n0
  refine Go.start (P := fun o U' => ∃ v L, o = .returned v ∧ Q_com_1 Z kb ka h0 n0 v U'.heap L ∧ FrameEnd s o U' L ({ frames := 0, cells := 0, slots := 0, locals := 0 } : Room).cells ({ frames := 0, cells := 0, slots := 0, locals := 0 } : Room).slots) (ef_com_1 m kb) ?_
  show Go p e below _ (s₁.setTop (mkF m 0 #[.val (.ref kb)] []))
  refine Go.by (fun t k => XS.aloadN X0.here hx rfl (hb hby d1_0) rfl rfl k) ?_
  show Go p e below _ (s₁.setTop (mkF m 1 #[.val (.ref kb)] [(.ref kb)]))
  have F1 : Sta Z h0 "com/example/whole_commit/wholecommit/Completions$Ending" "COMMITTED_IN_TWO_PHASES" "Lcom/example/whole_commit/wholecommit/Completions$Ending;" (.ref ka) := P0.ext O0.2
  obtain ⟨T2, X2, e2, st2⟩ := getS2 X0 hx hZ hown (host := "") (Or.inl (hw _ (List.mem_of_getElem? (i := 30) rfl))) Via.refl e0 F1 (g := (mkF m 1 #[.val (.ref kb)] [(.ref kb)])) rfl (hb hby d1_1)
  refine Go.by st2 ?_
  show Go p e below _ (T2.setTop (mkF m 4 #[.val (.ref kb)] [(.ref ka), (.ref kb)]))
  by_cases ha3 : kb = ka
  · skip
    refine Go.by (fun t k => Jvm.RoadKit.acmp (g := (mkF m 4 #[.val (.ref kb)] [(.ref ka), (.ref kb)])) X2 hx rfl rfl rfl (pc0 := 4) (pc' := 14) (same := true) rfl (hb hby d1_4) rfl (decide_eq_true (congrArg Value.ref ha3)) (by decide) (by decide) k) ?_
    show Go p e below _ (T2.setTop (mkF m 14 #[.val (.ref kb)] []))
    refine Go.by (fun t k => XS.iconst X2.here hx rfl (hb hby d1_14) k) ?_
    show Go p e below _ (T2.setTop (mkF m 15 #[.val (.ref kb)] [(.int (1 : Int32))]))
    refine Go.by (fun t k => XS.goto X2.here hx rfl (pc0 := 15) (pc' := 19) rfl (hb hby d1_15) (by decide) (by decide) k) ?_
    show Go p e below _ (T2.setTop (mkF m 19 #[.val (.ref kb)] [(.int (1 : Int32))]))
    have hq : Q_com_1 Z kb ka h0 n0 (some (.int (nar .boolean (1 : Int32)))) h0 _ := ⟨rfl, N0, rfl⟩
    exact Go.retN X2 hx (t := .boolean) Bd.returns (by simp) hlk (hb hby d1_19) (by decide) (by decide) (by rw [e2]; exact hq)
  · skip
    refine Go.by (fun t k => Jvm.RoadKit.acmp (g := (mkF m 4 #[.val (.ref kb)] [(.ref ka), (.ref kb)])) X2 hx rfl rfl rfl (pc0 := 4) (pc' := 7) (same := false) rfl (hb hby d1_4) rfl (decide_eq_false fun q => ha3 (Value.ref.inj q)) (by decide) (by decide) k) ?_
    show Go p e below _ (T2.setTop (mkF m 7 #[.val (.ref kb)] []))
    refine Go.by (fun t k => XS.aloadN X2.here hx rfl (hb hby d1_7) rfl rfl k) ?_
    show Go p e below _ (T2.setTop (mkF m 8 #[.val (.ref kb)] [(.ref kb)]))
    have F4 : Sta Z h0 "com/example/whole_commit/wholecommit/Completions$Ending" "COMMITTED_IN_ONE_PHASE" "Lcom/example/whole_commit/wholecommit/Completions$Ending;" (.ref kb) := P1.ext O0.2
    obtain ⟨T5, X5, e5, st5⟩ := getS2 X2 hx hZ hown (host := "") (Or.inl (hw _ (List.mem_of_getElem? (i := 31) rfl))) Via.refl e2 F4 (g := (mkF m 8 #[.val (.ref kb)] [(.ref kb)])) rfl (hb hby d1_8)
    refine Go.by st5 ?_
    show Go p e below _ (T5.setTop (mkF m 11 #[.val (.ref kb)] [(.ref kb), (.ref kb)]))
    refine Go.by (fun t k => Jvm.RoadKit.acmp (g := (mkF m 11 #[.val (.ref kb)] [(.ref kb), (.ref kb)])) X5 hx rfl rfl rfl (pc0 := 11) (pc' := 14) (same := true) rfl (hb hby d1_11) rfl (decide_eq_true rfl) (by decide) (by decide) k) ?_
    show Go p e below _ (T5.setTop (mkF m 14 #[.val (.ref kb)] []))
    refine Go.by (fun t k => XS.iconst X5.here hx rfl (hb hby d1_14) k) ?_
    show Go p e below _ (T5.setTop (mkF m 15 #[.val (.ref kb)] [(.int (1 : Int32))]))
    refine Go.by (fun t k => XS.goto X5.here hx rfl (pc0 := 15) (pc' := 19) rfl (hb hby d1_15) (by decide) (by decide) k) ?_
    show Go p e below _ (T5.setTop (mkF m 19 #[.val (.ref kb)] [(.int (1 : Int32))]))
    have hq : Q_com_1 Z kb ka h0 n0 (some (.int (nar .boolean (1 : Int32)))) h0 _ := ⟨rfl, N0, rfl⟩
    exact Go.retN X5 hx (t := .boolean) Bd.returns (by simp) hlk (hb hby d1_19) (by decide) (by decide) (by rw [e5]; exact hq)
theorem d1_18 : decode prog_8_method_4_code 18 = .ok (.iconst 0, 1) := by decide +kernel
theorem ef_com_f (m : MethodId) (ob : Addr) : entryFrame m #[(.ref ob)] 1 = mkF m 0 #[.val (.ref ob)] [] := by first | (simp [entryFrame, mkF, argsToLocals, Value.category]; done) | rfl
def Q_com_f (Z : State) (ob : Addr) (ka : Addr) (kb : Addr) (h0 : Heap) (n0 : Nat) (v : Option Value) (h : Heap) (L : List Loc) : Prop := v = some (.int (0 : Int32)) ∧ Fr n0 L ∧ h = h0
set_option maxRecDepth 65536 in
set_option maxHeartbeats 40000000 in
theorem com_f (l : Launch) (Z : State) (a0 : Array Value) (hw : ∀ d ∈ tables_1, d.before a0 Z = true) (ws : List Jvm.Cond) (ob : Addr) (ka : Addr) (kb : Addr) (h0 : Heap) (n0 : Nat) (O0 : Old Z n0 h0) (P0 : Sta Z Z.heap "com/example/whole_commit/wholecommit/Completions$Ending" "COMMITTED_IN_TWO_PHASES" "Lcom/example/whole_commit/wholecommit/Completions$Ending;" (.ref ka)) (P1 : Sta Z Z.heap "com/example/whole_commit/wholecommit/Completions$Ending" "COMMITTED_IN_ONE_PHASE" "Lcom/example/whole_commit/wholecommit/Completions$Ending;" (.ref kb)) (na : ob ≠ ka) (nb : ob ≠ kb) :
    MetFree l (⟨"com/example/whole_commit/wholecommit/Completions$Ending", "committed", "()Z"⟩ : MethodName) (head1 (Jvm.Cond.code (⟨"com/example/whole_commit/wholecommit/Completions$Ending", "committed", "()Z"⟩ : MethodName) prog_8_method_4_code 1 (some .boolean) :: ws) ({ frames := 0, cells := 0, slots := 0, locals := 0 } : Room)) (fun a U => a = #[(.ref ob)] ∧ Z.Warmed39 U.vm ∧ U.heap = h0) (fun _ _ _ _ _ => True) (fun _ U o U' => ∃ v L, o = .returned v ∧ Q_com_f Z ob ka kb h0 n0 v U'.heap L ∧ FrameEnd U o U' L ({ frames := 0, cells := 0, slots := 0, locals := 0 } : Room).cells ({ frames := 0, cells := 0, slots := 0, locals := 0 } : Room).slots) := by
  refine MetFree.of_bodySF (plainFor_of_name pn_0) hisR ?_
  intro p e s m args below meth c s₁ Bd hml0 hP hK
  obtain ⟨rfl, hZ, hh⟩ := hP
  have hx := Bd.exec
  have hby := Bd.bytes
  have hml : c.maxLocals = 1 := hml0
  have hown : s.vm.findClass "com/example/whole_commit/wholecommit/Completions$Ending" = some m.cls := findClass_of_methodNamed Bd.named
  have hnm := (name_of_methodNamed Bd.named Bd.method).1
  have hlk := BodyLoose.notSynchronized Bd
  have X0 : Stand p l e ({ frames := 0, cells := 0, slots := 0, locals := 0 } : Room) s m #[(.ref ob)] below meth c s₁ [] 0 0 := Stand.of_body Bd
  have e0 : s₁.heap = h0 := by rw [← hh, Bd.state]; rfl
  have N0 := Fr.nil n0
  refine Go.start (P := fun o U' => ∃ v L, o = .returned v ∧ Q_com_f Z ob ka kb h0 n0 v U'.heap L ∧ FrameEnd s o U' L ({ frames := 0, cells := 0, slots := 0, locals := 0 } : Room).cells ({ frames := 0, cells := 0, slots := 0, locals := 0 } : Room).slots) (ef_com_f m ob) ?_
  show Go p e below _ (s₁.setTop (mkF m 0 #[.val (.ref ob)] []))
  refine Go.by (fun t k => XS.aloadN X0.here hx rfl (hb hby d1_0) rfl rfl k) ?_
  show Go p e below _ (s₁.setTop (mkF m 1 #[.val (.ref ob)] [(.ref ob)]))
  have F1 : Sta Z h0 "com/example/whole_commit/wholecommit/Completions$Ending" "COMMITTED_IN_TWO_PHASES" "Lcom/example/whole_commit/wholecommit/Completions$Ending;" (.ref ka) := P0.ext O0.2
  obtain ⟨T2, X2, e2, st2⟩ := getS2 X0 hx hZ hown (host := "") (Or.inl (hw _ (List.mem_of_getElem? (i := 30) rfl))) Via.refl e0 F1 (g := (mkF m 1 #[.val (.ref ob)] [(.ref ob)])) rfl (hb hby d1_1)
  refine Go.by st2 ?_
  show Go p e below _ (T2.setTop (mkF m 4 #[.val (.ref ob)] [(.ref ka), (.ref ob)]))
  refine Go.by (fun t k => Jvm.RoadKit.acmp (g := (mkF m 4 #[.val (.ref ob)] [(.ref ka), (.ref ob)])) X2 hx rfl rfl rfl (pc0 := 4) (pc' := 7) (same := false) rfl (hb hby d1_4) rfl (decide_eq_false fun q => na (Value.ref.inj q)) (by decide) (by decide) k) ?_
  show Go p e below _ (T2.setTop (mkF m 7 #[.val (.ref ob)] []))
  refine Go.by (fun t k => XS.aloadN X2.here hx rfl (hb hby d1_7) rfl rfl k) ?_
  show Go p e below _ (T2.setTop (mkF m 8 #[.val (.ref ob)] [(.ref ob)]))
  have F3 : Sta Z h0 "com/example/whole_commit/wholecommit/Completions$Ending" "COMMITTED_IN_ONE_PHASE" "Lcom/example/whole_commit/wholecommit/Completions$Ending;" (.ref kb) := P1.ext O0.2
  obtain ⟨T4, X4, e4, st4⟩ := getS2 X2 hx hZ hown (host := "") (Or.inl (hw _ (List.mem_of_getElem? (i := 31) rfl))) Via.refl e2 F3 (g := (mkF m 8 #[.val (.ref ob)] [(.ref ob)])) rfl (hb hby d1_8)
  refine Go.by st4 ?_
  show Go p e below _ (T4.setTop (mkF m 11 #[.val (.ref ob)] [(.ref kb), (.ref ob)]))
  refine Go.by (fun t k => Jvm.RoadKit.acmp (g := (mkF m 11 #[.val (.ref ob)] [(.ref kb), (.ref ob)])) X4 hx rfl rfl rfl (pc0 := 11) (pc' := 18) (same := false) rfl (hb hby d1_11) rfl (decide_eq_false fun q => nb (Value.ref.inj q)) (by decide) (by decide) k) ?_
  show Go p e below _ (T4.setTop (mkF m 18 #[.val (.ref ob)] []))
  refine Go.by (fun t k => XS.iconst X4.here hx rfl (hb hby d1_18) k) ?_
  show Go p e below _ (T4.setTop (mkF m 19 #[.val (.ref ob)] [(.int (0 : Int32))]))
  have hq : Q_com_f Z ob ka kb h0 n0 (some (.int (nar .boolean (0 : Int32)))) h0 _ := ⟨rfl, N0, rfl⟩
  exact Go.retN X4 hx (t := .boolean) Bd.returns (by simp) hlk (hb hby d1_19) (by decide) (by decide) (by rw [e4]; exact hq)
theorem pn_1 : plainName "com/example/whole_commit/wholecommit/EndingCommittedPinLaw" = true := by first | (simp [plainName, overriddenIn]; done) | decide +kernel
theorem pd_0 : parseMethodDescriptor "()Z" = some ⟨[], some .boolean⟩ := by decide +kernel
theorem ef_law (m : MethodId) (ip : Int32) : entryFrame m #[(.int ip)] maxLocals = mkF m 0 #[.val (.int ip), .unset, .unset, .unset] [] := by first | (simp [entryFrame, mkF, argsToLocals, Value.category, maxLocals]; done) | rfl
def Q_law (Z : State) (ip : Int32) (k0_ : Addr) (k1_ : Addr) (k2_ : Addr) (k3_ : Addr) (k4_ : Addr) (k5_ : Addr) (k6_ : Addr) (k7_ : Addr) (k8_ : Addr) (k9_ : Addr) (h0 : Heap) (n0 : Nat) (v : Option Value) (h : Heap) (L : List Loc) : Prop := v = some (.int (1 : Int32)) ∧ Fr n0 L ∧ Keep h0 h []
set_option maxRecDepth 65536 in
set_option maxHeartbeats 40000000 in
theorem law (l : Launch) (Z : State) (a0 : Array Value) (hw : ∀ d ∈ tables_1, d.before a0 Z = true) (ws : List Jvm.Cond) (ip : Int32) (k0_ : Addr) (k1_ : Addr) (k2_ : Addr) (k3_ : Addr) (k4_ : Addr) (k5_ : Addr) (k6_ : Addr) (k7_ : Addr) (k8_ : Addr) (k9_ : Addr) (h0 : Heap) (n0 : Nat) (O0 : Old Z n0 h0) (P0 : Sta Z Z.heap "com/example/whole_commit/wholecommit/Completions$Ending" "COMMITTED_IN_TWO_PHASES" "Lcom/example/whole_commit/wholecommit/Completions$Ending;" (.ref k0_)) (P1 : Sta Z Z.heap "com/example/whole_commit/wholecommit/Completions$Ending" "COMMITTED_IN_ONE_PHASE" "Lcom/example/whole_commit/wholecommit/Completions$Ending;" (.ref k1_)) (P2 : Sta Z Z.heap "com/example/whole_commit/wholecommit/Completions$Ending" "ROLLED_BACK_BY_THE_APPLICATION" "Lcom/example/whole_commit/wholecommit/Completions$Ending;" (.ref k2_)) (P3 : Sta Z Z.heap "com/example/whole_commit/wholecommit/Completions$Ending" "ROLLED_BACK_BY_A_BRANCH" "Lcom/example/whole_commit/wholecommit/Completions$Ending;" (.ref k3_)) (P4 : Sta Z Z.heap "com/example/whole_commit/wholecommit/Completions$Ending" "ROLLED_BACK_ON_TIMEOUT_OR_ROLLBACK_ONLY" "Lcom/example/whole_commit/wholecommit/Completions$Ending;" (.ref k4_)) (P5 : Sta Z Z.heap "com/example/whole_commit/wholecommit/Completions$Ending" "ROLLED_BACK_OTHERWISE" "Lcom/example/whole_commit/wholecommit/Completions$Ending;" (.ref k5_)) (P6 : Sta Z Z.heap "com/example/whole_commit/wholecommit/Completions$Ending" "HEURISTIC_MIXED" "Lcom/example/whole_commit/wholecommit/Completions$Ending;" (.ref k6_)) (P7 : Sta Z Z.heap "com/example/whole_commit/wholecommit/Completions$Ending" "HEURISTIC_ROLLBACK" "Lcom/example/whole_commit/wholecommit/Completions$Ending;" (.ref k7_)) (P8 : Sta Z Z.heap "com/example/whole_commit/wholecommit/Completions$Ending" "HEURISTIC_HAZARD" "Lcom/example/whole_commit/wholecommit/Completions$Ending;" (.ref k8_)) (P9 : Sta Z Z.heap "com/example/whole_commit/wholecommit/Completions$Ending" "OUTCOME_UNKNOWN" "Lcom/example/whole_commit/wholecommit/Completions$Ending;" (.ref k9_)) (P10 : Exa Z Z.heap k0_ "com/example/whole_commit/wholecommit/Completions$Ending") (P11 : Exa Z Z.heap k1_ "com/example/whole_commit/wholecommit/Completions$Ending") (P12 : Exa Z Z.heap k2_ "com/example/whole_commit/wholecommit/Completions$Ending") (P13 : Exa Z Z.heap k3_ "com/example/whole_commit/wholecommit/Completions$Ending") (P14 : Exa Z Z.heap k4_ "com/example/whole_commit/wholecommit/Completions$Ending") (P15 : Exa Z Z.heap k5_ "com/example/whole_commit/wholecommit/Completions$Ending") (P16 : Exa Z Z.heap k6_ "com/example/whole_commit/wholecommit/Completions$Ending") (P17 : Exa Z Z.heap k7_ "com/example/whole_commit/wholecommit/Completions$Ending") (P18 : Exa Z Z.heap k8_ "com/example/whole_commit/wholecommit/Completions$Ending") (P19 : Exa Z Z.heap k9_ "com/example/whole_commit/wholecommit/Completions$Ending") (n2_0 : k2_ ≠ k0_) (n3_0 : k3_ ≠ k0_) (n4_0 : k4_ ≠ k0_) (n5_0 : k5_ ≠ k0_) (n6_0 : k6_ ≠ k0_) (n7_0 : k7_ ≠ k0_) (n8_0 : k8_ ≠ k0_) (n9_0 : k9_ ≠ k0_) (n2_1 : k2_ ≠ k1_) (n3_1 : k3_ ≠ k1_) (n4_1 : k4_ ≠ k1_) (n5_1 : k5_ ≠ k1_) (n6_1 : k6_ ≠ k1_) (n7_1 : k7_ ≠ k1_) (n8_1 : k8_ ≠ k1_) (n9_1 : k9_ ≠ k1_) :
    MetFree l x (head1 (Jvm.Cond.code x code maxLocals ret :: ws) room_1) (fun a U => a = #[(.int ip)] ∧ Z.Warmed39 U.vm ∧ U.heap = h0) (fun _ _ _ _ _ => True) (fun _ U o U' => ∃ v L, o = .returned v ∧ Q_law Z ip k0_ k1_ k2_ k3_ k4_ k5_ k6_ k7_ k8_ k9_ h0 n0 v U'.heap L ∧ FrameEnd U o U' L room_1.cells room_1.slots) := by
  refine MetFree.of_bodySF (plainFor_of_name pn_1) hisR ?_
  intro p e s m args below meth c s₁ Bd hml0 hP hK
  obtain ⟨rfl, hZ, hh⟩ := hP
  have hx := Bd.exec
  have hby := Bd.bytes
  have hml : c.maxLocals = 4 := hml0
  have hown : s.vm.findClass "com/example/whole_commit/wholecommit/EndingCommittedPinLaw" = some m.cls := findClass_of_methodNamed Bd.named
  have hnm := (name_of_methodNamed Bd.named Bd.method).1
  have hlk := BodyLoose.notSynchronized Bd
  have X0 : Stand p l e room_1 s m #[(.int ip)] below meth c s₁ [] 0 0 := Stand.of_body Bd
  have e0 : s₁.heap = h0 := by rw [← hh, Bd.state]; rfl
  have N0 := Fr.nil n0
  refine Go.start (P := fun o U' => ∃ v L, o = .returned v ∧ Q_law Z ip k0_ k1_ k2_ k3_ k4_ k5_ k6_ k7_ k8_ k9_ h0 n0 v U'.heap L ∧ FrameEnd s o U' L room_1.cells room_1.slots) (ef_law m ip) ?_
  show Go p e below _ (s₁.setTop (mkF m 0 #[.val (.int ip), .unset, .unset, .unset] []))
  refine Go.by (fun t k => XS.bipush X0.here hx rfl (hb hby at_0) k) ?_
  show Go p e below _ (s₁.setTop (mkF m 2 #[.val (.int ip), .unset, .unset, .unset] [(.int (10 : Int32))]))
  have F1 : Exa Z h0 k0_ "com/example/whole_commit/wholecommit/Completions$Ending" := P10.ext O0.2
  have F2 : Exa Z h0 k1_ "com/example/whole_commit/wholecommit/Completions$Ending" := P11.ext O0.2
  have F3 : Exa Z h0 k2_ "com/example/whole_commit/wholecommit/Completions$Ending" := P12.ext O0.2
  have F4 : Exa Z h0 k3_ "com/example/whole_commit/wholecommit/Completions$Ending" := P13.ext O0.2
  have F5 : Exa Z h0 k4_ "com/example/whole_commit/wholecommit/Completions$Ending" := P14.ext O0.2
  have F6 : Exa Z h0 k5_ "com/example/whole_commit/wholecommit/Completions$Ending" := P15.ext O0.2
  have F7 : Exa Z h0 k6_ "com/example/whole_commit/wholecommit/Completions$Ending" := P16.ext O0.2
  have F8 : Exa Z h0 k7_ "com/example/whole_commit/wholecommit/Completions$Ending" := P17.ext O0.2
  have F9 : Exa Z h0 k8_ "com/example/whole_commit/wholecommit/Completions$Ending" := P18.ext O0.2
  have F10 : Exa Z h0 k9_ "com/example/whole_commit/wholecommit/Completions$Ending" := P19.ext O0.2
  obtain ⟨T11, h11, k11, X11, e11, E11, A11, O11, st11⟩ := newR X0 hx hZ hown (hw _ (List.mem_of_getElem? (i := 0) rfl)) (hw _ (List.mem_of_getElem? (i := 1) rfl)) e0 (g := (mkF m 2 #[.val (.int ip), .unset, .unset, .unset] [(.int (10 : Int32))])) rfl (hb hby at_2) rfl (by decide) (cap := 10) (by decide) (by decide) (by decide) (by decide)
  obtain ⟨b11, g11⟩ : ∃ z, z = h0.size := ⟨_, rfl⟩
  rw [← g11] at A11 st11
  have gl11 : h0.size ≤ b11 := Nat.le_of_eq g11.symm
  have ge11 : n0 ≤ b11 := Nat.le_trans (own_old_size O0) gl11
  have sz11 : h0.size ≤ b11 := Nat.le_trans (Keep.refl h0 []).1 gl11
  have ne12 : k0_ ≠ b11 := Nat.ne_of_lt (Nat.lt_of_lt_of_le F1.lt gl11)
  have ne13 : k1_ ≠ b11 := Nat.ne_of_lt (Nat.lt_of_lt_of_le F2.lt gl11)
  have ne14 : k2_ ≠ b11 := Nat.ne_of_lt (Nat.lt_of_lt_of_le F3.lt gl11)
  have ne15 : k3_ ≠ b11 := Nat.ne_of_lt (Nat.lt_of_lt_of_le F4.lt gl11)
  have ne16 : k4_ ≠ b11 := Nat.ne_of_lt (Nat.lt_of_lt_of_le F5.lt gl11)
  have ne17 : k5_ ≠ b11 := Nat.ne_of_lt (Nat.lt_of_lt_of_le F6.lt gl11)
  have ne18 : k6_ ≠ b11 := Nat.ne_of_lt (Nat.lt_of_lt_of_le F7.lt gl11)
  have ne19 : k7_ ≠ b11 := Nat.ne_of_lt (Nat.lt_of_lt_of_le F8.lt gl11)
  have ne20 : k8_ ≠ b11 := Nat.ne_of_lt (Nat.lt_of_lt_of_le F9.lt gl11)
  have ne21 : k9_ ≠ b11 := Nat.ne_of_lt (Nat.lt_of_lt_of_le F10.lt gl11)
  have F22 : Arv Z h11 b11 k11 (.object "com/example/whole_commit/wholecommit/Completions$Ending") (10 : Int32) [.null, .null, .null, .null, .null, .null, .null, .null, .null, .null] .null := (Arv.new A11 (by decide)).pad (pad_rep [] .null 10)
  refine Go.by st11 ?_
  show Go p e below _ (T11.setTop (mkF m 5 #[.val (.int ip), .unset, .unset, .unset] [(.ref b11)]))
  refine Go.by (fun t k => XS.dup X11.here hx rfl (hb hby at_5) rfl rfl k) ?_
  show Go p e below _ (T11.setTop (mkF m 6 #[.val (.int ip), .unset, .unset, .unset] [(.ref b11), (.ref b11)]))
  refine Go.by (fun t k => XS.iconst X11.here hx rfl (hb hby at_6) k) ?_
  show Go p e below _ (T11.setTop (mkF m 7 #[.val (.int ip), .unset, .unset, .unset] [(.int (0 : Int32)), (.ref b11), (.ref b11)]))
  have F24 : Old Z n0 h11 := (O0.ext E11)
  have F23 : Sta Z h11 "com/example/whole_commit/wholecommit/Completions$Ending" "COMMITTED_IN_TWO_PHASES" "Lcom/example/whole_commit/wholecommit/Completions$Ending;" (.ref k0_) := P0.ext F24.2
  obtain ⟨T25, X25, e25, st25⟩ := getS2 X11 hx hZ hown (host := "") (Or.inl (hw _ (List.mem_of_getElem? (i := 2) rfl))) Via.refl e11 F23 (g := (mkF m 7 #[.val (.int ip), .unset, .unset, .unset] [(.int (0 : Int32)), (.ref b11), (.ref b11)])) rfl (hb hby at_7)
  refine Go.by st25 ?_
  show Go p e below _ (T25.setTop (mkF m 10 #[.val (.int ip), .unset, .unset, .unset] [(.ref k0_), (.int (0 : Int32)), (.ref b11), (.ref b11)]))
  have F26 : Exa Z h11 k0_ "com/example/whole_commit/wholecommit/Completions$Ending" := P10.ext F24.2
  obtain ⟨cl27, Ar27, qk27, sz27, nn27, Ha27, Gf27⟩ := F22
  have hin28 : ¬ ((0 : Int32) < 0 ∨ cl27.slots.size ≤ ((0 : Int32)).toNatClampNeg) := inb_of sz27 ⟨by decide, by decide⟩
  obtain ⟨T29, h29, X29, e29, W29, st29⟩ := stR X25 hx hZ e25 Ar27 (j := (0 : Int32)) hin28 rfl (Sto.ofV Ar27 qk27 O11 (Ins.self F26)) (g := (mkF m 10 #[.val (.int ip), .unset, .unset, .unset] [(.ref k0_), (.int (0 : Int32)), (.ref b11), (.ref b11)])) rfl rfl (hb hby at_10)
  have N29 := Fr.snoc X29 N0 ge11
  have F30 : Arv Z h29 b11 k11 (.object "com/example/whole_commit/wholecommit/Completions$Ending") (10 : Int32) [(.ref k0_), .null, .null, .null, .null, .null, .null, .null, .null, .null] .null := Arv.set Ar27 qk27 sz27 nn27 Ha27 Gf27 rfl W29 0 rfl (Nat.le_of_ble_eq_true rfl)
  refine Go.by st29 ?_
  show Go p e below _ (T29.setTop (mkF m 11 #[.val (.int ip), .unset, .unset, .unset] [(.ref b11)]))
  refine Go.by (fun t k => XS.dup X29.here hx rfl (hb hby at_11) rfl rfl k) ?_
  show Go p e below _ (T29.setTop (mkF m 12 #[.val (.int ip), .unset, .unset, .unset] [(.ref b11), (.ref b11)]))
  refine Go.by (fun t k => XS.iconst X29.here hx rfl (hb hby at_12) k) ?_
  show Go p e below _ (T29.setTop (mkF m 13 #[.val (.int ip), .unset, .unset, .unset] [(.int (1 : Int32)), (.ref b11), (.ref b11)]))
  have F32 : Old Z n0 h29 := (F24.wr W29 ge11)
  have F31 : Sta Z h29 "com/example/whole_commit/wholecommit/Completions$Ending" "COMMITTED_IN_ONE_PHASE" "Lcom/example/whole_commit/wholecommit/Completions$Ending;" (.ref k1_) := P1.ext F32.2
  obtain ⟨T33, X33, e33, st33⟩ := getS2 X29 hx hZ hown (host := "") (Or.inl (hw _ (List.mem_of_getElem? (i := 6) rfl))) Via.refl e29 F31 (g := (mkF m 13 #[.val (.int ip), .unset, .unset, .unset] [(.int (1 : Int32)), (.ref b11), (.ref b11)])) rfl (hb hby at_13)
  refine Go.by st33 ?_
  show Go p e below _ (T33.setTop (mkF m 16 #[.val (.int ip), .unset, .unset, .unset] [(.ref k1_), (.int (1 : Int32)), (.ref b11), (.ref b11)]))
  have F34 : Exa Z h29 k1_ "com/example/whole_commit/wholecommit/Completions$Ending" := P11.ext F32.2
  obtain ⟨cl35, Ar35, qk35, sz35, nn35, Ha35, Gf35⟩ := F30
  have hin36 : ¬ ((1 : Int32) < 0 ∨ cl35.slots.size ≤ ((1 : Int32)).toNatClampNeg) := inb_of sz35 ⟨by decide, by decide⟩
  obtain ⟨T37, h37, X37, e37, W37, st37⟩ := stR X33 hx hZ e33 Ar35 (j := (1 : Int32)) hin36 rfl (Sto.ofV Ar35 qk35 O11 (Ins.self F34)) (g := (mkF m 16 #[.val (.int ip), .unset, .unset, .unset] [(.ref k1_), (.int (1 : Int32)), (.ref b11), (.ref b11)])) rfl rfl (hb hby at_16)
  have N37 := Fr.snoc X37 N29 ge11
  have F38 : Arv Z h37 b11 k11 (.object "com/example/whole_commit/wholecommit/Completions$Ending") (10 : Int32) [(.ref k0_), (.ref k1_), .null, .null, .null, .null, .null, .null, .null, .null] .null := Arv.set Ar35 qk35 sz35 nn35 Ha35 Gf35 rfl W37 1 rfl (Nat.le_of_ble_eq_true rfl)
  refine Go.by st37 ?_
  show Go p e below _ (T37.setTop (mkF m 17 #[.val (.int ip), .unset, .unset, .unset] [(.ref b11)]))
  refine Go.by (fun t k => XS.dup X37.here hx rfl (hb hby at_17) rfl rfl k) ?_
  show Go p e below _ (T37.setTop (mkF m 18 #[.val (.int ip), .unset, .unset, .unset] [(.ref b11), (.ref b11)]))
  refine Go.by (fun t k => XS.iconst X37.here hx rfl (hb hby at_18) k) ?_
  show Go p e below _ (T37.setTop (mkF m 19 #[.val (.int ip), .unset, .unset, .unset] [(.int (2 : Int32)), (.ref b11), (.ref b11)]))
  have F40 : Old Z n0 h37 := (F32.wr W37 ge11)
  have F39 : Sta Z h37 "com/example/whole_commit/wholecommit/Completions$Ending" "ROLLED_BACK_BY_THE_APPLICATION" "Lcom/example/whole_commit/wholecommit/Completions$Ending;" (.ref k2_) := P2.ext F40.2
  obtain ⟨T41, X41, e41, st41⟩ := getS2 X37 hx hZ hown (host := "") (Or.inl (hw _ (List.mem_of_getElem? (i := 8) rfl))) Via.refl e37 F39 (g := (mkF m 19 #[.val (.int ip), .unset, .unset, .unset] [(.int (2 : Int32)), (.ref b11), (.ref b11)])) rfl (hb hby at_19)
  refine Go.by st41 ?_
  show Go p e below _ (T41.setTop (mkF m 22 #[.val (.int ip), .unset, .unset, .unset] [(.ref k2_), (.int (2 : Int32)), (.ref b11), (.ref b11)]))
  have F42 : Exa Z h37 k2_ "com/example/whole_commit/wholecommit/Completions$Ending" := P12.ext F40.2
  obtain ⟨cl43, Ar43, qk43, sz43, nn43, Ha43, Gf43⟩ := F38
  have hin44 : ¬ ((2 : Int32) < 0 ∨ cl43.slots.size ≤ ((2 : Int32)).toNatClampNeg) := inb_of sz43 ⟨by decide, by decide⟩
  obtain ⟨T45, h45, X45, e45, W45, st45⟩ := stR X41 hx hZ e41 Ar43 (j := (2 : Int32)) hin44 rfl (Sto.ofV Ar43 qk43 O11 (Ins.self F42)) (g := (mkF m 22 #[.val (.int ip), .unset, .unset, .unset] [(.ref k2_), (.int (2 : Int32)), (.ref b11), (.ref b11)])) rfl rfl (hb hby at_22)
  have N45 := Fr.snoc X45 N37 ge11
  have F46 : Arv Z h45 b11 k11 (.object "com/example/whole_commit/wholecommit/Completions$Ending") (10 : Int32) [(.ref k0_), (.ref k1_), (.ref k2_), .null, .null, .null, .null, .null, .null, .null] .null := Arv.set Ar43 qk43 sz43 nn43 Ha43 Gf43 rfl W45 2 rfl (Nat.le_of_ble_eq_true rfl)
  refine Go.by st45 ?_
  show Go p e below _ (T45.setTop (mkF m 23 #[.val (.int ip), .unset, .unset, .unset] [(.ref b11)]))
  refine Go.by (fun t k => XS.dup X45.here hx rfl (hb hby at_23) rfl rfl k) ?_
  show Go p e below _ (T45.setTop (mkF m 24 #[.val (.int ip), .unset, .unset, .unset] [(.ref b11), (.ref b11)]))
  refine Go.by (fun t k => XS.iconst X45.here hx rfl (hb hby at_24) k) ?_
  show Go p e below _ (T45.setTop (mkF m 25 #[.val (.int ip), .unset, .unset, .unset] [(.int (3 : Int32)), (.ref b11), (.ref b11)]))
  have F48 : Old Z n0 h45 := (F40.wr W45 ge11)
  have F47 : Sta Z h45 "com/example/whole_commit/wholecommit/Completions$Ending" "ROLLED_BACK_BY_A_BRANCH" "Lcom/example/whole_commit/wholecommit/Completions$Ending;" (.ref k3_) := P3.ext F48.2
  obtain ⟨T49, X49, e49, st49⟩ := getS2 X45 hx hZ hown (host := "") (Or.inl (hw _ (List.mem_of_getElem? (i := 10) rfl))) Via.refl e45 F47 (g := (mkF m 25 #[.val (.int ip), .unset, .unset, .unset] [(.int (3 : Int32)), (.ref b11), (.ref b11)])) rfl (hb hby at_25)
  refine Go.by st49 ?_
  show Go p e below _ (T49.setTop (mkF m 28 #[.val (.int ip), .unset, .unset, .unset] [(.ref k3_), (.int (3 : Int32)), (.ref b11), (.ref b11)]))
  have F50 : Exa Z h45 k3_ "com/example/whole_commit/wholecommit/Completions$Ending" := P13.ext F48.2
  obtain ⟨cl51, Ar51, qk51, sz51, nn51, Ha51, Gf51⟩ := F46
  have hin52 : ¬ ((3 : Int32) < 0 ∨ cl51.slots.size ≤ ((3 : Int32)).toNatClampNeg) := inb_of sz51 ⟨by decide, by decide⟩
  obtain ⟨T53, h53, X53, e53, W53, st53⟩ := stR X49 hx hZ e49 Ar51 (j := (3 : Int32)) hin52 rfl (Sto.ofV Ar51 qk51 O11 (Ins.self F50)) (g := (mkF m 28 #[.val (.int ip), .unset, .unset, .unset] [(.ref k3_), (.int (3 : Int32)), (.ref b11), (.ref b11)])) rfl rfl (hb hby at_28)
  have N53 := Fr.snoc X53 N45 ge11
  have F54 : Arv Z h53 b11 k11 (.object "com/example/whole_commit/wholecommit/Completions$Ending") (10 : Int32) [(.ref k0_), (.ref k1_), (.ref k2_), (.ref k3_), .null, .null, .null, .null, .null, .null] .null := Arv.set Ar51 qk51 sz51 nn51 Ha51 Gf51 rfl W53 3 rfl (Nat.le_of_ble_eq_true rfl)
  refine Go.by st53 ?_
  show Go p e below _ (T53.setTop (mkF m 29 #[.val (.int ip), .unset, .unset, .unset] [(.ref b11)]))
  refine Go.by (fun t k => XS.dup X53.here hx rfl (hb hby at_29) rfl rfl k) ?_
  show Go p e below _ (T53.setTop (mkF m 30 #[.val (.int ip), .unset, .unset, .unset] [(.ref b11), (.ref b11)]))
  refine Go.by (fun t k => XS.iconst X53.here hx rfl (hb hby at_30) k) ?_
  show Go p e below _ (T53.setTop (mkF m 31 #[.val (.int ip), .unset, .unset, .unset] [(.int (4 : Int32)), (.ref b11), (.ref b11)]))
  have F56 : Old Z n0 h53 := (F48.wr W53 ge11)
  have F55 : Sta Z h53 "com/example/whole_commit/wholecommit/Completions$Ending" "ROLLED_BACK_ON_TIMEOUT_OR_ROLLBACK_ONLY" "Lcom/example/whole_commit/wholecommit/Completions$Ending;" (.ref k4_) := P4.ext F56.2
  obtain ⟨T57, X57, e57, st57⟩ := getS2 X53 hx hZ hown (host := "") (Or.inl (hw _ (List.mem_of_getElem? (i := 12) rfl))) Via.refl e53 F55 (g := (mkF m 31 #[.val (.int ip), .unset, .unset, .unset] [(.int (4 : Int32)), (.ref b11), (.ref b11)])) rfl (hb hby at_31)
  refine Go.by st57 ?_
  show Go p e below _ (T57.setTop (mkF m 34 #[.val (.int ip), .unset, .unset, .unset] [(.ref k4_), (.int (4 : Int32)), (.ref b11), (.ref b11)]))
  have F58 : Exa Z h53 k4_ "com/example/whole_commit/wholecommit/Completions$Ending" := P14.ext F56.2
  obtain ⟨cl59, Ar59, qk59, sz59, nn59, Ha59, Gf59⟩ := F54
  have hin60 : ¬ ((4 : Int32) < 0 ∨ cl59.slots.size ≤ ((4 : Int32)).toNatClampNeg) := inb_of sz59 ⟨by decide, by decide⟩
  obtain ⟨T61, h61, X61, e61, W61, st61⟩ := stR X57 hx hZ e57 Ar59 (j := (4 : Int32)) hin60 rfl (Sto.ofV Ar59 qk59 O11 (Ins.self F58)) (g := (mkF m 34 #[.val (.int ip), .unset, .unset, .unset] [(.ref k4_), (.int (4 : Int32)), (.ref b11), (.ref b11)])) rfl rfl (hb hby at_34)
  have N61 := Fr.snoc X61 N53 ge11
  have F62 : Arv Z h61 b11 k11 (.object "com/example/whole_commit/wholecommit/Completions$Ending") (10 : Int32) [(.ref k0_), (.ref k1_), (.ref k2_), (.ref k3_), (.ref k4_), .null, .null, .null, .null, .null] .null := Arv.set Ar59 qk59 sz59 nn59 Ha59 Gf59 rfl W61 4 rfl (Nat.le_of_ble_eq_true rfl)
  refine Go.by st61 ?_
  show Go p e below _ (T61.setTop (mkF m 35 #[.val (.int ip), .unset, .unset, .unset] [(.ref b11)]))
  refine Go.by (fun t k => XS.dup X61.here hx rfl (hb hby at_35) rfl rfl k) ?_
  show Go p e below _ (T61.setTop (mkF m 36 #[.val (.int ip), .unset, .unset, .unset] [(.ref b11), (.ref b11)]))
  refine Go.by (fun t k => XS.iconst X61.here hx rfl (hb hby at_36) k) ?_
  show Go p e below _ (T61.setTop (mkF m 37 #[.val (.int ip), .unset, .unset, .unset] [(.int (5 : Int32)), (.ref b11), (.ref b11)]))
  have F64 : Old Z n0 h61 := (F56.wr W61 ge11)
  have F63 : Sta Z h61 "com/example/whole_commit/wholecommit/Completions$Ending" "ROLLED_BACK_OTHERWISE" "Lcom/example/whole_commit/wholecommit/Completions$Ending;" (.ref k5_) := P5.ext F64.2
  obtain ⟨T65, X65, e65, st65⟩ := getS2 X61 hx hZ hown (host := "") (Or.inl (hw _ (List.mem_of_getElem? (i := 14) rfl))) Via.refl e61 F63 (g := (mkF m 37 #[.val (.int ip), .unset, .unset, .unset] [(.int (5 : Int32)), (.ref b11), (.ref b11)])) rfl (hb hby at_37)
  refine Go.by st65 ?_
  show Go p e below _ (T65.setTop (mkF m 40 #[.val (.int ip), .unset, .unset, .unset] [(.ref k5_), (.int (5 : Int32)), (.ref b11), (.ref b11)]))
  have F66 : Exa Z h61 k5_ "com/example/whole_commit/wholecommit/Completions$Ending" := P15.ext F64.2
  obtain ⟨cl67, Ar67, qk67, sz67, nn67, Ha67, Gf67⟩ := F62
  have hin68 : ¬ ((5 : Int32) < 0 ∨ cl67.slots.size ≤ ((5 : Int32)).toNatClampNeg) := inb_of sz67 ⟨by decide, by decide⟩
  obtain ⟨T69, h69, X69, e69, W69, st69⟩ := stR X65 hx hZ e65 Ar67 (j := (5 : Int32)) hin68 rfl (Sto.ofV Ar67 qk67 O11 (Ins.self F66)) (g := (mkF m 40 #[.val (.int ip), .unset, .unset, .unset] [(.ref k5_), (.int (5 : Int32)), (.ref b11), (.ref b11)])) rfl rfl (hb hby at_40)
  have N69 := Fr.snoc X69 N61 ge11
  have F70 : Arv Z h69 b11 k11 (.object "com/example/whole_commit/wholecommit/Completions$Ending") (10 : Int32) [(.ref k0_), (.ref k1_), (.ref k2_), (.ref k3_), (.ref k4_), (.ref k5_), .null, .null, .null, .null] .null := Arv.set Ar67 qk67 sz67 nn67 Ha67 Gf67 rfl W69 5 rfl (Nat.le_of_ble_eq_true rfl)
  refine Go.by st69 ?_
  show Go p e below _ (T69.setTop (mkF m 41 #[.val (.int ip), .unset, .unset, .unset] [(.ref b11)]))
  refine Go.by (fun t k => XS.dup X69.here hx rfl (hb hby at_41) rfl rfl k) ?_
  show Go p e below _ (T69.setTop (mkF m 42 #[.val (.int ip), .unset, .unset, .unset] [(.ref b11), (.ref b11)]))
  refine Go.by (fun t k => XS.bipush X69.here hx rfl (hb hby at_42) k) ?_
  show Go p e below _ (T69.setTop (mkF m 44 #[.val (.int ip), .unset, .unset, .unset] [(.int (6 : Int32)), (.ref b11), (.ref b11)]))
  have F72 : Old Z n0 h69 := (F64.wr W69 ge11)
  have F71 : Sta Z h69 "com/example/whole_commit/wholecommit/Completions$Ending" "HEURISTIC_MIXED" "Lcom/example/whole_commit/wholecommit/Completions$Ending;" (.ref k6_) := P6.ext F72.2
  obtain ⟨T73, X73, e73, st73⟩ := getS2 X69 hx hZ hown (host := "") (Or.inl (hw _ (List.mem_of_getElem? (i := 16) rfl))) Via.refl e69 F71 (g := (mkF m 44 #[.val (.int ip), .unset, .unset, .unset] [(.int (6 : Int32)), (.ref b11), (.ref b11)])) rfl (hb hby at_44)
  refine Go.by st73 ?_
  show Go p e below _ (T73.setTop (mkF m 47 #[.val (.int ip), .unset, .unset, .unset] [(.ref k6_), (.int (6 : Int32)), (.ref b11), (.ref b11)]))
  have F74 : Exa Z h69 k6_ "com/example/whole_commit/wholecommit/Completions$Ending" := P16.ext F72.2
  obtain ⟨cl75, Ar75, qk75, sz75, nn75, Ha75, Gf75⟩ := F70
  have hin76 : ¬ ((6 : Int32) < 0 ∨ cl75.slots.size ≤ ((6 : Int32)).toNatClampNeg) := inb_of sz75 ⟨by decide, by decide⟩
  obtain ⟨T77, h77, X77, e77, W77, st77⟩ := stR X73 hx hZ e73 Ar75 (j := (6 : Int32)) hin76 rfl (Sto.ofV Ar75 qk75 O11 (Ins.self F74)) (g := (mkF m 47 #[.val (.int ip), .unset, .unset, .unset] [(.ref k6_), (.int (6 : Int32)), (.ref b11), (.ref b11)])) rfl rfl (hb hby at_47)
  have N77 := Fr.snoc X77 N69 ge11
  have F78 : Arv Z h77 b11 k11 (.object "com/example/whole_commit/wholecommit/Completions$Ending") (10 : Int32) [(.ref k0_), (.ref k1_), (.ref k2_), (.ref k3_), (.ref k4_), (.ref k5_), (.ref k6_), .null, .null, .null] .null := Arv.set Ar75 qk75 sz75 nn75 Ha75 Gf75 rfl W77 6 rfl (Nat.le_of_ble_eq_true rfl)
  refine Go.by st77 ?_
  show Go p e below _ (T77.setTop (mkF m 48 #[.val (.int ip), .unset, .unset, .unset] [(.ref b11)]))
  refine Go.by (fun t k => XS.dup X77.here hx rfl (hb hby at_48) rfl rfl k) ?_
  show Go p e below _ (T77.setTop (mkF m 49 #[.val (.int ip), .unset, .unset, .unset] [(.ref b11), (.ref b11)]))
  refine Go.by (fun t k => XS.bipush X77.here hx rfl (hb hby at_49) k) ?_
  show Go p e below _ (T77.setTop (mkF m 51 #[.val (.int ip), .unset, .unset, .unset] [(.int (7 : Int32)), (.ref b11), (.ref b11)]))
  have F80 : Old Z n0 h77 := (F72.wr W77 ge11)
  have F79 : Sta Z h77 "com/example/whole_commit/wholecommit/Completions$Ending" "HEURISTIC_ROLLBACK" "Lcom/example/whole_commit/wholecommit/Completions$Ending;" (.ref k7_) := P7.ext F80.2
  obtain ⟨T81, X81, e81, st81⟩ := getS2 X77 hx hZ hown (host := "") (Or.inl (hw _ (List.mem_of_getElem? (i := 18) rfl))) Via.refl e77 F79 (g := (mkF m 51 #[.val (.int ip), .unset, .unset, .unset] [(.int (7 : Int32)), (.ref b11), (.ref b11)])) rfl (hb hby at_51)
  refine Go.by st81 ?_
  show Go p e below _ (T81.setTop (mkF m 54 #[.val (.int ip), .unset, .unset, .unset] [(.ref k7_), (.int (7 : Int32)), (.ref b11), (.ref b11)]))
  have F82 : Exa Z h77 k7_ "com/example/whole_commit/wholecommit/Completions$Ending" := P17.ext F80.2
  obtain ⟨cl83, Ar83, qk83, sz83, nn83, Ha83, Gf83⟩ := F78
  have hin84 : ¬ ((7 : Int32) < 0 ∨ cl83.slots.size ≤ ((7 : Int32)).toNatClampNeg) := inb_of sz83 ⟨by decide, by decide⟩
  obtain ⟨T85, h85, X85, e85, W85, st85⟩ := stR X81 hx hZ e81 Ar83 (j := (7 : Int32)) hin84 rfl (Sto.ofV Ar83 qk83 O11 (Ins.self F82)) (g := (mkF m 54 #[.val (.int ip), .unset, .unset, .unset] [(.ref k7_), (.int (7 : Int32)), (.ref b11), (.ref b11)])) rfl rfl (hb hby at_54)
  have N85 := Fr.snoc X85 N77 ge11
  have F86 : Arv Z h85 b11 k11 (.object "com/example/whole_commit/wholecommit/Completions$Ending") (10 : Int32) [(.ref k0_), (.ref k1_), (.ref k2_), (.ref k3_), (.ref k4_), (.ref k5_), (.ref k6_), (.ref k7_), .null, .null] .null := Arv.set Ar83 qk83 sz83 nn83 Ha83 Gf83 rfl W85 7 rfl (Nat.le_of_ble_eq_true rfl)
  refine Go.by st85 ?_
  show Go p e below _ (T85.setTop (mkF m 55 #[.val (.int ip), .unset, .unset, .unset] [(.ref b11)]))
  refine Go.by (fun t k => XS.dup X85.here hx rfl (hb hby at_55) rfl rfl k) ?_
  show Go p e below _ (T85.setTop (mkF m 56 #[.val (.int ip), .unset, .unset, .unset] [(.ref b11), (.ref b11)]))
  refine Go.by (fun t k => XS.bipush X85.here hx rfl (hb hby at_56) k) ?_
  show Go p e below _ (T85.setTop (mkF m 58 #[.val (.int ip), .unset, .unset, .unset] [(.int (8 : Int32)), (.ref b11), (.ref b11)]))
  have F88 : Old Z n0 h85 := (F80.wr W85 ge11)
  have F87 : Sta Z h85 "com/example/whole_commit/wholecommit/Completions$Ending" "HEURISTIC_HAZARD" "Lcom/example/whole_commit/wholecommit/Completions$Ending;" (.ref k8_) := P8.ext F88.2
  obtain ⟨T89, X89, e89, st89⟩ := getS2 X85 hx hZ hown (host := "") (Or.inl (hw _ (List.mem_of_getElem? (i := 20) rfl))) Via.refl e85 F87 (g := (mkF m 58 #[.val (.int ip), .unset, .unset, .unset] [(.int (8 : Int32)), (.ref b11), (.ref b11)])) rfl (hb hby at_58)
  refine Go.by st89 ?_
  show Go p e below _ (T89.setTop (mkF m 61 #[.val (.int ip), .unset, .unset, .unset] [(.ref k8_), (.int (8 : Int32)), (.ref b11), (.ref b11)]))
  have F90 : Exa Z h85 k8_ "com/example/whole_commit/wholecommit/Completions$Ending" := P18.ext F88.2
  obtain ⟨cl91, Ar91, qk91, sz91, nn91, Ha91, Gf91⟩ := F86
  have hin92 : ¬ ((8 : Int32) < 0 ∨ cl91.slots.size ≤ ((8 : Int32)).toNatClampNeg) := inb_of sz91 ⟨by decide, by decide⟩
  obtain ⟨T93, h93, X93, e93, W93, st93⟩ := stR X89 hx hZ e89 Ar91 (j := (8 : Int32)) hin92 rfl (Sto.ofV Ar91 qk91 O11 (Ins.self F90)) (g := (mkF m 61 #[.val (.int ip), .unset, .unset, .unset] [(.ref k8_), (.int (8 : Int32)), (.ref b11), (.ref b11)])) rfl rfl (hb hby at_61)
  have N93 := Fr.snoc X93 N85 ge11
  have F94 : Arv Z h93 b11 k11 (.object "com/example/whole_commit/wholecommit/Completions$Ending") (10 : Int32) [(.ref k0_), (.ref k1_), (.ref k2_), (.ref k3_), (.ref k4_), (.ref k5_), (.ref k6_), (.ref k7_), (.ref k8_), .null] .null := Arv.set Ar91 qk91 sz91 nn91 Ha91 Gf91 rfl W93 8 rfl (Nat.le_of_ble_eq_true rfl)
  refine Go.by st93 ?_
  show Go p e below _ (T93.setTop (mkF m 62 #[.val (.int ip), .unset, .unset, .unset] [(.ref b11)]))
  refine Go.by (fun t k => XS.dup X93.here hx rfl (hb hby at_62) rfl rfl k) ?_
  show Go p e below _ (T93.setTop (mkF m 63 #[.val (.int ip), .unset, .unset, .unset] [(.ref b11), (.ref b11)]))
  refine Go.by (fun t k => XS.bipush X93.here hx rfl (hb hby at_63) k) ?_
  show Go p e below _ (T93.setTop (mkF m 65 #[.val (.int ip), .unset, .unset, .unset] [(.int (9 : Int32)), (.ref b11), (.ref b11)]))
  have F96 : Old Z n0 h93 := (F88.wr W93 ge11)
  have F95 : Sta Z h93 "com/example/whole_commit/wholecommit/Completions$Ending" "OUTCOME_UNKNOWN" "Lcom/example/whole_commit/wholecommit/Completions$Ending;" (.ref k9_) := P9.ext F96.2
  obtain ⟨T97, X97, e97, st97⟩ := getS2 X93 hx hZ hown (host := "") (Or.inl (hw _ (List.mem_of_getElem? (i := 22) rfl))) Via.refl e93 F95 (g := (mkF m 65 #[.val (.int ip), .unset, .unset, .unset] [(.int (9 : Int32)), (.ref b11), (.ref b11)])) rfl (hb hby at_65)
  refine Go.by st97 ?_
  show Go p e below _ (T97.setTop (mkF m 68 #[.val (.int ip), .unset, .unset, .unset] [(.ref k9_), (.int (9 : Int32)), (.ref b11), (.ref b11)]))
  have F98 : Exa Z h93 k9_ "com/example/whole_commit/wholecommit/Completions$Ending" := P19.ext F96.2
  obtain ⟨cl99, Ar99, qk99, sz99, nn99, Ha99, Gf99⟩ := F94
  have hin100 : ¬ ((9 : Int32) < 0 ∨ cl99.slots.size ≤ ((9 : Int32)).toNatClampNeg) := inb_of sz99 ⟨by decide, by decide⟩
  obtain ⟨T101, h101, X101, e101, W101, st101⟩ := stR X97 hx hZ e97 Ar99 (j := (9 : Int32)) hin100 rfl (Sto.ofV Ar99 qk99 O11 (Ins.self F98)) (g := (mkF m 68 #[.val (.int ip), .unset, .unset, .unset] [(.ref k9_), (.int (9 : Int32)), (.ref b11), (.ref b11)])) rfl rfl (hb hby at_68)
  have N101 := Fr.snoc X101 N93 ge11
  have F102 : Arv Z h101 b11 k11 (.object "com/example/whole_commit/wholecommit/Completions$Ending") (10 : Int32) [(.ref k0_), (.ref k1_), (.ref k2_), (.ref k3_), (.ref k4_), (.ref k5_), (.ref k6_), (.ref k7_), (.ref k8_), (.ref k9_)] .null := Arv.set Ar99 qk99 sz99 nn99 Ha99 Gf99 rfl W101 9 rfl (Nat.le_of_ble_eq_true rfl)
  refine Go.by st101 ?_
  show Go p e below _ (T101.setTop (mkF m 69 #[.val (.int ip), .unset, .unset, .unset] [(.ref b11)]))
  refine Go.by (fun t k => XS.astoreN X101.here hx rfl (hb hby at_69) rfl rfl (l' := #[.val (.int ip), .val (.ref b11), .unset, .unset]) rfl k) ?_
  show Go p e below _ (T101.setTop (mkF m 70 #[.val (.int ip), .val (.ref b11), .unset, .unset] []))
  refine Go.by (fun t k => XS.iloadN X101.here hx rfl (hb hby at_70) rfl k) ?_
  show Go p e below _ (T101.setTop (mkF m 71 #[.val (.int ip), .val (.ref b11), .unset, .unset] [(.int ip)]))
  refine Go.by (fun t k => X101.ldcInt hx hown (mvT hZ (hw _ (List.mem_of_getElem? (i := 24) rfl))) (g := (mkF m 71 #[.val (.int ip), .val (.ref b11), .unset, .unset] [(.int ip)])) rfl (hb hby at_71) t k) ?_
  show Go p e below _ (T101.setTop (mkF m 73 #[.val (.int ip), .val (.ref b11), .unset, .unset] [(.int (2147483647 : Int32)), (.int ip)]))
  refine Go.by (fun t k => XS.iand X101.here hx rfl (hb hby at_73) rfl k) ?_
  show Go p e below _ (T101.setTop (mkF m 74 #[.val (.int ip), .val (.ref b11), .unset, .unset] [(.int (ip &&& (2147483647 : Int32)))]))
  refine Go.by (fun t k => XS.bipush X101.here hx rfl (hb hby at_74) k) ?_
  show Go p e below _ (T101.setTop (mkF m 76 #[.val (.int ip), .val (.ref b11), .unset, .unset] [(.int (10 : Int32)), (.int (ip &&& (2147483647 : Int32)))]))
  refine Go.by (fun t k => iremM X101 hx rfl (hb hby at_76) rfl (by decide) k) ?_
  show Go p e below _ (T101.setTop (mkF m 77 #[.val (.int ip), .val (.ref b11), .unset, .unset] [(.int ((ip &&& (2147483647 : Int32)) % (10 : Int32)))]))
  refine Go.by (fun t k => XS.istoreN X101.here hx rfl (hb hby at_77) rfl (l' := #[.val (.int ip), .val (.ref b11), .val (.int ((ip &&& (2147483647 : Int32)) % (10 : Int32))), .unset]) rfl k) ?_
  show Go p e below _ (T101.setTop (mkF m 78 #[.val (.int ip), .val (.ref b11), .val (.int ((ip &&& (2147483647 : Int32)) % (10 : Int32))), .unset] []))
  have J78 : ∀ (j_k : Int32) (hk : j_k = (0 : Int32) ∨ j_k = (1 : Int32) ∨ j_k = (2 : Int32) ∨ j_k = (3 : Int32) ∨ j_k = (4 : Int32) ∨ j_k = (5 : Int32) ∨ j_k = (6 : Int32) ∨ j_k = (7 : Int32) ∨ j_k = (8 : Int32) ∨ j_k = (9 : Int32)), Go p e below (fun o U' => ∃ v L, o = .returned v ∧ Q_law Z ip k0_ k1_ k2_ k3_ k4_ k5_ k6_ k7_ k8_ k9_ h0 n0 v U'.heap L ∧ FrameEnd s o U' L room_1.cells room_1.slots) (T101.setTop (mkF m 78 #[.val (.int ip), .val (.ref b11), .val (.int j_k), .unset] [])) := by
    intro j_k hk
    show Go p e below _ (T101.setTop (mkF m 78 #[.val (.int ip), .val (.ref b11), .val (.int j_k), .unset] []))
    rcases hk with rfl | rfl | rfl | rfl | rfl | rfl | rfl | rfl | rfl | rfl
    · skip
      show Go p e below _ (T101.setTop (mkF m 78 #[.val (.int ip), .val (.ref b11), .val (.int (0 : Int32)), .unset] []))
      refine Go.by (fun t k => XS.iloadN X101.here hx rfl (hb hby at_78) rfl k) ?_
      show Go p e below _ (T101.setTop (mkF m 79 #[.val (.int ip), .val (.ref b11), .val (.int (0 : Int32)), .unset] [(.int (0 : Int32))]))
      refine Go.by (fun t k => XS.ifYes X101.here hx rfl (pc0 := 79) (pc' := 87) rfl (hb hby at_79) rfl ((if0 _ _).trans (teq rfl).1) (by decide) (by decide) k) ?_
      show Go p e below _ (T101.setTop (mkF m 87 #[.val (.int ip), .val (.ref b11), .val (.int (0 : Int32)), .unset] []))
      refine Go.by (fun t k => XS.iconst X101.here hx rfl (hb hby at_87) k) ?_
      show Go p e below _ (T101.setTop (mkF m 88 #[.val (.int ip), .val (.ref b11), .val (.int (0 : Int32)), .unset] [(.int (1 : Int32))]))
      refine Go.by (fun t k => XS.goto X101.here hx rfl (pc0 := 88) (pc' := 92) rfl (hb hby at_88) (by decide) (by decide) k) ?_
      show Go p e below _ (T101.setTop (mkF m 92 #[.val (.int ip), .val (.ref b11), .val (.int (0 : Int32)), .unset] [(.int (1 : Int32))]))
      refine Go.by (fun t k => XS.istoreN X101.here hx rfl (hb hby at_92) rfl (l' := #[.val (.int ip), .val (.ref b11), .val (.int (0 : Int32)), .val (.int (1 : Int32))]) rfl k) ?_
      show Go p e below _ (T101.setTop (mkF m 93 #[.val (.int ip), .val (.ref b11), .val (.int (0 : Int32)), .val (.int (1 : Int32))] []))
      refine Go.by (fun t k => XS.aloadN X101.here hx rfl (hb hby at_93) rfl rfl k) ?_
      show Go p e below _ (T101.setTop (mkF m 94 #[.val (.int ip), .val (.ref b11), .val (.int (0 : Int32)), .val (.int (1 : Int32))] [(.ref b11)]))
      refine Go.by (fun t k => XS.iloadN X101.here hx rfl (hb hby at_94) rfl k) ?_
      show Go p e below _ (T101.setTop (mkF m 95 #[.val (.int ip), .val (.ref b11), .val (.int (0 : Int32)), .val (.int (1 : Int32))] [(.int (0 : Int32)), (.ref b11)]))
      obtain ⟨cl103, Ar103, qk103, sz103, nn103, Ha103, Gf103⟩ := F102
      have hin104 : ¬ ((0 : Int32) < 0 ∨ cl103.slots.size ≤ ((0 : Int32)).toNatClampNeg) := inb_of sz103 ⟨by decide, by decide⟩
      have hat105 : cl103.slots[((0 : Int32)).toNatClampNeg]? = some (.ref k0_) := Has.at Ha103 hin104 rfl
      refine Go.by (fun t k => X101.aaload hx (j := (0 : Int32)) (v := (.ref k0_)) (by rw [e101]; exact Ar103.1) (State.isArrayOf_alike hZ.alike Ar103.2.1) rfl Ar103.2.2 hin104 hat105 (g := (mkF m 95 #[.val (.int ip), .val (.ref b11), .val (.int (0 : Int32)), .val (.int (1 : Int32))] [(.int (0 : Int32)), (.ref b11)])) rfl rfl (hb hby at_95) t k) ?_
      show Go p e below _ (T101.setTop (mkF m 96 #[.val (.int ip), .val (.ref b11), .val (.int (0 : Int32)), .val (.int (1 : Int32))] [(.ref k0_)]))
      have F107 : Old Z n0 h101 := (F96.wr W101 ge11)
      have F108 : Keep h0 h101 [] := ((((((((((((Keep.refl h0 []).ext E11).wr W29 (Or.inr sz11)).wr W37 (Or.inr sz11)).wr W45 (Or.inr sz11)).wr W53 (Or.inr sz11)).wr W61 (Or.inr sz11)).wr W69 (Or.inr sz11)).wr W77 (Or.inr sz11)).wr W85 (Or.inr sz11)).wr W93 (Or.inr sz11)).wr W101 (Or.inr sz11))
      have F109 : Exa Z h101 k0_ "com/example/whole_commit/wholecommit/Completions$Ending" := P10.ext F107.2
      obtain ⟨cq106, kq106, q106a, q106b, q106c⟩ := isOf hZ e101 F109
      obtain ⟨_, _, ⟨T106, L106, k106, n106⟩, -, X106, ⟨Lc106, hQ106, l106, y106, z106⟩, st106⟩ := X101.virtualBack hx (y := (⟨"com/example/whole_commit/wholecommit/Completions$Ending", "committed", "()Z"⟩ : MethodName)) (z := (⟨"com/example/whole_commit/wholecommit/Completions$Ending", "committed", "()Z"⟩ : MethodName)) hown (mvT hZ (hw _ (List.mem_of_getElem? (i := 25) rfl))) (mvT hZ (hw _ (List.mem_of_getElem? (i := 26) rfl))) (notFace_of_selects (args := #[]) (mvT hZ (hw _ (List.mem_of_getElem? (i := 28) rfl)))) (mvT hZ (hw _ (List.mem_of_getElem? (i := 28) rfl))) (mvT hZ (hw _ (List.mem_of_getElem? (i := 27) rfl))) (by decide) (backOf (W := 0) (com_0 l Z a0 hw [] k0_ k1_ h101 n0 F107 P0 P1) hZ (hw _ (List.mem_of_getElem? (i := 29) rfl)) (hw _ (List.mem_of_getElem? (i := 3) rfl)) (by decide) (by decide)) q106a q106c (g := (mkF m 96 #[.val (.int ip), .val (.ref b11), .val (.int (0 : Int32)), .val (.int (1 : Int32))] [(.ref k0_)])) rfl (by rw [hml]; rfl) (Steps.refl _) (argsL := []) (rest := []) (lenOf pd_0 rfl) rfl (by show 2 * 0 + _ ≤ _; exact Nat.le_of_eq rfl) (hb hby at_96) (fun _ _ => ⟨rfl, e101, (by decide : 1 + 0 ≤ _), (by decide : 10 + 0 ≤ _)⟩)
      dsimp only [Pt.U, Pt.locs, Pt.cells, Pt.slots] at X106 l106 y106 z106 st106 hQ106
      subst l106 y106 z106
      obtain ⟨rfl, N106q, e106⟩ := hQ106
      have N106 := Fr.app N101 N106q
      refine Go.tr st106 ?_
      show Go p e below _ (T106.setTop (mkF m 99 #[.val (.int ip), .val (.ref b11), .val (.int (0 : Int32)), .val (.int (1 : Int32))] [(.int (1 : Int32))]))
      refine Go.by (fun t k => XS.iloadN X106.here hx rfl (hb hby at_99) rfl k) ?_
      show Go p e below _ (T106.setTop (mkF m 100 #[.val (.int ip), .val (.ref b11), .val (.int (0 : Int32)), .val (.int (1 : Int32))] [(.int (1 : Int32)), (.int (1 : Int32))]))
      refine Go.by (fun t k => XS.icmpNo X106.here hx rfl (hb hby at_100) rfl (teq rfl).2 k) ?_
      show Go p e below _ (T106.setTop (mkF m 103 #[.val (.int ip), .val (.ref b11), .val (.int (0 : Int32)), .val (.int (1 : Int32))] []))
      refine Go.by (fun t k => XS.iconst X106.here hx rfl (hb hby at_103) k) ?_
      show Go p e below _ (T106.setTop (mkF m 104 #[.val (.int ip), .val (.ref b11), .val (.int (0 : Int32)), .val (.int (1 : Int32))] [(.int (1 : Int32))]))
      refine Go.by (fun t k => XS.goto X106.here hx rfl (pc0 := 104) (pc' := 108) rfl (hb hby at_104) (by decide) (by decide) k) ?_
      show Go p e below _ (T106.setTop (mkF m 108 #[.val (.int ip), .val (.ref b11), .val (.int (0 : Int32)), .val (.int (1 : Int32))] [(.int (1 : Int32))]))
      have hq : Q_law Z ip k0_ k1_ k2_ k3_ k4_ k5_ k6_ k7_ k8_ k9_ h0 n0 (some (.int (nar .boolean (1 : Int32)))) h101 _ := ⟨rfl, N106, F108⟩
      exact Go.retN X106 hx (t := .boolean) Bd.returns (by simp) hlk (hb hby at_108) (by decide) (by decide) (by rw [e106]; exact hq)
    · skip
      show Go p e below _ (T101.setTop (mkF m 78 #[.val (.int ip), .val (.ref b11), .val (.int (1 : Int32)), .unset] []))
      refine Go.by (fun t k => XS.iloadN X101.here hx rfl (hb hby at_78) rfl k) ?_
      show Go p e below _ (T101.setTop (mkF m 79 #[.val (.int ip), .val (.ref b11), .val (.int (1 : Int32)), .unset] [(.int (1 : Int32))]))
      refine Go.by (fun t k => XS.ifNo X101.here hx rfl (hb hby at_79) rfl ((if0 _ _).trans (feq (by decide : ¬ ((1 : Int32) = (0 : Int32)))).1) k) ?_
      show Go p e below _ (T101.setTop (mkF m 82 #[.val (.int ip), .val (.ref b11), .val (.int (1 : Int32)), .unset] []))
      refine Go.by (fun t k => XS.iloadN X101.here hx rfl (hb hby at_82) rfl k) ?_
      show Go p e below _ (T101.setTop (mkF m 83 #[.val (.int ip), .val (.ref b11), .val (.int (1 : Int32)), .unset] [(.int (1 : Int32))]))
      refine Go.by (fun t k => XS.iconst X101.here hx rfl (hb hby at_83) k) ?_
      show Go p e below _ (T101.setTop (mkF m 84 #[.val (.int ip), .val (.ref b11), .val (.int (1 : Int32)), .unset] [(.int (1 : Int32)), (.int (1 : Int32))]))
      refine Go.by (fun t k => XS.icmpNo X101.here hx rfl (hb hby at_84) rfl (teq rfl).2 k) ?_
      show Go p e below _ (T101.setTop (mkF m 87 #[.val (.int ip), .val (.ref b11), .val (.int (1 : Int32)), .unset] []))
      refine Go.by (fun t k => XS.iconst X101.here hx rfl (hb hby at_87) k) ?_
      show Go p e below _ (T101.setTop (mkF m 88 #[.val (.int ip), .val (.ref b11), .val (.int (1 : Int32)), .unset] [(.int (1 : Int32))]))
      refine Go.by (fun t k => XS.goto X101.here hx rfl (pc0 := 88) (pc' := 92) rfl (hb hby at_88) (by decide) (by decide) k) ?_
      show Go p e below _ (T101.setTop (mkF m 92 #[.val (.int ip), .val (.ref b11), .val (.int (1 : Int32)), .unset] [(.int (1 : Int32))]))
      refine Go.by (fun t k => XS.istoreN X101.here hx rfl (hb hby at_92) rfl (l' := #[.val (.int ip), .val (.ref b11), .val (.int (1 : Int32)), .val (.int (1 : Int32))]) rfl k) ?_
      show Go p e below _ (T101.setTop (mkF m 93 #[.val (.int ip), .val (.ref b11), .val (.int (1 : Int32)), .val (.int (1 : Int32))] []))
      refine Go.by (fun t k => XS.aloadN X101.here hx rfl (hb hby at_93) rfl rfl k) ?_
      show Go p e below _ (T101.setTop (mkF m 94 #[.val (.int ip), .val (.ref b11), .val (.int (1 : Int32)), .val (.int (1 : Int32))] [(.ref b11)]))
      refine Go.by (fun t k => XS.iloadN X101.here hx rfl (hb hby at_94) rfl k) ?_
      show Go p e below _ (T101.setTop (mkF m 95 #[.val (.int ip), .val (.ref b11), .val (.int (1 : Int32)), .val (.int (1 : Int32))] [(.int (1 : Int32)), (.ref b11)]))
      obtain ⟨cl110, Ar110, qk110, sz110, nn110, Ha110, Gf110⟩ := F102
      have hin111 : ¬ ((1 : Int32) < 0 ∨ cl110.slots.size ≤ ((1 : Int32)).toNatClampNeg) := inb_of sz110 ⟨by decide, by decide⟩
      have hat112 : cl110.slots[((1 : Int32)).toNatClampNeg]? = some (.ref k1_) := Has.at Ha110 hin111 rfl
      refine Go.by (fun t k => X101.aaload hx (j := (1 : Int32)) (v := (.ref k1_)) (by rw [e101]; exact Ar110.1) (State.isArrayOf_alike hZ.alike Ar110.2.1) rfl Ar110.2.2 hin111 hat112 (g := (mkF m 95 #[.val (.int ip), .val (.ref b11), .val (.int (1 : Int32)), .val (.int (1 : Int32))] [(.int (1 : Int32)), (.ref b11)])) rfl rfl (hb hby at_95) t k) ?_
      show Go p e below _ (T101.setTop (mkF m 96 #[.val (.int ip), .val (.ref b11), .val (.int (1 : Int32)), .val (.int (1 : Int32))] [(.ref k1_)]))
      have F114 : Old Z n0 h101 := (F96.wr W101 ge11)
      have F115 : Keep h0 h101 [] := ((((((((((((Keep.refl h0 []).ext E11).wr W29 (Or.inr sz11)).wr W37 (Or.inr sz11)).wr W45 (Or.inr sz11)).wr W53 (Or.inr sz11)).wr W61 (Or.inr sz11)).wr W69 (Or.inr sz11)).wr W77 (Or.inr sz11)).wr W85 (Or.inr sz11)).wr W93 (Or.inr sz11)).wr W101 (Or.inr sz11))
      have F116 : Exa Z h101 k1_ "com/example/whole_commit/wholecommit/Completions$Ending" := P11.ext F114.2
      obtain ⟨cq113, kq113, q113a, q113b, q113c⟩ := isOf hZ e101 F116
      obtain ⟨_, _, ⟨T113, L113, k113, n113⟩, -, X113, ⟨Lc113, hQ113, l113, y113, z113⟩, st113⟩ := X101.virtualBack hx (y := (⟨"com/example/whole_commit/wholecommit/Completions$Ending", "committed", "()Z"⟩ : MethodName)) (z := (⟨"com/example/whole_commit/wholecommit/Completions$Ending", "committed", "()Z"⟩ : MethodName)) hown (mvT hZ (hw _ (List.mem_of_getElem? (i := 25) rfl))) (mvT hZ (hw _ (List.mem_of_getElem? (i := 26) rfl))) (notFace_of_selects (args := #[]) (mvT hZ (hw _ (List.mem_of_getElem? (i := 28) rfl)))) (mvT hZ (hw _ (List.mem_of_getElem? (i := 28) rfl))) (mvT hZ (hw _ (List.mem_of_getElem? (i := 27) rfl))) (by decide) (backOf (W := 0) (com_1 l Z a0 hw [] k1_ k0_ h101 n0 F114 P0 P1) hZ (hw _ (List.mem_of_getElem? (i := 29) rfl)) (hw _ (List.mem_of_getElem? (i := 3) rfl)) (by decide) (by decide)) q113a q113c (g := (mkF m 96 #[.val (.int ip), .val (.ref b11), .val (.int (1 : Int32)), .val (.int (1 : Int32))] [(.ref k1_)])) rfl (by rw [hml]; rfl) (Steps.refl _) (argsL := []) (rest := []) (lenOf pd_0 rfl) rfl (by show 2 * 0 + _ ≤ _; exact Nat.le_of_eq rfl) (hb hby at_96) (fun _ _ => ⟨rfl, e101, (by decide : 1 + 0 ≤ _), (by decide : 10 + 0 ≤ _)⟩)
      dsimp only [Pt.U, Pt.locs, Pt.cells, Pt.slots] at X113 l113 y113 z113 st113 hQ113
      subst l113 y113 z113
      obtain ⟨rfl, N113q, e113⟩ := hQ113
      have N113 := Fr.app N101 N113q
      refine Go.tr st113 ?_
      show Go p e below _ (T113.setTop (mkF m 99 #[.val (.int ip), .val (.ref b11), .val (.int (1 : Int32)), .val (.int (1 : Int32))] [(.int (1 : Int32))]))
      refine Go.by (fun t k => XS.iloadN X113.here hx rfl (hb hby at_99) rfl k) ?_
      show Go p e below _ (T113.setTop (mkF m 100 #[.val (.int ip), .val (.ref b11), .val (.int (1 : Int32)), .val (.int (1 : Int32))] [(.int (1 : Int32)), (.int (1 : Int32))]))
      refine Go.by (fun t k => XS.icmpNo X113.here hx rfl (hb hby at_100) rfl (teq rfl).2 k) ?_
      show Go p e below _ (T113.setTop (mkF m 103 #[.val (.int ip), .val (.ref b11), .val (.int (1 : Int32)), .val (.int (1 : Int32))] []))
      refine Go.by (fun t k => XS.iconst X113.here hx rfl (hb hby at_103) k) ?_
      show Go p e below _ (T113.setTop (mkF m 104 #[.val (.int ip), .val (.ref b11), .val (.int (1 : Int32)), .val (.int (1 : Int32))] [(.int (1 : Int32))]))
      refine Go.by (fun t k => XS.goto X113.here hx rfl (pc0 := 104) (pc' := 108) rfl (hb hby at_104) (by decide) (by decide) k) ?_
      show Go p e below _ (T113.setTop (mkF m 108 #[.val (.int ip), .val (.ref b11), .val (.int (1 : Int32)), .val (.int (1 : Int32))] [(.int (1 : Int32))]))
      have hq : Q_law Z ip k0_ k1_ k2_ k3_ k4_ k5_ k6_ k7_ k8_ k9_ h0 n0 (some (.int (nar .boolean (1 : Int32)))) h101 _ := ⟨rfl, N113, F115⟩
      exact Go.retN X113 hx (t := .boolean) Bd.returns (by simp) hlk (hb hby at_108) (by decide) (by decide) (by rw [e113]; exact hq)
    · skip
      show Go p e below _ (T101.setTop (mkF m 78 #[.val (.int ip), .val (.ref b11), .val (.int (2 : Int32)), .unset] []))
      refine Go.by (fun t k => XS.iloadN X101.here hx rfl (hb hby at_78) rfl k) ?_
      show Go p e below _ (T101.setTop (mkF m 79 #[.val (.int ip), .val (.ref b11), .val (.int (2 : Int32)), .unset] [(.int (2 : Int32))]))
      refine Go.by (fun t k => XS.ifNo X101.here hx rfl (hb hby at_79) rfl ((if0 _ _).trans (feq (by decide : ¬ ((2 : Int32) = (0 : Int32)))).1) k) ?_
      show Go p e below _ (T101.setTop (mkF m 82 #[.val (.int ip), .val (.ref b11), .val (.int (2 : Int32)), .unset] []))
      refine Go.by (fun t k => XS.iloadN X101.here hx rfl (hb hby at_82) rfl k) ?_
      show Go p e below _ (T101.setTop (mkF m 83 #[.val (.int ip), .val (.ref b11), .val (.int (2 : Int32)), .unset] [(.int (2 : Int32))]))
      refine Go.by (fun t k => XS.iconst X101.here hx rfl (hb hby at_83) k) ?_
      show Go p e below _ (T101.setTop (mkF m 84 #[.val (.int ip), .val (.ref b11), .val (.int (2 : Int32)), .unset] [(.int (1 : Int32)), (.int (2 : Int32))]))
      refine Go.by (fun t k => XS.icmpYes X101.here hx rfl (pc0 := 84) (pc' := 91) rfl (hb hby at_84) rfl (feq (by decide : ¬ ((2 : Int32) = (1 : Int32)))).2 (by decide) (by decide) k) ?_
      show Go p e below _ (T101.setTop (mkF m 91 #[.val (.int ip), .val (.ref b11), .val (.int (2 : Int32)), .unset] []))
      refine Go.by (fun t k => XS.iconst X101.here hx rfl (hb hby at_91) k) ?_
      show Go p e below _ (T101.setTop (mkF m 92 #[.val (.int ip), .val (.ref b11), .val (.int (2 : Int32)), .unset] [(.int (0 : Int32))]))
      refine Go.by (fun t k => XS.istoreN X101.here hx rfl (hb hby at_92) rfl (l' := #[.val (.int ip), .val (.ref b11), .val (.int (2 : Int32)), .val (.int (0 : Int32))]) rfl k) ?_
      show Go p e below _ (T101.setTop (mkF m 93 #[.val (.int ip), .val (.ref b11), .val (.int (2 : Int32)), .val (.int (0 : Int32))] []))
      refine Go.by (fun t k => XS.aloadN X101.here hx rfl (hb hby at_93) rfl rfl k) ?_
      show Go p e below _ (T101.setTop (mkF m 94 #[.val (.int ip), .val (.ref b11), .val (.int (2 : Int32)), .val (.int (0 : Int32))] [(.ref b11)]))
      refine Go.by (fun t k => XS.iloadN X101.here hx rfl (hb hby at_94) rfl k) ?_
      show Go p e below _ (T101.setTop (mkF m 95 #[.val (.int ip), .val (.ref b11), .val (.int (2 : Int32)), .val (.int (0 : Int32))] [(.int (2 : Int32)), (.ref b11)]))
      obtain ⟨cl117, Ar117, qk117, sz117, nn117, Ha117, Gf117⟩ := F102
      have hin118 : ¬ ((2 : Int32) < 0 ∨ cl117.slots.size ≤ ((2 : Int32)).toNatClampNeg) := inb_of sz117 ⟨by decide, by decide⟩
      have hat119 : cl117.slots[((2 : Int32)).toNatClampNeg]? = some (.ref k2_) := Has.at Ha117 hin118 rfl
      refine Go.by (fun t k => X101.aaload hx (j := (2 : Int32)) (v := (.ref k2_)) (by rw [e101]; exact Ar117.1) (State.isArrayOf_alike hZ.alike Ar117.2.1) rfl Ar117.2.2 hin118 hat119 (g := (mkF m 95 #[.val (.int ip), .val (.ref b11), .val (.int (2 : Int32)), .val (.int (0 : Int32))] [(.int (2 : Int32)), (.ref b11)])) rfl rfl (hb hby at_95) t k) ?_
      show Go p e below _ (T101.setTop (mkF m 96 #[.val (.int ip), .val (.ref b11), .val (.int (2 : Int32)), .val (.int (0 : Int32))] [(.ref k2_)]))
      have F121 : Old Z n0 h101 := (F96.wr W101 ge11)
      have F122 : Keep h0 h101 [] := ((((((((((((Keep.refl h0 []).ext E11).wr W29 (Or.inr sz11)).wr W37 (Or.inr sz11)).wr W45 (Or.inr sz11)).wr W53 (Or.inr sz11)).wr W61 (Or.inr sz11)).wr W69 (Or.inr sz11)).wr W77 (Or.inr sz11)).wr W85 (Or.inr sz11)).wr W93 (Or.inr sz11)).wr W101 (Or.inr sz11))
      have F123 : Exa Z h101 k2_ "com/example/whole_commit/wholecommit/Completions$Ending" := P12.ext F121.2
      obtain ⟨cq120, kq120, q120a, q120b, q120c⟩ := isOf hZ e101 F123
      obtain ⟨_, _, ⟨T120, L120, k120, n120⟩, -, X120, ⟨Lc120, hQ120, l120, y120, z120⟩, st120⟩ := X101.virtualBack hx (y := (⟨"com/example/whole_commit/wholecommit/Completions$Ending", "committed", "()Z"⟩ : MethodName)) (z := (⟨"com/example/whole_commit/wholecommit/Completions$Ending", "committed", "()Z"⟩ : MethodName)) hown (mvT hZ (hw _ (List.mem_of_getElem? (i := 25) rfl))) (mvT hZ (hw _ (List.mem_of_getElem? (i := 26) rfl))) (notFace_of_selects (args := #[]) (mvT hZ (hw _ (List.mem_of_getElem? (i := 28) rfl)))) (mvT hZ (hw _ (List.mem_of_getElem? (i := 28) rfl))) (mvT hZ (hw _ (List.mem_of_getElem? (i := 27) rfl))) (by decide) (backOf (W := 0) (com_f l Z a0 hw [] k2_ k0_ k1_ h101 n0 F121 P0 P1 n2_0 n2_1) hZ (hw _ (List.mem_of_getElem? (i := 29) rfl)) (hw _ (List.mem_of_getElem? (i := 3) rfl)) (by decide) (by decide)) q120a q120c (g := (mkF m 96 #[.val (.int ip), .val (.ref b11), .val (.int (2 : Int32)), .val (.int (0 : Int32))] [(.ref k2_)])) rfl (by rw [hml]; rfl) (Steps.refl _) (argsL := []) (rest := []) (lenOf pd_0 rfl) rfl (by show 2 * 0 + _ ≤ _; exact Nat.le_of_eq rfl) (hb hby at_96) (fun _ _ => ⟨rfl, e101, (by decide : 1 + 0 ≤ _), (by decide : 10 + 0 ≤ _)⟩)
      dsimp only [Pt.U, Pt.locs, Pt.cells, Pt.slots] at X120 l120 y120 z120 st120 hQ120
      subst l120 y120 z120
      obtain ⟨rfl, N120q, e120⟩ := hQ120
      have N120 := Fr.app N101 N120q
      refine Go.tr st120 ?_
      show Go p e below _ (T120.setTop (mkF m 99 #[.val (.int ip), .val (.ref b11), .val (.int (2 : Int32)), .val (.int (0 : Int32))] [(.int (0 : Int32))]))
      refine Go.by (fun t k => XS.iloadN X120.here hx rfl (hb hby at_99) rfl k) ?_
      show Go p e below _ (T120.setTop (mkF m 100 #[.val (.int ip), .val (.ref b11), .val (.int (2 : Int32)), .val (.int (0 : Int32))] [(.int (0 : Int32)), (.int (0 : Int32))]))
      refine Go.by (fun t k => XS.icmpNo X120.here hx rfl (hb hby at_100) rfl (teq rfl).2 k) ?_
      show Go p e below _ (T120.setTop (mkF m 103 #[.val (.int ip), .val (.ref b11), .val (.int (2 : Int32)), .val (.int (0 : Int32))] []))
      refine Go.by (fun t k => XS.iconst X120.here hx rfl (hb hby at_103) k) ?_
      show Go p e below _ (T120.setTop (mkF m 104 #[.val (.int ip), .val (.ref b11), .val (.int (2 : Int32)), .val (.int (0 : Int32))] [(.int (1 : Int32))]))
      refine Go.by (fun t k => XS.goto X120.here hx rfl (pc0 := 104) (pc' := 108) rfl (hb hby at_104) (by decide) (by decide) k) ?_
      show Go p e below _ (T120.setTop (mkF m 108 #[.val (.int ip), .val (.ref b11), .val (.int (2 : Int32)), .val (.int (0 : Int32))] [(.int (1 : Int32))]))
      have hq : Q_law Z ip k0_ k1_ k2_ k3_ k4_ k5_ k6_ k7_ k8_ k9_ h0 n0 (some (.int (nar .boolean (1 : Int32)))) h101 _ := ⟨rfl, N120, F122⟩
      exact Go.retN X120 hx (t := .boolean) Bd.returns (by simp) hlk (hb hby at_108) (by decide) (by decide) (by rw [e120]; exact hq)
    · skip
      show Go p e below _ (T101.setTop (mkF m 78 #[.val (.int ip), .val (.ref b11), .val (.int (3 : Int32)), .unset] []))
      refine Go.by (fun t k => XS.iloadN X101.here hx rfl (hb hby at_78) rfl k) ?_
      show Go p e below _ (T101.setTop (mkF m 79 #[.val (.int ip), .val (.ref b11), .val (.int (3 : Int32)), .unset] [(.int (3 : Int32))]))
      refine Go.by (fun t k => XS.ifNo X101.here hx rfl (hb hby at_79) rfl ((if0 _ _).trans (feq (by decide : ¬ ((3 : Int32) = (0 : Int32)))).1) k) ?_
      show Go p e below _ (T101.setTop (mkF m 82 #[.val (.int ip), .val (.ref b11), .val (.int (3 : Int32)), .unset] []))
      refine Go.by (fun t k => XS.iloadN X101.here hx rfl (hb hby at_82) rfl k) ?_
      show Go p e below _ (T101.setTop (mkF m 83 #[.val (.int ip), .val (.ref b11), .val (.int (3 : Int32)), .unset] [(.int (3 : Int32))]))
      refine Go.by (fun t k => XS.iconst X101.here hx rfl (hb hby at_83) k) ?_
      show Go p e below _ (T101.setTop (mkF m 84 #[.val (.int ip), .val (.ref b11), .val (.int (3 : Int32)), .unset] [(.int (1 : Int32)), (.int (3 : Int32))]))
      refine Go.by (fun t k => XS.icmpYes X101.here hx rfl (pc0 := 84) (pc' := 91) rfl (hb hby at_84) rfl (feq (by decide : ¬ ((3 : Int32) = (1 : Int32)))).2 (by decide) (by decide) k) ?_
      show Go p e below _ (T101.setTop (mkF m 91 #[.val (.int ip), .val (.ref b11), .val (.int (3 : Int32)), .unset] []))
      refine Go.by (fun t k => XS.iconst X101.here hx rfl (hb hby at_91) k) ?_
      show Go p e below _ (T101.setTop (mkF m 92 #[.val (.int ip), .val (.ref b11), .val (.int (3 : Int32)), .unset] [(.int (0 : Int32))]))
      refine Go.by (fun t k => XS.istoreN X101.here hx rfl (hb hby at_92) rfl (l' := #[.val (.int ip), .val (.ref b11), .val (.int (3 : Int32)), .val (.int (0 : Int32))]) rfl k) ?_
      show Go p e below _ (T101.setTop (mkF m 93 #[.val (.int ip), .val (.ref b11), .val (.int (3 : Int32)), .val (.int (0 : Int32))] []))
      refine Go.by (fun t k => XS.aloadN X101.here hx rfl (hb hby at_93) rfl rfl k) ?_
      show Go p e below _ (T101.setTop (mkF m 94 #[.val (.int ip), .val (.ref b11), .val (.int (3 : Int32)), .val (.int (0 : Int32))] [(.ref b11)]))
      refine Go.by (fun t k => XS.iloadN X101.here hx rfl (hb hby at_94) rfl k) ?_
      show Go p e below _ (T101.setTop (mkF m 95 #[.val (.int ip), .val (.ref b11), .val (.int (3 : Int32)), .val (.int (0 : Int32))] [(.int (3 : Int32)), (.ref b11)]))
      obtain ⟨cl124, Ar124, qk124, sz124, nn124, Ha124, Gf124⟩ := F102
      have hin125 : ¬ ((3 : Int32) < 0 ∨ cl124.slots.size ≤ ((3 : Int32)).toNatClampNeg) := inb_of sz124 ⟨by decide, by decide⟩
      have hat126 : cl124.slots[((3 : Int32)).toNatClampNeg]? = some (.ref k3_) := Has.at Ha124 hin125 rfl
      refine Go.by (fun t k => X101.aaload hx (j := (3 : Int32)) (v := (.ref k3_)) (by rw [e101]; exact Ar124.1) (State.isArrayOf_alike hZ.alike Ar124.2.1) rfl Ar124.2.2 hin125 hat126 (g := (mkF m 95 #[.val (.int ip), .val (.ref b11), .val (.int (3 : Int32)), .val (.int (0 : Int32))] [(.int (3 : Int32)), (.ref b11)])) rfl rfl (hb hby at_95) t k) ?_
      show Go p e below _ (T101.setTop (mkF m 96 #[.val (.int ip), .val (.ref b11), .val (.int (3 : Int32)), .val (.int (0 : Int32))] [(.ref k3_)]))
      have F128 : Old Z n0 h101 := (F96.wr W101 ge11)
      have F129 : Keep h0 h101 [] := ((((((((((((Keep.refl h0 []).ext E11).wr W29 (Or.inr sz11)).wr W37 (Or.inr sz11)).wr W45 (Or.inr sz11)).wr W53 (Or.inr sz11)).wr W61 (Or.inr sz11)).wr W69 (Or.inr sz11)).wr W77 (Or.inr sz11)).wr W85 (Or.inr sz11)).wr W93 (Or.inr sz11)).wr W101 (Or.inr sz11))
      have F130 : Exa Z h101 k3_ "com/example/whole_commit/wholecommit/Completions$Ending" := P13.ext F128.2
      obtain ⟨cq127, kq127, q127a, q127b, q127c⟩ := isOf hZ e101 F130
      obtain ⟨_, _, ⟨T127, L127, k127, n127⟩, -, X127, ⟨Lc127, hQ127, l127, y127, z127⟩, st127⟩ := X101.virtualBack hx (y := (⟨"com/example/whole_commit/wholecommit/Completions$Ending", "committed", "()Z"⟩ : MethodName)) (z := (⟨"com/example/whole_commit/wholecommit/Completions$Ending", "committed", "()Z"⟩ : MethodName)) hown (mvT hZ (hw _ (List.mem_of_getElem? (i := 25) rfl))) (mvT hZ (hw _ (List.mem_of_getElem? (i := 26) rfl))) (notFace_of_selects (args := #[]) (mvT hZ (hw _ (List.mem_of_getElem? (i := 28) rfl)))) (mvT hZ (hw _ (List.mem_of_getElem? (i := 28) rfl))) (mvT hZ (hw _ (List.mem_of_getElem? (i := 27) rfl))) (by decide) (backOf (W := 0) (com_f l Z a0 hw [] k3_ k0_ k1_ h101 n0 F128 P0 P1 n3_0 n3_1) hZ (hw _ (List.mem_of_getElem? (i := 29) rfl)) (hw _ (List.mem_of_getElem? (i := 3) rfl)) (by decide) (by decide)) q127a q127c (g := (mkF m 96 #[.val (.int ip), .val (.ref b11), .val (.int (3 : Int32)), .val (.int (0 : Int32))] [(.ref k3_)])) rfl (by rw [hml]; rfl) (Steps.refl _) (argsL := []) (rest := []) (lenOf pd_0 rfl) rfl (by show 2 * 0 + _ ≤ _; exact Nat.le_of_eq rfl) (hb hby at_96) (fun _ _ => ⟨rfl, e101, (by decide : 1 + 0 ≤ _), (by decide : 10 + 0 ≤ _)⟩)
      dsimp only [Pt.U, Pt.locs, Pt.cells, Pt.slots] at X127 l127 y127 z127 st127 hQ127
      subst l127 y127 z127
      obtain ⟨rfl, N127q, e127⟩ := hQ127
      have N127 := Fr.app N101 N127q
      refine Go.tr st127 ?_
      show Go p e below _ (T127.setTop (mkF m 99 #[.val (.int ip), .val (.ref b11), .val (.int (3 : Int32)), .val (.int (0 : Int32))] [(.int (0 : Int32))]))
      refine Go.by (fun t k => XS.iloadN X127.here hx rfl (hb hby at_99) rfl k) ?_
      show Go p e below _ (T127.setTop (mkF m 100 #[.val (.int ip), .val (.ref b11), .val (.int (3 : Int32)), .val (.int (0 : Int32))] [(.int (0 : Int32)), (.int (0 : Int32))]))
      refine Go.by (fun t k => XS.icmpNo X127.here hx rfl (hb hby at_100) rfl (teq rfl).2 k) ?_
      show Go p e below _ (T127.setTop (mkF m 103 #[.val (.int ip), .val (.ref b11), .val (.int (3 : Int32)), .val (.int (0 : Int32))] []))
      refine Go.by (fun t k => XS.iconst X127.here hx rfl (hb hby at_103) k) ?_
      show Go p e below _ (T127.setTop (mkF m 104 #[.val (.int ip), .val (.ref b11), .val (.int (3 : Int32)), .val (.int (0 : Int32))] [(.int (1 : Int32))]))
      refine Go.by (fun t k => XS.goto X127.here hx rfl (pc0 := 104) (pc' := 108) rfl (hb hby at_104) (by decide) (by decide) k) ?_
      show Go p e below _ (T127.setTop (mkF m 108 #[.val (.int ip), .val (.ref b11), .val (.int (3 : Int32)), .val (.int (0 : Int32))] [(.int (1 : Int32))]))
      have hq : Q_law Z ip k0_ k1_ k2_ k3_ k4_ k5_ k6_ k7_ k8_ k9_ h0 n0 (some (.int (nar .boolean (1 : Int32)))) h101 _ := ⟨rfl, N127, F129⟩
      exact Go.retN X127 hx (t := .boolean) Bd.returns (by simp) hlk (hb hby at_108) (by decide) (by decide) (by rw [e127]; exact hq)
    · skip
      show Go p e below _ (T101.setTop (mkF m 78 #[.val (.int ip), .val (.ref b11), .val (.int (4 : Int32)), .unset] []))
      refine Go.by (fun t k => XS.iloadN X101.here hx rfl (hb hby at_78) rfl k) ?_
      show Go p e below _ (T101.setTop (mkF m 79 #[.val (.int ip), .val (.ref b11), .val (.int (4 : Int32)), .unset] [(.int (4 : Int32))]))
      refine Go.by (fun t k => XS.ifNo X101.here hx rfl (hb hby at_79) rfl ((if0 _ _).trans (feq (by decide : ¬ ((4 : Int32) = (0 : Int32)))).1) k) ?_
      show Go p e below _ (T101.setTop (mkF m 82 #[.val (.int ip), .val (.ref b11), .val (.int (4 : Int32)), .unset] []))
      refine Go.by (fun t k => XS.iloadN X101.here hx rfl (hb hby at_82) rfl k) ?_
      show Go p e below _ (T101.setTop (mkF m 83 #[.val (.int ip), .val (.ref b11), .val (.int (4 : Int32)), .unset] [(.int (4 : Int32))]))
      refine Go.by (fun t k => XS.iconst X101.here hx rfl (hb hby at_83) k) ?_
      show Go p e below _ (T101.setTop (mkF m 84 #[.val (.int ip), .val (.ref b11), .val (.int (4 : Int32)), .unset] [(.int (1 : Int32)), (.int (4 : Int32))]))
      refine Go.by (fun t k => XS.icmpYes X101.here hx rfl (pc0 := 84) (pc' := 91) rfl (hb hby at_84) rfl (feq (by decide : ¬ ((4 : Int32) = (1 : Int32)))).2 (by decide) (by decide) k) ?_
      show Go p e below _ (T101.setTop (mkF m 91 #[.val (.int ip), .val (.ref b11), .val (.int (4 : Int32)), .unset] []))
      refine Go.by (fun t k => XS.iconst X101.here hx rfl (hb hby at_91) k) ?_
      show Go p e below _ (T101.setTop (mkF m 92 #[.val (.int ip), .val (.ref b11), .val (.int (4 : Int32)), .unset] [(.int (0 : Int32))]))
      refine Go.by (fun t k => XS.istoreN X101.here hx rfl (hb hby at_92) rfl (l' := #[.val (.int ip), .val (.ref b11), .val (.int (4 : Int32)), .val (.int (0 : Int32))]) rfl k) ?_
      show Go p e below _ (T101.setTop (mkF m 93 #[.val (.int ip), .val (.ref b11), .val (.int (4 : Int32)), .val (.int (0 : Int32))] []))
      refine Go.by (fun t k => XS.aloadN X101.here hx rfl (hb hby at_93) rfl rfl k) ?_
      show Go p e below _ (T101.setTop (mkF m 94 #[.val (.int ip), .val (.ref b11), .val (.int (4 : Int32)), .val (.int (0 : Int32))] [(.ref b11)]))
      refine Go.by (fun t k => XS.iloadN X101.here hx rfl (hb hby at_94) rfl k) ?_
      show Go p e below _ (T101.setTop (mkF m 95 #[.val (.int ip), .val (.ref b11), .val (.int (4 : Int32)), .val (.int (0 : Int32))] [(.int (4 : Int32)), (.ref b11)]))
      obtain ⟨cl131, Ar131, qk131, sz131, nn131, Ha131, Gf131⟩ := F102
      have hin132 : ¬ ((4 : Int32) < 0 ∨ cl131.slots.size ≤ ((4 : Int32)).toNatClampNeg) := inb_of sz131 ⟨by decide, by decide⟩
      have hat133 : cl131.slots[((4 : Int32)).toNatClampNeg]? = some (.ref k4_) := Has.at Ha131 hin132 rfl
      refine Go.by (fun t k => X101.aaload hx (j := (4 : Int32)) (v := (.ref k4_)) (by rw [e101]; exact Ar131.1) (State.isArrayOf_alike hZ.alike Ar131.2.1) rfl Ar131.2.2 hin132 hat133 (g := (mkF m 95 #[.val (.int ip), .val (.ref b11), .val (.int (4 : Int32)), .val (.int (0 : Int32))] [(.int (4 : Int32)), (.ref b11)])) rfl rfl (hb hby at_95) t k) ?_
      show Go p e below _ (T101.setTop (mkF m 96 #[.val (.int ip), .val (.ref b11), .val (.int (4 : Int32)), .val (.int (0 : Int32))] [(.ref k4_)]))
      have F135 : Old Z n0 h101 := (F96.wr W101 ge11)
      have F136 : Keep h0 h101 [] := ((((((((((((Keep.refl h0 []).ext E11).wr W29 (Or.inr sz11)).wr W37 (Or.inr sz11)).wr W45 (Or.inr sz11)).wr W53 (Or.inr sz11)).wr W61 (Or.inr sz11)).wr W69 (Or.inr sz11)).wr W77 (Or.inr sz11)).wr W85 (Or.inr sz11)).wr W93 (Or.inr sz11)).wr W101 (Or.inr sz11))
      have F137 : Exa Z h101 k4_ "com/example/whole_commit/wholecommit/Completions$Ending" := P14.ext F135.2
      obtain ⟨cq134, kq134, q134a, q134b, q134c⟩ := isOf hZ e101 F137
      obtain ⟨_, _, ⟨T134, L134, k134, n134⟩, -, X134, ⟨Lc134, hQ134, l134, y134, z134⟩, st134⟩ := X101.virtualBack hx (y := (⟨"com/example/whole_commit/wholecommit/Completions$Ending", "committed", "()Z"⟩ : MethodName)) (z := (⟨"com/example/whole_commit/wholecommit/Completions$Ending", "committed", "()Z"⟩ : MethodName)) hown (mvT hZ (hw _ (List.mem_of_getElem? (i := 25) rfl))) (mvT hZ (hw _ (List.mem_of_getElem? (i := 26) rfl))) (notFace_of_selects (args := #[]) (mvT hZ (hw _ (List.mem_of_getElem? (i := 28) rfl)))) (mvT hZ (hw _ (List.mem_of_getElem? (i := 28) rfl))) (mvT hZ (hw _ (List.mem_of_getElem? (i := 27) rfl))) (by decide) (backOf (W := 0) (com_f l Z a0 hw [] k4_ k0_ k1_ h101 n0 F135 P0 P1 n4_0 n4_1) hZ (hw _ (List.mem_of_getElem? (i := 29) rfl)) (hw _ (List.mem_of_getElem? (i := 3) rfl)) (by decide) (by decide)) q134a q134c (g := (mkF m 96 #[.val (.int ip), .val (.ref b11), .val (.int (4 : Int32)), .val (.int (0 : Int32))] [(.ref k4_)])) rfl (by rw [hml]; rfl) (Steps.refl _) (argsL := []) (rest := []) (lenOf pd_0 rfl) rfl (by show 2 * 0 + _ ≤ _; exact Nat.le_of_eq rfl) (hb hby at_96) (fun _ _ => ⟨rfl, e101, (by decide : 1 + 0 ≤ _), (by decide : 10 + 0 ≤ _)⟩)
      dsimp only [Pt.U, Pt.locs, Pt.cells, Pt.slots] at X134 l134 y134 z134 st134 hQ134
      subst l134 y134 z134
      obtain ⟨rfl, N134q, e134⟩ := hQ134
      have N134 := Fr.app N101 N134q
      refine Go.tr st134 ?_
      show Go p e below _ (T134.setTop (mkF m 99 #[.val (.int ip), .val (.ref b11), .val (.int (4 : Int32)), .val (.int (0 : Int32))] [(.int (0 : Int32))]))
      refine Go.by (fun t k => XS.iloadN X134.here hx rfl (hb hby at_99) rfl k) ?_
      show Go p e below _ (T134.setTop (mkF m 100 #[.val (.int ip), .val (.ref b11), .val (.int (4 : Int32)), .val (.int (0 : Int32))] [(.int (0 : Int32)), (.int (0 : Int32))]))
      refine Go.by (fun t k => XS.icmpNo X134.here hx rfl (hb hby at_100) rfl (teq rfl).2 k) ?_
      show Go p e below _ (T134.setTop (mkF m 103 #[.val (.int ip), .val (.ref b11), .val (.int (4 : Int32)), .val (.int (0 : Int32))] []))
      refine Go.by (fun t k => XS.iconst X134.here hx rfl (hb hby at_103) k) ?_
      show Go p e below _ (T134.setTop (mkF m 104 #[.val (.int ip), .val (.ref b11), .val (.int (4 : Int32)), .val (.int (0 : Int32))] [(.int (1 : Int32))]))
      refine Go.by (fun t k => XS.goto X134.here hx rfl (pc0 := 104) (pc' := 108) rfl (hb hby at_104) (by decide) (by decide) k) ?_
      show Go p e below _ (T134.setTop (mkF m 108 #[.val (.int ip), .val (.ref b11), .val (.int (4 : Int32)), .val (.int (0 : Int32))] [(.int (1 : Int32))]))
      have hq : Q_law Z ip k0_ k1_ k2_ k3_ k4_ k5_ k6_ k7_ k8_ k9_ h0 n0 (some (.int (nar .boolean (1 : Int32)))) h101 _ := ⟨rfl, N134, F136⟩
      exact Go.retN X134 hx (t := .boolean) Bd.returns (by simp) hlk (hb hby at_108) (by decide) (by decide) (by rw [e134]; exact hq)
    · skip
      show Go p e below _ (T101.setTop (mkF m 78 #[.val (.int ip), .val (.ref b11), .val (.int (5 : Int32)), .unset] []))
      refine Go.by (fun t k => XS.iloadN X101.here hx rfl (hb hby at_78) rfl k) ?_
      show Go p e below _ (T101.setTop (mkF m 79 #[.val (.int ip), .val (.ref b11), .val (.int (5 : Int32)), .unset] [(.int (5 : Int32))]))
      refine Go.by (fun t k => XS.ifNo X101.here hx rfl (hb hby at_79) rfl ((if0 _ _).trans (feq (by decide : ¬ ((5 : Int32) = (0 : Int32)))).1) k) ?_
      show Go p e below _ (T101.setTop (mkF m 82 #[.val (.int ip), .val (.ref b11), .val (.int (5 : Int32)), .unset] []))
      refine Go.by (fun t k => XS.iloadN X101.here hx rfl (hb hby at_82) rfl k) ?_
      show Go p e below _ (T101.setTop (mkF m 83 #[.val (.int ip), .val (.ref b11), .val (.int (5 : Int32)), .unset] [(.int (5 : Int32))]))
      refine Go.by (fun t k => XS.iconst X101.here hx rfl (hb hby at_83) k) ?_
      show Go p e below _ (T101.setTop (mkF m 84 #[.val (.int ip), .val (.ref b11), .val (.int (5 : Int32)), .unset] [(.int (1 : Int32)), (.int (5 : Int32))]))
      refine Go.by (fun t k => XS.icmpYes X101.here hx rfl (pc0 := 84) (pc' := 91) rfl (hb hby at_84) rfl (feq (by decide : ¬ ((5 : Int32) = (1 : Int32)))).2 (by decide) (by decide) k) ?_
      show Go p e below _ (T101.setTop (mkF m 91 #[.val (.int ip), .val (.ref b11), .val (.int (5 : Int32)), .unset] []))
      refine Go.by (fun t k => XS.iconst X101.here hx rfl (hb hby at_91) k) ?_
      show Go p e below _ (T101.setTop (mkF m 92 #[.val (.int ip), .val (.ref b11), .val (.int (5 : Int32)), .unset] [(.int (0 : Int32))]))
      refine Go.by (fun t k => XS.istoreN X101.here hx rfl (hb hby at_92) rfl (l' := #[.val (.int ip), .val (.ref b11), .val (.int (5 : Int32)), .val (.int (0 : Int32))]) rfl k) ?_
      show Go p e below _ (T101.setTop (mkF m 93 #[.val (.int ip), .val (.ref b11), .val (.int (5 : Int32)), .val (.int (0 : Int32))] []))
      refine Go.by (fun t k => XS.aloadN X101.here hx rfl (hb hby at_93) rfl rfl k) ?_
      show Go p e below _ (T101.setTop (mkF m 94 #[.val (.int ip), .val (.ref b11), .val (.int (5 : Int32)), .val (.int (0 : Int32))] [(.ref b11)]))
      refine Go.by (fun t k => XS.iloadN X101.here hx rfl (hb hby at_94) rfl k) ?_
      show Go p e below _ (T101.setTop (mkF m 95 #[.val (.int ip), .val (.ref b11), .val (.int (5 : Int32)), .val (.int (0 : Int32))] [(.int (5 : Int32)), (.ref b11)]))
      obtain ⟨cl138, Ar138, qk138, sz138, nn138, Ha138, Gf138⟩ := F102
      have hin139 : ¬ ((5 : Int32) < 0 ∨ cl138.slots.size ≤ ((5 : Int32)).toNatClampNeg) := inb_of sz138 ⟨by decide, by decide⟩
      have hat140 : cl138.slots[((5 : Int32)).toNatClampNeg]? = some (.ref k5_) := Has.at Ha138 hin139 rfl
      refine Go.by (fun t k => X101.aaload hx (j := (5 : Int32)) (v := (.ref k5_)) (by rw [e101]; exact Ar138.1) (State.isArrayOf_alike hZ.alike Ar138.2.1) rfl Ar138.2.2 hin139 hat140 (g := (mkF m 95 #[.val (.int ip), .val (.ref b11), .val (.int (5 : Int32)), .val (.int (0 : Int32))] [(.int (5 : Int32)), (.ref b11)])) rfl rfl (hb hby at_95) t k) ?_
      show Go p e below _ (T101.setTop (mkF m 96 #[.val (.int ip), .val (.ref b11), .val (.int (5 : Int32)), .val (.int (0 : Int32))] [(.ref k5_)]))
      have F142 : Old Z n0 h101 := (F96.wr W101 ge11)
      have F143 : Keep h0 h101 [] := ((((((((((((Keep.refl h0 []).ext E11).wr W29 (Or.inr sz11)).wr W37 (Or.inr sz11)).wr W45 (Or.inr sz11)).wr W53 (Or.inr sz11)).wr W61 (Or.inr sz11)).wr W69 (Or.inr sz11)).wr W77 (Or.inr sz11)).wr W85 (Or.inr sz11)).wr W93 (Or.inr sz11)).wr W101 (Or.inr sz11))
      have F144 : Exa Z h101 k5_ "com/example/whole_commit/wholecommit/Completions$Ending" := P15.ext F142.2
      obtain ⟨cq141, kq141, q141a, q141b, q141c⟩ := isOf hZ e101 F144
      obtain ⟨_, _, ⟨T141, L141, k141, n141⟩, -, X141, ⟨Lc141, hQ141, l141, y141, z141⟩, st141⟩ := X101.virtualBack hx (y := (⟨"com/example/whole_commit/wholecommit/Completions$Ending", "committed", "()Z"⟩ : MethodName)) (z := (⟨"com/example/whole_commit/wholecommit/Completions$Ending", "committed", "()Z"⟩ : MethodName)) hown (mvT hZ (hw _ (List.mem_of_getElem? (i := 25) rfl))) (mvT hZ (hw _ (List.mem_of_getElem? (i := 26) rfl))) (notFace_of_selects (args := #[]) (mvT hZ (hw _ (List.mem_of_getElem? (i := 28) rfl)))) (mvT hZ (hw _ (List.mem_of_getElem? (i := 28) rfl))) (mvT hZ (hw _ (List.mem_of_getElem? (i := 27) rfl))) (by decide) (backOf (W := 0) (com_f l Z a0 hw [] k5_ k0_ k1_ h101 n0 F142 P0 P1 n5_0 n5_1) hZ (hw _ (List.mem_of_getElem? (i := 29) rfl)) (hw _ (List.mem_of_getElem? (i := 3) rfl)) (by decide) (by decide)) q141a q141c (g := (mkF m 96 #[.val (.int ip), .val (.ref b11), .val (.int (5 : Int32)), .val (.int (0 : Int32))] [(.ref k5_)])) rfl (by rw [hml]; rfl) (Steps.refl _) (argsL := []) (rest := []) (lenOf pd_0 rfl) rfl (by show 2 * 0 + _ ≤ _; exact Nat.le_of_eq rfl) (hb hby at_96) (fun _ _ => ⟨rfl, e101, (by decide : 1 + 0 ≤ _), (by decide : 10 + 0 ≤ _)⟩)
      dsimp only [Pt.U, Pt.locs, Pt.cells, Pt.slots] at X141 l141 y141 z141 st141 hQ141
      subst l141 y141 z141
      obtain ⟨rfl, N141q, e141⟩ := hQ141
      have N141 := Fr.app N101 N141q
      refine Go.tr st141 ?_
      show Go p e below _ (T141.setTop (mkF m 99 #[.val (.int ip), .val (.ref b11), .val (.int (5 : Int32)), .val (.int (0 : Int32))] [(.int (0 : Int32))]))
      refine Go.by (fun t k => XS.iloadN X141.here hx rfl (hb hby at_99) rfl k) ?_
      show Go p e below _ (T141.setTop (mkF m 100 #[.val (.int ip), .val (.ref b11), .val (.int (5 : Int32)), .val (.int (0 : Int32))] [(.int (0 : Int32)), (.int (0 : Int32))]))
      refine Go.by (fun t k => XS.icmpNo X141.here hx rfl (hb hby at_100) rfl (teq rfl).2 k) ?_
      show Go p e below _ (T141.setTop (mkF m 103 #[.val (.int ip), .val (.ref b11), .val (.int (5 : Int32)), .val (.int (0 : Int32))] []))
      refine Go.by (fun t k => XS.iconst X141.here hx rfl (hb hby at_103) k) ?_
      show Go p e below _ (T141.setTop (mkF m 104 #[.val (.int ip), .val (.ref b11), .val (.int (5 : Int32)), .val (.int (0 : Int32))] [(.int (1 : Int32))]))
      refine Go.by (fun t k => XS.goto X141.here hx rfl (pc0 := 104) (pc' := 108) rfl (hb hby at_104) (by decide) (by decide) k) ?_
      show Go p e below _ (T141.setTop (mkF m 108 #[.val (.int ip), .val (.ref b11), .val (.int (5 : Int32)), .val (.int (0 : Int32))] [(.int (1 : Int32))]))
      have hq : Q_law Z ip k0_ k1_ k2_ k3_ k4_ k5_ k6_ k7_ k8_ k9_ h0 n0 (some (.int (nar .boolean (1 : Int32)))) h101 _ := ⟨rfl, N141, F143⟩
      exact Go.retN X141 hx (t := .boolean) Bd.returns (by simp) hlk (hb hby at_108) (by decide) (by decide) (by rw [e141]; exact hq)
    · skip
      show Go p e below _ (T101.setTop (mkF m 78 #[.val (.int ip), .val (.ref b11), .val (.int (6 : Int32)), .unset] []))
      refine Go.by (fun t k => XS.iloadN X101.here hx rfl (hb hby at_78) rfl k) ?_
      show Go p e below _ (T101.setTop (mkF m 79 #[.val (.int ip), .val (.ref b11), .val (.int (6 : Int32)), .unset] [(.int (6 : Int32))]))
      refine Go.by (fun t k => XS.ifNo X101.here hx rfl (hb hby at_79) rfl ((if0 _ _).trans (feq (by decide : ¬ ((6 : Int32) = (0 : Int32)))).1) k) ?_
      show Go p e below _ (T101.setTop (mkF m 82 #[.val (.int ip), .val (.ref b11), .val (.int (6 : Int32)), .unset] []))
      refine Go.by (fun t k => XS.iloadN X101.here hx rfl (hb hby at_82) rfl k) ?_
      show Go p e below _ (T101.setTop (mkF m 83 #[.val (.int ip), .val (.ref b11), .val (.int (6 : Int32)), .unset] [(.int (6 : Int32))]))
      refine Go.by (fun t k => XS.iconst X101.here hx rfl (hb hby at_83) k) ?_
      show Go p e below _ (T101.setTop (mkF m 84 #[.val (.int ip), .val (.ref b11), .val (.int (6 : Int32)), .unset] [(.int (1 : Int32)), (.int (6 : Int32))]))
      refine Go.by (fun t k => XS.icmpYes X101.here hx rfl (pc0 := 84) (pc' := 91) rfl (hb hby at_84) rfl (feq (by decide : ¬ ((6 : Int32) = (1 : Int32)))).2 (by decide) (by decide) k) ?_
      show Go p e below _ (T101.setTop (mkF m 91 #[.val (.int ip), .val (.ref b11), .val (.int (6 : Int32)), .unset] []))
      refine Go.by (fun t k => XS.iconst X101.here hx rfl (hb hby at_91) k) ?_
      show Go p e below _ (T101.setTop (mkF m 92 #[.val (.int ip), .val (.ref b11), .val (.int (6 : Int32)), .unset] [(.int (0 : Int32))]))
      refine Go.by (fun t k => XS.istoreN X101.here hx rfl (hb hby at_92) rfl (l' := #[.val (.int ip), .val (.ref b11), .val (.int (6 : Int32)), .val (.int (0 : Int32))]) rfl k) ?_
      show Go p e below _ (T101.setTop (mkF m 93 #[.val (.int ip), .val (.ref b11), .val (.int (6 : Int32)), .val (.int (0 : Int32))] []))
      refine Go.by (fun t k => XS.aloadN X101.here hx rfl (hb hby at_93) rfl rfl k) ?_
      show Go p e below _ (T101.setTop (mkF m 94 #[.val (.int ip), .val (.ref b11), .val (.int (6 : Int32)), .val (.int (0 : Int32))] [(.ref b11)]))
      refine Go.by (fun t k => XS.iloadN X101.here hx rfl (hb hby at_94) rfl k) ?_
      show Go p e below _ (T101.setTop (mkF m 95 #[.val (.int ip), .val (.ref b11), .val (.int (6 : Int32)), .val (.int (0 : Int32))] [(.int (6 : Int32)), (.ref b11)]))
      obtain ⟨cl145, Ar145, qk145, sz145, nn145, Ha145, Gf145⟩ := F102
      have hin146 : ¬ ((6 : Int32) < 0 ∨ cl145.slots.size ≤ ((6 : Int32)).toNatClampNeg) := inb_of sz145 ⟨by decide, by decide⟩
      have hat147 : cl145.slots[((6 : Int32)).toNatClampNeg]? = some (.ref k6_) := Has.at Ha145 hin146 rfl
      refine Go.by (fun t k => X101.aaload hx (j := (6 : Int32)) (v := (.ref k6_)) (by rw [e101]; exact Ar145.1) (State.isArrayOf_alike hZ.alike Ar145.2.1) rfl Ar145.2.2 hin146 hat147 (g := (mkF m 95 #[.val (.int ip), .val (.ref b11), .val (.int (6 : Int32)), .val (.int (0 : Int32))] [(.int (6 : Int32)), (.ref b11)])) rfl rfl (hb hby at_95) t k) ?_
      show Go p e below _ (T101.setTop (mkF m 96 #[.val (.int ip), .val (.ref b11), .val (.int (6 : Int32)), .val (.int (0 : Int32))] [(.ref k6_)]))
      have F149 : Old Z n0 h101 := (F96.wr W101 ge11)
      have F150 : Keep h0 h101 [] := ((((((((((((Keep.refl h0 []).ext E11).wr W29 (Or.inr sz11)).wr W37 (Or.inr sz11)).wr W45 (Or.inr sz11)).wr W53 (Or.inr sz11)).wr W61 (Or.inr sz11)).wr W69 (Or.inr sz11)).wr W77 (Or.inr sz11)).wr W85 (Or.inr sz11)).wr W93 (Or.inr sz11)).wr W101 (Or.inr sz11))
      have F151 : Exa Z h101 k6_ "com/example/whole_commit/wholecommit/Completions$Ending" := P16.ext F149.2
      obtain ⟨cq148, kq148, q148a, q148b, q148c⟩ := isOf hZ e101 F151
      obtain ⟨_, _, ⟨T148, L148, k148, n148⟩, -, X148, ⟨Lc148, hQ148, l148, y148, z148⟩, st148⟩ := X101.virtualBack hx (y := (⟨"com/example/whole_commit/wholecommit/Completions$Ending", "committed", "()Z"⟩ : MethodName)) (z := (⟨"com/example/whole_commit/wholecommit/Completions$Ending", "committed", "()Z"⟩ : MethodName)) hown (mvT hZ (hw _ (List.mem_of_getElem? (i := 25) rfl))) (mvT hZ (hw _ (List.mem_of_getElem? (i := 26) rfl))) (notFace_of_selects (args := #[]) (mvT hZ (hw _ (List.mem_of_getElem? (i := 28) rfl)))) (mvT hZ (hw _ (List.mem_of_getElem? (i := 28) rfl))) (mvT hZ (hw _ (List.mem_of_getElem? (i := 27) rfl))) (by decide) (backOf (W := 0) (com_f l Z a0 hw [] k6_ k0_ k1_ h101 n0 F149 P0 P1 n6_0 n6_1) hZ (hw _ (List.mem_of_getElem? (i := 29) rfl)) (hw _ (List.mem_of_getElem? (i := 3) rfl)) (by decide) (by decide)) q148a q148c (g := (mkF m 96 #[.val (.int ip), .val (.ref b11), .val (.int (6 : Int32)), .val (.int (0 : Int32))] [(.ref k6_)])) rfl (by rw [hml]; rfl) (Steps.refl _) (argsL := []) (rest := []) (lenOf pd_0 rfl) rfl (by show 2 * 0 + _ ≤ _; exact Nat.le_of_eq rfl) (hb hby at_96) (fun _ _ => ⟨rfl, e101, (by decide : 1 + 0 ≤ _), (by decide : 10 + 0 ≤ _)⟩)
      dsimp only [Pt.U, Pt.locs, Pt.cells, Pt.slots] at X148 l148 y148 z148 st148 hQ148
      subst l148 y148 z148
      obtain ⟨rfl, N148q, e148⟩ := hQ148
      have N148 := Fr.app N101 N148q
      refine Go.tr st148 ?_
      show Go p e below _ (T148.setTop (mkF m 99 #[.val (.int ip), .val (.ref b11), .val (.int (6 : Int32)), .val (.int (0 : Int32))] [(.int (0 : Int32))]))
      refine Go.by (fun t k => XS.iloadN X148.here hx rfl (hb hby at_99) rfl k) ?_
      show Go p e below _ (T148.setTop (mkF m 100 #[.val (.int ip), .val (.ref b11), .val (.int (6 : Int32)), .val (.int (0 : Int32))] [(.int (0 : Int32)), (.int (0 : Int32))]))
      refine Go.by (fun t k => XS.icmpNo X148.here hx rfl (hb hby at_100) rfl (teq rfl).2 k) ?_
      show Go p e below _ (T148.setTop (mkF m 103 #[.val (.int ip), .val (.ref b11), .val (.int (6 : Int32)), .val (.int (0 : Int32))] []))
      refine Go.by (fun t k => XS.iconst X148.here hx rfl (hb hby at_103) k) ?_
      show Go p e below _ (T148.setTop (mkF m 104 #[.val (.int ip), .val (.ref b11), .val (.int (6 : Int32)), .val (.int (0 : Int32))] [(.int (1 : Int32))]))
      refine Go.by (fun t k => XS.goto X148.here hx rfl (pc0 := 104) (pc' := 108) rfl (hb hby at_104) (by decide) (by decide) k) ?_
      show Go p e below _ (T148.setTop (mkF m 108 #[.val (.int ip), .val (.ref b11), .val (.int (6 : Int32)), .val (.int (0 : Int32))] [(.int (1 : Int32))]))
      have hq : Q_law Z ip k0_ k1_ k2_ k3_ k4_ k5_ k6_ k7_ k8_ k9_ h0 n0 (some (.int (nar .boolean (1 : Int32)))) h101 _ := ⟨rfl, N148, F150⟩
      exact Go.retN X148 hx (t := .boolean) Bd.returns (by simp) hlk (hb hby at_108) (by decide) (by decide) (by rw [e148]; exact hq)
    · skip
      show Go p e below _ (T101.setTop (mkF m 78 #[.val (.int ip), .val (.ref b11), .val (.int (7 : Int32)), .unset] []))
      refine Go.by (fun t k => XS.iloadN X101.here hx rfl (hb hby at_78) rfl k) ?_
      show Go p e below _ (T101.setTop (mkF m 79 #[.val (.int ip), .val (.ref b11), .val (.int (7 : Int32)), .unset] [(.int (7 : Int32))]))
      refine Go.by (fun t k => XS.ifNo X101.here hx rfl (hb hby at_79) rfl ((if0 _ _).trans (feq (by decide : ¬ ((7 : Int32) = (0 : Int32)))).1) k) ?_
      show Go p e below _ (T101.setTop (mkF m 82 #[.val (.int ip), .val (.ref b11), .val (.int (7 : Int32)), .unset] []))
      refine Go.by (fun t k => XS.iloadN X101.here hx rfl (hb hby at_82) rfl k) ?_
      show Go p e below _ (T101.setTop (mkF m 83 #[.val (.int ip), .val (.ref b11), .val (.int (7 : Int32)), .unset] [(.int (7 : Int32))]))
      refine Go.by (fun t k => XS.iconst X101.here hx rfl (hb hby at_83) k) ?_
      show Go p e below _ (T101.setTop (mkF m 84 #[.val (.int ip), .val (.ref b11), .val (.int (7 : Int32)), .unset] [(.int (1 : Int32)), (.int (7 : Int32))]))
      refine Go.by (fun t k => XS.icmpYes X101.here hx rfl (pc0 := 84) (pc' := 91) rfl (hb hby at_84) rfl (feq (by decide : ¬ ((7 : Int32) = (1 : Int32)))).2 (by decide) (by decide) k) ?_
      show Go p e below _ (T101.setTop (mkF m 91 #[.val (.int ip), .val (.ref b11), .val (.int (7 : Int32)), .unset] []))
      refine Go.by (fun t k => XS.iconst X101.here hx rfl (hb hby at_91) k) ?_
      show Go p e below _ (T101.setTop (mkF m 92 #[.val (.int ip), .val (.ref b11), .val (.int (7 : Int32)), .unset] [(.int (0 : Int32))]))
      refine Go.by (fun t k => XS.istoreN X101.here hx rfl (hb hby at_92) rfl (l' := #[.val (.int ip), .val (.ref b11), .val (.int (7 : Int32)), .val (.int (0 : Int32))]) rfl k) ?_
      show Go p e below _ (T101.setTop (mkF m 93 #[.val (.int ip), .val (.ref b11), .val (.int (7 : Int32)), .val (.int (0 : Int32))] []))
      refine Go.by (fun t k => XS.aloadN X101.here hx rfl (hb hby at_93) rfl rfl k) ?_
      show Go p e below _ (T101.setTop (mkF m 94 #[.val (.int ip), .val (.ref b11), .val (.int (7 : Int32)), .val (.int (0 : Int32))] [(.ref b11)]))
      refine Go.by (fun t k => XS.iloadN X101.here hx rfl (hb hby at_94) rfl k) ?_
      show Go p e below _ (T101.setTop (mkF m 95 #[.val (.int ip), .val (.ref b11), .val (.int (7 : Int32)), .val (.int (0 : Int32))] [(.int (7 : Int32)), (.ref b11)]))
      obtain ⟨cl152, Ar152, qk152, sz152, nn152, Ha152, Gf152⟩ := F102
      have hin153 : ¬ ((7 : Int32) < 0 ∨ cl152.slots.size ≤ ((7 : Int32)).toNatClampNeg) := inb_of sz152 ⟨by decide, by decide⟩
      have hat154 : cl152.slots[((7 : Int32)).toNatClampNeg]? = some (.ref k7_) := Has.at Ha152 hin153 rfl
      refine Go.by (fun t k => X101.aaload hx (j := (7 : Int32)) (v := (.ref k7_)) (by rw [e101]; exact Ar152.1) (State.isArrayOf_alike hZ.alike Ar152.2.1) rfl Ar152.2.2 hin153 hat154 (g := (mkF m 95 #[.val (.int ip), .val (.ref b11), .val (.int (7 : Int32)), .val (.int (0 : Int32))] [(.int (7 : Int32)), (.ref b11)])) rfl rfl (hb hby at_95) t k) ?_
      show Go p e below _ (T101.setTop (mkF m 96 #[.val (.int ip), .val (.ref b11), .val (.int (7 : Int32)), .val (.int (0 : Int32))] [(.ref k7_)]))
      have F156 : Old Z n0 h101 := (F96.wr W101 ge11)
      have F157 : Keep h0 h101 [] := ((((((((((((Keep.refl h0 []).ext E11).wr W29 (Or.inr sz11)).wr W37 (Or.inr sz11)).wr W45 (Or.inr sz11)).wr W53 (Or.inr sz11)).wr W61 (Or.inr sz11)).wr W69 (Or.inr sz11)).wr W77 (Or.inr sz11)).wr W85 (Or.inr sz11)).wr W93 (Or.inr sz11)).wr W101 (Or.inr sz11))
      have F158 : Exa Z h101 k7_ "com/example/whole_commit/wholecommit/Completions$Ending" := P17.ext F156.2
      obtain ⟨cq155, kq155, q155a, q155b, q155c⟩ := isOf hZ e101 F158
      obtain ⟨_, _, ⟨T155, L155, k155, n155⟩, -, X155, ⟨Lc155, hQ155, l155, y155, z155⟩, st155⟩ := X101.virtualBack hx (y := (⟨"com/example/whole_commit/wholecommit/Completions$Ending", "committed", "()Z"⟩ : MethodName)) (z := (⟨"com/example/whole_commit/wholecommit/Completions$Ending", "committed", "()Z"⟩ : MethodName)) hown (mvT hZ (hw _ (List.mem_of_getElem? (i := 25) rfl))) (mvT hZ (hw _ (List.mem_of_getElem? (i := 26) rfl))) (notFace_of_selects (args := #[]) (mvT hZ (hw _ (List.mem_of_getElem? (i := 28) rfl)))) (mvT hZ (hw _ (List.mem_of_getElem? (i := 28) rfl))) (mvT hZ (hw _ (List.mem_of_getElem? (i := 27) rfl))) (by decide) (backOf (W := 0) (com_f l Z a0 hw [] k7_ k0_ k1_ h101 n0 F156 P0 P1 n7_0 n7_1) hZ (hw _ (List.mem_of_getElem? (i := 29) rfl)) (hw _ (List.mem_of_getElem? (i := 3) rfl)) (by decide) (by decide)) q155a q155c (g := (mkF m 96 #[.val (.int ip), .val (.ref b11), .val (.int (7 : Int32)), .val (.int (0 : Int32))] [(.ref k7_)])) rfl (by rw [hml]; rfl) (Steps.refl _) (argsL := []) (rest := []) (lenOf pd_0 rfl) rfl (by show 2 * 0 + _ ≤ _; exact Nat.le_of_eq rfl) (hb hby at_96) (fun _ _ => ⟨rfl, e101, (by decide : 1 + 0 ≤ _), (by decide : 10 + 0 ≤ _)⟩)
      dsimp only [Pt.U, Pt.locs, Pt.cells, Pt.slots] at X155 l155 y155 z155 st155 hQ155
      subst l155 y155 z155
      obtain ⟨rfl, N155q, e155⟩ := hQ155
      have N155 := Fr.app N101 N155q
      refine Go.tr st155 ?_
      show Go p e below _ (T155.setTop (mkF m 99 #[.val (.int ip), .val (.ref b11), .val (.int (7 : Int32)), .val (.int (0 : Int32))] [(.int (0 : Int32))]))
      refine Go.by (fun t k => XS.iloadN X155.here hx rfl (hb hby at_99) rfl k) ?_
      show Go p e below _ (T155.setTop (mkF m 100 #[.val (.int ip), .val (.ref b11), .val (.int (7 : Int32)), .val (.int (0 : Int32))] [(.int (0 : Int32)), (.int (0 : Int32))]))
      refine Go.by (fun t k => XS.icmpNo X155.here hx rfl (hb hby at_100) rfl (teq rfl).2 k) ?_
      show Go p e below _ (T155.setTop (mkF m 103 #[.val (.int ip), .val (.ref b11), .val (.int (7 : Int32)), .val (.int (0 : Int32))] []))
      refine Go.by (fun t k => XS.iconst X155.here hx rfl (hb hby at_103) k) ?_
      show Go p e below _ (T155.setTop (mkF m 104 #[.val (.int ip), .val (.ref b11), .val (.int (7 : Int32)), .val (.int (0 : Int32))] [(.int (1 : Int32))]))
      refine Go.by (fun t k => XS.goto X155.here hx rfl (pc0 := 104) (pc' := 108) rfl (hb hby at_104) (by decide) (by decide) k) ?_
      show Go p e below _ (T155.setTop (mkF m 108 #[.val (.int ip), .val (.ref b11), .val (.int (7 : Int32)), .val (.int (0 : Int32))] [(.int (1 : Int32))]))
      have hq : Q_law Z ip k0_ k1_ k2_ k3_ k4_ k5_ k6_ k7_ k8_ k9_ h0 n0 (some (.int (nar .boolean (1 : Int32)))) h101 _ := ⟨rfl, N155, F157⟩
      exact Go.retN X155 hx (t := .boolean) Bd.returns (by simp) hlk (hb hby at_108) (by decide) (by decide) (by rw [e155]; exact hq)
    · skip
      show Go p e below _ (T101.setTop (mkF m 78 #[.val (.int ip), .val (.ref b11), .val (.int (8 : Int32)), .unset] []))
      refine Go.by (fun t k => XS.iloadN X101.here hx rfl (hb hby at_78) rfl k) ?_
      show Go p e below _ (T101.setTop (mkF m 79 #[.val (.int ip), .val (.ref b11), .val (.int (8 : Int32)), .unset] [(.int (8 : Int32))]))
      refine Go.by (fun t k => XS.ifNo X101.here hx rfl (hb hby at_79) rfl ((if0 _ _).trans (feq (by decide : ¬ ((8 : Int32) = (0 : Int32)))).1) k) ?_
      show Go p e below _ (T101.setTop (mkF m 82 #[.val (.int ip), .val (.ref b11), .val (.int (8 : Int32)), .unset] []))
      refine Go.by (fun t k => XS.iloadN X101.here hx rfl (hb hby at_82) rfl k) ?_
      show Go p e below _ (T101.setTop (mkF m 83 #[.val (.int ip), .val (.ref b11), .val (.int (8 : Int32)), .unset] [(.int (8 : Int32))]))
      refine Go.by (fun t k => XS.iconst X101.here hx rfl (hb hby at_83) k) ?_
      show Go p e below _ (T101.setTop (mkF m 84 #[.val (.int ip), .val (.ref b11), .val (.int (8 : Int32)), .unset] [(.int (1 : Int32)), (.int (8 : Int32))]))
      refine Go.by (fun t k => XS.icmpYes X101.here hx rfl (pc0 := 84) (pc' := 91) rfl (hb hby at_84) rfl (feq (by decide : ¬ ((8 : Int32) = (1 : Int32)))).2 (by decide) (by decide) k) ?_
      show Go p e below _ (T101.setTop (mkF m 91 #[.val (.int ip), .val (.ref b11), .val (.int (8 : Int32)), .unset] []))
      refine Go.by (fun t k => XS.iconst X101.here hx rfl (hb hby at_91) k) ?_
      show Go p e below _ (T101.setTop (mkF m 92 #[.val (.int ip), .val (.ref b11), .val (.int (8 : Int32)), .unset] [(.int (0 : Int32))]))
      refine Go.by (fun t k => XS.istoreN X101.here hx rfl (hb hby at_92) rfl (l' := #[.val (.int ip), .val (.ref b11), .val (.int (8 : Int32)), .val (.int (0 : Int32))]) rfl k) ?_
      show Go p e below _ (T101.setTop (mkF m 93 #[.val (.int ip), .val (.ref b11), .val (.int (8 : Int32)), .val (.int (0 : Int32))] []))
      refine Go.by (fun t k => XS.aloadN X101.here hx rfl (hb hby at_93) rfl rfl k) ?_
      show Go p e below _ (T101.setTop (mkF m 94 #[.val (.int ip), .val (.ref b11), .val (.int (8 : Int32)), .val (.int (0 : Int32))] [(.ref b11)]))
      refine Go.by (fun t k => XS.iloadN X101.here hx rfl (hb hby at_94) rfl k) ?_
      show Go p e below _ (T101.setTop (mkF m 95 #[.val (.int ip), .val (.ref b11), .val (.int (8 : Int32)), .val (.int (0 : Int32))] [(.int (8 : Int32)), (.ref b11)]))
      obtain ⟨cl159, Ar159, qk159, sz159, nn159, Ha159, Gf159⟩ := F102
      have hin160 : ¬ ((8 : Int32) < 0 ∨ cl159.slots.size ≤ ((8 : Int32)).toNatClampNeg) := inb_of sz159 ⟨by decide, by decide⟩
      have hat161 : cl159.slots[((8 : Int32)).toNatClampNeg]? = some (.ref k8_) := Has.at Ha159 hin160 rfl
      refine Go.by (fun t k => X101.aaload hx (j := (8 : Int32)) (v := (.ref k8_)) (by rw [e101]; exact Ar159.1) (State.isArrayOf_alike hZ.alike Ar159.2.1) rfl Ar159.2.2 hin160 hat161 (g := (mkF m 95 #[.val (.int ip), .val (.ref b11), .val (.int (8 : Int32)), .val (.int (0 : Int32))] [(.int (8 : Int32)), (.ref b11)])) rfl rfl (hb hby at_95) t k) ?_
      show Go p e below _ (T101.setTop (mkF m 96 #[.val (.int ip), .val (.ref b11), .val (.int (8 : Int32)), .val (.int (0 : Int32))] [(.ref k8_)]))
      have F163 : Old Z n0 h101 := (F96.wr W101 ge11)
      have F164 : Keep h0 h101 [] := ((((((((((((Keep.refl h0 []).ext E11).wr W29 (Or.inr sz11)).wr W37 (Or.inr sz11)).wr W45 (Or.inr sz11)).wr W53 (Or.inr sz11)).wr W61 (Or.inr sz11)).wr W69 (Or.inr sz11)).wr W77 (Or.inr sz11)).wr W85 (Or.inr sz11)).wr W93 (Or.inr sz11)).wr W101 (Or.inr sz11))
      have F165 : Exa Z h101 k8_ "com/example/whole_commit/wholecommit/Completions$Ending" := P18.ext F163.2
      obtain ⟨cq162, kq162, q162a, q162b, q162c⟩ := isOf hZ e101 F165
      obtain ⟨_, _, ⟨T162, L162, k162, n162⟩, -, X162, ⟨Lc162, hQ162, l162, y162, z162⟩, st162⟩ := X101.virtualBack hx (y := (⟨"com/example/whole_commit/wholecommit/Completions$Ending", "committed", "()Z"⟩ : MethodName)) (z := (⟨"com/example/whole_commit/wholecommit/Completions$Ending", "committed", "()Z"⟩ : MethodName)) hown (mvT hZ (hw _ (List.mem_of_getElem? (i := 25) rfl))) (mvT hZ (hw _ (List.mem_of_getElem? (i := 26) rfl))) (notFace_of_selects (args := #[]) (mvT hZ (hw _ (List.mem_of_getElem? (i := 28) rfl)))) (mvT hZ (hw _ (List.mem_of_getElem? (i := 28) rfl))) (mvT hZ (hw _ (List.mem_of_getElem? (i := 27) rfl))) (by decide) (backOf (W := 0) (com_f l Z a0 hw [] k8_ k0_ k1_ h101 n0 F163 P0 P1 n8_0 n8_1) hZ (hw _ (List.mem_of_getElem? (i := 29) rfl)) (hw _ (List.mem_of_getElem? (i := 3) rfl)) (by decide) (by decide)) q162a q162c (g := (mkF m 96 #[.val (.int ip), .val (.ref b11), .val (.int (8 : Int32)), .val (.int (0 : Int32))] [(.ref k8_)])) rfl (by rw [hml]; rfl) (Steps.refl _) (argsL := []) (rest := []) (lenOf pd_0 rfl) rfl (by show 2 * 0 + _ ≤ _; exact Nat.le_of_eq rfl) (hb hby at_96) (fun _ _ => ⟨rfl, e101, (by decide : 1 + 0 ≤ _), (by decide : 10 + 0 ≤ _)⟩)
      dsimp only [Pt.U, Pt.locs, Pt.cells, Pt.slots] at X162 l162 y162 z162 st162 hQ162
      subst l162 y162 z162
      obtain ⟨rfl, N162q, e162⟩ := hQ162
      have N162 := Fr.app N101 N162q
      refine Go.tr st162 ?_
      show Go p e below _ (T162.setTop (mkF m 99 #[.val (.int ip), .val (.ref b11), .val (.int (8 : Int32)), .val (.int (0 : Int32))] [(.int (0 : Int32))]))
      refine Go.by (fun t k => XS.iloadN X162.here hx rfl (hb hby at_99) rfl k) ?_
      show Go p e below _ (T162.setTop (mkF m 100 #[.val (.int ip), .val (.ref b11), .val (.int (8 : Int32)), .val (.int (0 : Int32))] [(.int (0 : Int32)), (.int (0 : Int32))]))
      refine Go.by (fun t k => XS.icmpNo X162.here hx rfl (hb hby at_100) rfl (teq rfl).2 k) ?_
      show Go p e below _ (T162.setTop (mkF m 103 #[.val (.int ip), .val (.ref b11), .val (.int (8 : Int32)), .val (.int (0 : Int32))] []))
      refine Go.by (fun t k => XS.iconst X162.here hx rfl (hb hby at_103) k) ?_
      show Go p e below _ (T162.setTop (mkF m 104 #[.val (.int ip), .val (.ref b11), .val (.int (8 : Int32)), .val (.int (0 : Int32))] [(.int (1 : Int32))]))
      refine Go.by (fun t k => XS.goto X162.here hx rfl (pc0 := 104) (pc' := 108) rfl (hb hby at_104) (by decide) (by decide) k) ?_
      show Go p e below _ (T162.setTop (mkF m 108 #[.val (.int ip), .val (.ref b11), .val (.int (8 : Int32)), .val (.int (0 : Int32))] [(.int (1 : Int32))]))
      have hq : Q_law Z ip k0_ k1_ k2_ k3_ k4_ k5_ k6_ k7_ k8_ k9_ h0 n0 (some (.int (nar .boolean (1 : Int32)))) h101 _ := ⟨rfl, N162, F164⟩
      exact Go.retN X162 hx (t := .boolean) Bd.returns (by simp) hlk (hb hby at_108) (by decide) (by decide) (by rw [e162]; exact hq)
    · skip
      show Go p e below _ (T101.setTop (mkF m 78 #[.val (.int ip), .val (.ref b11), .val (.int (9 : Int32)), .unset] []))
      refine Go.by (fun t k => XS.iloadN X101.here hx rfl (hb hby at_78) rfl k) ?_
      show Go p e below _ (T101.setTop (mkF m 79 #[.val (.int ip), .val (.ref b11), .val (.int (9 : Int32)), .unset] [(.int (9 : Int32))]))
      refine Go.by (fun t k => XS.ifNo X101.here hx rfl (hb hby at_79) rfl ((if0 _ _).trans (feq (by decide : ¬ ((9 : Int32) = (0 : Int32)))).1) k) ?_
      show Go p e below _ (T101.setTop (mkF m 82 #[.val (.int ip), .val (.ref b11), .val (.int (9 : Int32)), .unset] []))
      refine Go.by (fun t k => XS.iloadN X101.here hx rfl (hb hby at_82) rfl k) ?_
      show Go p e below _ (T101.setTop (mkF m 83 #[.val (.int ip), .val (.ref b11), .val (.int (9 : Int32)), .unset] [(.int (9 : Int32))]))
      refine Go.by (fun t k => XS.iconst X101.here hx rfl (hb hby at_83) k) ?_
      show Go p e below _ (T101.setTop (mkF m 84 #[.val (.int ip), .val (.ref b11), .val (.int (9 : Int32)), .unset] [(.int (1 : Int32)), (.int (9 : Int32))]))
      refine Go.by (fun t k => XS.icmpYes X101.here hx rfl (pc0 := 84) (pc' := 91) rfl (hb hby at_84) rfl (feq (by decide : ¬ ((9 : Int32) = (1 : Int32)))).2 (by decide) (by decide) k) ?_
      show Go p e below _ (T101.setTop (mkF m 91 #[.val (.int ip), .val (.ref b11), .val (.int (9 : Int32)), .unset] []))
      refine Go.by (fun t k => XS.iconst X101.here hx rfl (hb hby at_91) k) ?_
      show Go p e below _ (T101.setTop (mkF m 92 #[.val (.int ip), .val (.ref b11), .val (.int (9 : Int32)), .unset] [(.int (0 : Int32))]))
      refine Go.by (fun t k => XS.istoreN X101.here hx rfl (hb hby at_92) rfl (l' := #[.val (.int ip), .val (.ref b11), .val (.int (9 : Int32)), .val (.int (0 : Int32))]) rfl k) ?_
      show Go p e below _ (T101.setTop (mkF m 93 #[.val (.int ip), .val (.ref b11), .val (.int (9 : Int32)), .val (.int (0 : Int32))] []))
      refine Go.by (fun t k => XS.aloadN X101.here hx rfl (hb hby at_93) rfl rfl k) ?_
      show Go p e below _ (T101.setTop (mkF m 94 #[.val (.int ip), .val (.ref b11), .val (.int (9 : Int32)), .val (.int (0 : Int32))] [(.ref b11)]))
      refine Go.by (fun t k => XS.iloadN X101.here hx rfl (hb hby at_94) rfl k) ?_
      show Go p e below _ (T101.setTop (mkF m 95 #[.val (.int ip), .val (.ref b11), .val (.int (9 : Int32)), .val (.int (0 : Int32))] [(.int (9 : Int32)), (.ref b11)]))
      obtain ⟨cl166, Ar166, qk166, sz166, nn166, Ha166, Gf166⟩ := F102
      have hin167 : ¬ ((9 : Int32) < 0 ∨ cl166.slots.size ≤ ((9 : Int32)).toNatClampNeg) := inb_of sz166 ⟨by decide, by decide⟩
      have hat168 : cl166.slots[((9 : Int32)).toNatClampNeg]? = some (.ref k9_) := Has.at Ha166 hin167 rfl
      refine Go.by (fun t k => X101.aaload hx (j := (9 : Int32)) (v := (.ref k9_)) (by rw [e101]; exact Ar166.1) (State.isArrayOf_alike hZ.alike Ar166.2.1) rfl Ar166.2.2 hin167 hat168 (g := (mkF m 95 #[.val (.int ip), .val (.ref b11), .val (.int (9 : Int32)), .val (.int (0 : Int32))] [(.int (9 : Int32)), (.ref b11)])) rfl rfl (hb hby at_95) t k) ?_
      show Go p e below _ (T101.setTop (mkF m 96 #[.val (.int ip), .val (.ref b11), .val (.int (9 : Int32)), .val (.int (0 : Int32))] [(.ref k9_)]))
      have F170 : Old Z n0 h101 := (F96.wr W101 ge11)
      have F171 : Keep h0 h101 [] := ((((((((((((Keep.refl h0 []).ext E11).wr W29 (Or.inr sz11)).wr W37 (Or.inr sz11)).wr W45 (Or.inr sz11)).wr W53 (Or.inr sz11)).wr W61 (Or.inr sz11)).wr W69 (Or.inr sz11)).wr W77 (Or.inr sz11)).wr W85 (Or.inr sz11)).wr W93 (Or.inr sz11)).wr W101 (Or.inr sz11))
      have F172 : Exa Z h101 k9_ "com/example/whole_commit/wholecommit/Completions$Ending" := P19.ext F170.2
      obtain ⟨cq169, kq169, q169a, q169b, q169c⟩ := isOf hZ e101 F172
      obtain ⟨_, _, ⟨T169, L169, k169, n169⟩, -, X169, ⟨Lc169, hQ169, l169, y169, z169⟩, st169⟩ := X101.virtualBack hx (y := (⟨"com/example/whole_commit/wholecommit/Completions$Ending", "committed", "()Z"⟩ : MethodName)) (z := (⟨"com/example/whole_commit/wholecommit/Completions$Ending", "committed", "()Z"⟩ : MethodName)) hown (mvT hZ (hw _ (List.mem_of_getElem? (i := 25) rfl))) (mvT hZ (hw _ (List.mem_of_getElem? (i := 26) rfl))) (notFace_of_selects (args := #[]) (mvT hZ (hw _ (List.mem_of_getElem? (i := 28) rfl)))) (mvT hZ (hw _ (List.mem_of_getElem? (i := 28) rfl))) (mvT hZ (hw _ (List.mem_of_getElem? (i := 27) rfl))) (by decide) (backOf (W := 0) (com_f l Z a0 hw [] k9_ k0_ k1_ h101 n0 F170 P0 P1 n9_0 n9_1) hZ (hw _ (List.mem_of_getElem? (i := 29) rfl)) (hw _ (List.mem_of_getElem? (i := 3) rfl)) (by decide) (by decide)) q169a q169c (g := (mkF m 96 #[.val (.int ip), .val (.ref b11), .val (.int (9 : Int32)), .val (.int (0 : Int32))] [(.ref k9_)])) rfl (by rw [hml]; rfl) (Steps.refl _) (argsL := []) (rest := []) (lenOf pd_0 rfl) rfl (by show 2 * 0 + _ ≤ _; exact Nat.le_of_eq rfl) (hb hby at_96) (fun _ _ => ⟨rfl, e101, (by decide : 1 + 0 ≤ _), (by decide : 10 + 0 ≤ _)⟩)
      dsimp only [Pt.U, Pt.locs, Pt.cells, Pt.slots] at X169 l169 y169 z169 st169 hQ169
      subst l169 y169 z169
      obtain ⟨rfl, N169q, e169⟩ := hQ169
      have N169 := Fr.app N101 N169q
      refine Go.tr st169 ?_
      show Go p e below _ (T169.setTop (mkF m 99 #[.val (.int ip), .val (.ref b11), .val (.int (9 : Int32)), .val (.int (0 : Int32))] [(.int (0 : Int32))]))
      refine Go.by (fun t k => XS.iloadN X169.here hx rfl (hb hby at_99) rfl k) ?_
      show Go p e below _ (T169.setTop (mkF m 100 #[.val (.int ip), .val (.ref b11), .val (.int (9 : Int32)), .val (.int (0 : Int32))] [(.int (0 : Int32)), (.int (0 : Int32))]))
      refine Go.by (fun t k => XS.icmpNo X169.here hx rfl (hb hby at_100) rfl (teq rfl).2 k) ?_
      show Go p e below _ (T169.setTop (mkF m 103 #[.val (.int ip), .val (.ref b11), .val (.int (9 : Int32)), .val (.int (0 : Int32))] []))
      refine Go.by (fun t k => XS.iconst X169.here hx rfl (hb hby at_103) k) ?_
      show Go p e below _ (T169.setTop (mkF m 104 #[.val (.int ip), .val (.ref b11), .val (.int (9 : Int32)), .val (.int (0 : Int32))] [(.int (1 : Int32))]))
      refine Go.by (fun t k => XS.goto X169.here hx rfl (pc0 := 104) (pc' := 108) rfl (hb hby at_104) (by decide) (by decide) k) ?_
      show Go p e below _ (T169.setTop (mkF m 108 #[.val (.int ip), .val (.ref b11), .val (.int (9 : Int32)), .val (.int (0 : Int32))] [(.int (1 : Int32))]))
      have hq : Q_law Z ip k0_ k1_ k2_ k3_ k4_ k5_ k6_ k7_ k8_ k9_ h0 n0 (some (.int (nar .boolean (1 : Int32)))) h101 _ := ⟨rfl, N169, F171⟩
      exact Go.retN X169 hx (t := .boolean) Bd.returns (by simp) hlk (hb hby at_108) (by decide) (by decide) (by rw [e169]; exact hq)
  exact J78 _ (own_mod10 _)
set_option maxRecDepth 65536 in
set_option maxHeartbeats 40000000 in
theorem comes_1 {Post : Tables → Env → Array Value → State → Outcome → State → Prop} (hpost : ∀ tb e args s v u, (limb_1_1.after args s (.returned v) u = true ∧ limb_1_2.after args s (.returned v) u = true ∧ True) → FrameEnd s (.returned v) u (Jvm.fieldLocs frame_1_writes args s ++ Jvm.arrayLocs frame_1_arrays args s ++ Jvm.staticLocs frame_1_statics s) 16 128 → Post tb e args s (.returned v) u) :
    ArmFor flags0 classFile x code maxLocals ret World_1 tables_1 room_1 Calls_1 rest_1 Pre_1 Post := by
  intro l hfl _ _ p e ha hc hk s m args below hf hA hF happ hP
  obtain ⟨hcalls, hrest, hpre⟩ := hP
  obtain ⟨-, -, -, hnamed, -, -, -, hat⟩ := (Spec.applies_iff hf).mp happ
  obtain ⟨hg, hn⟩ := and_e (Cond.before_iff.mp (show (Jvm.Cond.and given_1 narrow_1).before args s = true from hpre))
  obtain ⟨hcnt, hv0⟩ := and_e hg
  obtain ⟨w0, rfl⟩ : ∃ w0 : Value, args = #[w0] := by
    have hs : args.size = 1 := by simpa [Cond.value, given_1] using hcnt
    obtain ⟨L⟩ := args
    match L, hs with
    | [w0], _ => exact ⟨w0, rfl⟩
  have hw := fun d (hd : d ∈ tables_1) => atoms_spec (ws := Jvm.Cond.code x code maxLocals ret :: tables_1) hat d (List.mem_cons_of_mem _ hd)
  have hfit : Fit s := fun {y c} hc i hi => by
    obtain ⟨ha, rfl⟩ := Array.getElem?_eq_some_iff.mp hc
    have q := List.all_eq_true.mp ((Array.all_eq_true_iff_forall_mem.mp hF) _ (Array.getElem_mem ha)) i (List.mem_range.mpr hi)
    simpa [Array.getElem?_eq_getElem hi] using q
  obtain ⟨i0, ei0⟩ := is_v hv0
  obtain rfl : w0 = (.int i0) := Option.some.inj ei0
  obtain ⟨q0, r0⟩ := and_e hn
  obtain ⟨q1, r1⟩ := and_e r0
  obtain ⟨q2, r2⟩ := and_e r1
  obtain ⟨q3, r3⟩ := and_e r2
  obtain ⟨q4, r4⟩ := and_e r3
  obtain ⟨q5, r5⟩ := and_e r4
  obtain ⟨q6, r6⟩ := and_e r5
  obtain ⟨q7, r7⟩ := and_e r6
  obtain ⟨q8, r8⟩ := and_e r7
  obtain ⟨q9, r9⟩ := and_e r8
  obtain ⟨q10, r10⟩ := and_e r9
  obtain ⟨q11, r11⟩ := and_e r10
  obtain ⟨q12, r12⟩ := and_e r11
  obtain ⟨q13, r13⟩ := and_e r12
  obtain ⟨q14, r14⟩ := and_e r13
  obtain ⟨q15, r15⟩ := and_e r14
  obtain ⟨q16, r16⟩ := and_e r15
  obtain ⟨q17, r17⟩ := and_e r16
  obtain ⟨q18, r18⟩ := and_e r17
  obtain ⟨k0_, hs0⟩ := exa_v q0
  have S0 := Sta.start hs0 (Or.inr ⟨(hw _ (List.mem_of_getElem? (i := 3) rfl)), (hw _ (List.mem_of_getElem? (i := 4) rfl))⟩)
  have E0 := Exa.start hs0 q0
  obtain ⟨k1_, hs1⟩ := exa_v q1
  have S1 := Sta.start hs1 (Or.inr ⟨(hw _ (List.mem_of_getElem? (i := 3) rfl)), (hw _ (List.mem_of_getElem? (i := 7) rfl))⟩)
  have E1 := Exa.start hs1 q1
  obtain ⟨k2_, hs2⟩ := exa_v q2
  have S2 := Sta.start hs2 (Or.inr ⟨(hw _ (List.mem_of_getElem? (i := 3) rfl)), (hw _ (List.mem_of_getElem? (i := 9) rfl))⟩)
  have E2 := Exa.start hs2 q2
  obtain ⟨k3_, hs3⟩ := exa_v q3
  have S3 := Sta.start hs3 (Or.inr ⟨(hw _ (List.mem_of_getElem? (i := 3) rfl)), (hw _ (List.mem_of_getElem? (i := 11) rfl))⟩)
  have E3 := Exa.start hs3 q3
  obtain ⟨k4_, hs4⟩ := exa_v q4
  have S4 := Sta.start hs4 (Or.inr ⟨(hw _ (List.mem_of_getElem? (i := 3) rfl)), (hw _ (List.mem_of_getElem? (i := 13) rfl))⟩)
  have E4 := Exa.start hs4 q4
  obtain ⟨k5_, hs5⟩ := exa_v q5
  have S5 := Sta.start hs5 (Or.inr ⟨(hw _ (List.mem_of_getElem? (i := 3) rfl)), (hw _ (List.mem_of_getElem? (i := 15) rfl))⟩)
  have E5 := Exa.start hs5 q5
  obtain ⟨k6_, hs6⟩ := exa_v q6
  have S6 := Sta.start hs6 (Or.inr ⟨(hw _ (List.mem_of_getElem? (i := 3) rfl)), (hw _ (List.mem_of_getElem? (i := 17) rfl))⟩)
  have E6 := Exa.start hs6 q6
  obtain ⟨k7_, hs7⟩ := exa_v q7
  have S7 := Sta.start hs7 (Or.inr ⟨(hw _ (List.mem_of_getElem? (i := 3) rfl)), (hw _ (List.mem_of_getElem? (i := 19) rfl))⟩)
  have E7 := Exa.start hs7 q7
  obtain ⟨k8_, hs8⟩ := exa_v q8
  have S8 := Sta.start hs8 (Or.inr ⟨(hw _ (List.mem_of_getElem? (i := 3) rfl)), (hw _ (List.mem_of_getElem? (i := 21) rfl))⟩)
  have E8 := Exa.start hs8 q8
  obtain ⟨k9_, hs9⟩ := exa_v q9
  have S9 := Sta.start hs9 (Or.inr ⟨(hw _ (List.mem_of_getElem? (i := 3) rfl)), (hw _ (List.mem_of_getElem? (i := 23) rfl))⟩)
  have E9 := Exa.start hs9 q9
  have D3 := Fld.start ((fld_at hs3).symm.trans (own_eq_int q10))
  have D0 := Fld.start ((fld_at hs0).symm.trans (own_eq_int q11))
  have D1 := Fld.start ((fld_at hs1).symm.trans (own_eq_int q12))
  have D4 := Fld.start ((fld_at hs4).symm.trans (own_eq_int q13))
  have D7 := Fld.start ((fld_at hs7).symm.trans (own_eq_int q14))
  have D2 := Fld.start ((fld_at hs2).symm.trans (own_eq_int q15))
  have D8 := Fld.start ((fld_at hs8).symm.trans (own_eq_int q16))
  have D9 := Fld.start ((fld_at hs9).symm.trans (own_eq_int q17))
  have D5 := Fld.start ((fld_at hs5).symm.trans (own_eq_int q18))
  have D6 := Fld.start ((fld_at hs6).symm.trans (own_eq_int r18))
  obtain ⟨n, o, h1, h2, h3, _, L, rfl, ⟨rfl, N, -⟩, hq⟩ := law l s _ hw tables_1 i0 k0_ k1_ k2_ k3_ k4_ k5_ k6_ k7_ k8_ k9_ s.heap s.heap.size (Old.start s) S0 S1 S2 S3 S4 S5 S6 S7 S8 S9 E0 E1 E2 E3 E4 E5 E6 E7 E8 E9 (Fld.ne D2 D0 (by decide)) (Fld.ne D3 D0 (by decide)) (Fld.ne D4 D0 (by decide)) (Fld.ne D5 D0 (by decide)) (Fld.ne D6 D0 (by decide)) (Fld.ne D7 D0 (by decide)) (Fld.ne D8 D0 (by decide)) (Fld.ne D9 D0 (by decide)) (Fld.ne D2 D1 (by decide)) (Fld.ne D3 D1 (by decide)) (Fld.ne D4 D1 (by decide)) (Fld.ne D5 D1 (by decide)) (Fld.ne D6 D1 (by decide)) (Fld.ne D7 D1 (by decide)) (Fld.ne D8 D1 (by decide)) (Fld.ne D9 D1 (by decide)) p e ha hc hk s m _ below hf ((Spec.applies_iff_loose hf).mp happ).1 ⟨rfl, State.Warmed39.refl s, rfl⟩ trivial
  refine ⟨n, _, h1, h2, h3, hpost _ _ _ _ _ _ ⟨Cond.after_iff.mpr rfl, Cond.after_iff.mpr (eq_i res_at (Term.int_eval (1)) rfl), trivial⟩ ⟨hq.1, hq.2.1, (hq.2.2.sift fun y hy => Or.inr (N y hy)).mono (by decide) (by decide)⟩⟩
theorem main_1_1 : Claimed_1_1 := comes_1 fun _ _ _ _ _ _ h hF => ⟨h.1, hF⟩
theorem main_1_2 : Claimed_1_2 := comes_1 fun _ _ _ _ _ _ h hF => ⟨h.2.1, hF⟩
end Jvm.Pilot.@@N@@
namespace Jvm.Pilot.@@N@@
open Jvm Jvm.ClassFile Sem Op Lib Jvm.Free Jvm.Stand Jvm.Pilot.@@N@@.Jvm.D
/-! MADE BY PROGRAM (witnessworld.py) out of the Statement's table words and the real class files: 13 classes; the members and pool entries that the words name. The judged class is class 1, her method 1. -/
namespace start1
open Jvm.ClassFile
def u (s : String) : CpInfo := .utf8 (stringToUtf16 s)
/-- a pool by its gaps: so many unusable entries, then the entry; so many at the end -/
def gap : Nat → List CpInfo → List CpInfo
  | 0, r => r
  | n + 1, r => .unusable :: gap n r
def poolList (es : List (Nat × CpInfo)) (last : Nat) : List CpInfo := es.foldr (fun e r => gap e.1 (e.2 :: r)) (gap last [])
def pool (es : List (Nat × CpInfo)) (last : Nat) : Array CpInfo := ⟨poolList es last⟩
def fileOf (pool : Array CpInfo) (this : Nat) (attrs : Array Attribute := #[]) (ms : Array MethodInfo := #[]) (fl : Nat := 33) (sup : Nat := 0) (ifs : Array Nat := #[]) (fds : Array FieldInfo := #[]) : ClassFile where
  minorVersion := 0
  majorVersion := 65
  constantPool := pool
  accessFlags := fl
  thisClass := this
  superClass := sup
  interfaces := ifs
  fields := fds
  methods := ms
  attributes := attrs
def plain (name : String) (sup : Option ClassId) : Class where
  name := name
  kind := .ordinary
  loader := none
  accessFlags := 33
  super := sup
  interfaces := #[]
  cf := none
  fields := #[]
  methods := #[]
  instanceTypes := #[]
  staticTypes := #[]
  resolved := #[]
  callSites := []
  init := .initialized
  statics := none
  mirror := none

def pool0 : Array CpInfo := pool [(5, u "<init>"), (0, u "()V"), (1, .class_ 10), (1, u "java/lang/Object")] 113

def k0m0 : Method := { name := "<init>", desc := "()V", sig := { parameters := [], returnType := none }, accessFlags := 1, code := none }
/-- java/lang/Object -/
def k0 : Class := { plain "java/lang/Object" none with
  accessFlags := 33
  interfaces := #[]
  cf := some (fileOf pool0 8 #[] #[{ accessFlags := 1, nameIndex := 5, descriptorIndex := 6, attributes := #[] }] 33 0 #[] #[])
  fields := #[]
  methods := #[k0m0]
  instanceTypes := #[]
  staticTypes := #[]
  resolved := Array.replicate 124 none
  statics := none }

def pool1 : Array CpInfo := pool [(2, .class_ 4), (1, u "java/lang/Object"), (0, u "<init>"), (0, u "()V"), (0, .class_ 8), (0, u "com/example/whole_commit/wholecommit/Completions$Ending"), (0, .fieldref 7 10), (0, .nameAndType 11 12), (0, u "COMMITTED_IN_TWO_PHASES"), (0, u "Lcom/example/whole_commit/wholecommit/Completions$Ending;"), (0, .fieldref 7 14), (0, .nameAndType 15 12), (0, u "COMMITTED_IN_ONE_PHASE"), (0, .fieldref 7 17), (0, .nameAndType 18 12), (0, u "ROLLED_BACK_BY_THE_APPLICATION"), (0, .fieldref 7 20), (0, .nameAndType 21 12), (0, u "ROLLED_BACK_BY_A_BRANCH"), (0, .fieldref 7 23), (0, .nameAndType 24 12), (0, u "ROLLED_BACK_ON_TIMEOUT_OR_ROLLBACK_ONLY"), (0, .fieldref 7 26), (0, .nameAndType 27 12), (0, u "ROLLED_BACK_OTHERWISE"), (0, .fieldref 7 29), (0, .nameAndType 30 12), (0, u "HEURISTIC_MIXED"), (0, .fieldref 7 32), (0, .nameAndType 33 12), (0, u "HEURISTIC_ROLLBACK"), (0, .fieldref 7 35), (0, .nameAndType 36 12), (0, u "HEURISTIC_HAZARD"), (0, .fieldref 7 38), (0, .nameAndType 39 12), (0, u "OUTCOME_UNKNOWN"), (0, .integer 2147483647), (0, .methodref 7 42), (0, .nameAndType 43 44), (0, u "committed"), (0, u "()Z"), (0, .class_ 46), (0, u "com/example/whole_commit/wholecommit/EndingCommittedPinLaw"), (2, u "law"), (0, u "(I)Z")] 9

def k1m0 : Method := { name := "<init>", desc := "()V", sig := { parameters := [], returnType := none }, accessFlags := 1, code := none }
def k1c1 : Code := { maxStack := 4, maxLocals := 4, code := code, exceptionTable := #[], attributes := #[] }
def k1m1 : Method := { name := "law", desc := "(I)Z", sig := { parameters := [.int], returnType := some .boolean }, accessFlags := 9, code := some k1c1 }
/-- com/example/whole_commit/wholecommit/EndingCommittedPinLaw -/
def k1 : Class := { plain "com/example/whole_commit/wholecommit/EndingCommittedPinLaw" (some 0) with
  accessFlags := 49
  interfaces := #[]
  cf := some (fileOf pool1 45 #[] #[{ accessFlags := 1, nameIndex := 5, descriptorIndex := 6, attributes := #[] }, { accessFlags := 9, nameIndex := 49, descriptorIndex := 50, attributes := #[] }] 49 2 #[] #[])
  fields := #[]
  methods := #[k1m0, k1m1]
  instanceTypes := #[]
  staticTypes := #[]
  resolved := Array.replicate 60 none
  statics := none }

def pool2 : Array CpInfo := pool [(1, .class_ 2), (0, u "java/lang/constant/Constable"), (0, .class_ 4), (0, u "java/lang/Object")] 6

/-- java/lang/constant/Constable -/
def k2 : Class := { plain "java/lang/constant/Constable" (some 0) with
  accessFlags := 1537
  interfaces := #[]
  cf := some (fileOf pool2 1 #[] #[] 1537 3 #[] #[])
  fields := #[]
  methods := #[]
  instanceTypes := #[]
  staticTypes := #[]
  resolved := Array.replicate 11 none
  statics := none }

def pool3 : Array CpInfo := pool [(1, .class_ 2), (0, u "java/lang/Comparable"), (0, .class_ 4), (0, u "java/lang/Object")] 7

/-- java/lang/Comparable -/
def k3 : Class := { plain "java/lang/Comparable" (some 0) with
  accessFlags := 1537
  interfaces := #[]
  cf := some (fileOf pool3 1 #[] #[] 1537 3 #[] #[])
  fields := #[]
  methods := #[]
  instanceTypes := #[]
  staticTypes := #[]
  resolved := Array.replicate 12 none
  statics := none }

def pool4 : Array CpInfo := pool [(1, .class_ 2), (0, u "java/io/Serializable"), (0, .class_ 4), (0, u "java/lang/Object")] 2

/-- java/io/Serializable -/
def k4 : Class := { plain "java/io/Serializable" (some 0) with
  accessFlags := 1537
  interfaces := #[]
  cf := some (fileOf pool4 1 #[] #[] 1537 3 #[] #[])
  fields := #[]
  methods := #[]
  instanceTypes := #[]
  staticTypes := #[]
  resolved := Array.replicate 7 none
  statics := none }

def pool5 : Array CpInfo := pool [(2, .class_ 4), (1, u "java/lang/Enum"), (0, u "name"), (0, u "Ljava/lang/String;"), (2, u "ordinal"), (0, u "I"), (1, .class_ 14), (1, u "java/lang/Object"), (4, u "hash"), (86, .class_ 108), (1, u "java/lang/Enum$EnumDesc"), (2, .class_ 112), (0, u "java/lang/constant/Constable"), (0, .class_ 114), (0, u "java/lang/Comparable"), (0, .class_ 116), (0, u "java/io/Serializable")] 87

/-- java/lang/Enum -/
def k5 : Class := { plain "java/lang/Enum" (some 0) with
  accessFlags := 1057
  interfaces := #[2, 3, 4]
  cf := some (fileOf pool5 2 #[.nestMembers #[106]] #[] 1057 12 #[111, 113, 115] #[{ accessFlags := 18, nameIndex := 5, descriptorIndex := 6, attributes := #[] }, { accessFlags := 18, nameIndex := 9, descriptorIndex := 10, attributes := #[] }, { accessFlags := 2, nameIndex := 19, descriptorIndex := 10, attributes := #[] }])
  fields := #[{ name := "name", type := (.object "java/lang/String"), accessFlags := 18, slot := 0, constantValue := 0 }, { name := "ordinal", type := .int, accessFlags := 18, slot := 1, constantValue := 0 }, { name := "hash", type := .int, accessFlags := 2, slot := 2, constantValue := 0 }]
  methods := #[]
  instanceTypes := #[(.object "java/lang/String"), .int, .int]
  staticTypes := #[]
  resolved := Array.replicate 204 none
  statics := none }

def pool6 : Array CpInfo := pool [(1, .class_ 2), (0, u "com/example/whole_commit/wholecommit/Completions$Ending"), (0, .fieldref 1 4), (0, .nameAndType 5 6), (0, u "COMMITTED_IN_TWO_PHASES"), (0, u "Lcom/example/whole_commit/wholecommit/Completions$Ending;"), (0, .fieldref 1 8), (0, .nameAndType 9 6), (0, u "COMMITTED_IN_ONE_PHASE"), (2, u "ROLLED_BACK_BY_THE_APPLICATION"), (2, u "ROLLED_BACK_BY_A_BRANCH"), (2, u "ROLLED_BACK_ON_TIMEOUT_OR_ROLLBACK_ONLY"), (2, u "ROLLED_BACK_OTHERWISE"), (2, u "HEURISTIC_MIXED"), (2, u "HEURISTIC_ROLLBACK"), (2, u "HEURISTIC_HAZARD"), (2, u "OUTCOME_UNKNOWN"), (2, u "$VALUES"), (0, u "[Lcom/example/whole_commit/wholecommit/Completions$Ending;"), (6, .class_ 46), (1, u "java/lang/Enum"), (28, u "committed"), (0, u "()Z"), (6, .class_ 84), (0, u "com/example/whole_commit/wholecommit/Completions")] 2

def k6c0 : Code := { maxStack := 2, maxLocals := 1, code := prog_8_method_4_code, exceptionTable := #[], attributes := #[] }
def k6m0 : Method := { name := "committed", desc := "()Z", sig := { parameters := [], returnType := some .boolean }, accessFlags := 0, code := some k6c0 }
/-- com/example/whole_commit/wholecommit/Completions$Ending -/
def k6 : Class := { plain "com/example/whole_commit/wholecommit/Completions$Ending" (some 5) with
  accessFlags := 16432
  interfaces := #[]
  cf := some (fileOf pool6 1 #[.nestHost 83] #[{ accessFlags := 0, nameIndex := 75, descriptorIndex := 76, attributes := #[] }] 16432 44 #[] #[{ accessFlags := 16409, nameIndex := 5, descriptorIndex := 6, attributes := #[] }, { accessFlags := 16409, nameIndex := 9, descriptorIndex := 6, attributes := #[] }, { accessFlags := 16409, nameIndex := 12, descriptorIndex := 6, attributes := #[] }, { accessFlags := 16409, nameIndex := 15, descriptorIndex := 6, attributes := #[] }, { accessFlags := 16409, nameIndex := 18, descriptorIndex := 6, attributes := #[] }, { accessFlags := 16409, nameIndex := 21, descriptorIndex := 6, attributes := #[] }, { accessFlags := 16409, nameIndex := 24, descriptorIndex := 6, attributes := #[] }, { accessFlags := 16409, nameIndex := 27, descriptorIndex := 6, attributes := #[] }, { accessFlags := 16409, nameIndex := 30, descriptorIndex := 6, attributes := #[] }, { accessFlags := 16409, nameIndex := 33, descriptorIndex := 6, attributes := #[] }, { accessFlags := 4122, nameIndex := 36, descriptorIndex := 37, attributes := #[] }])
  fields := #[{ name := "COMMITTED_IN_TWO_PHASES", type := (.object "com/example/whole_commit/wholecommit/Completions$Ending"), accessFlags := 16409, slot := 0, constantValue := 0 }, { name := "COMMITTED_IN_ONE_PHASE", type := (.object "com/example/whole_commit/wholecommit/Completions$Ending"), accessFlags := 16409, slot := 1, constantValue := 0 }, { name := "ROLLED_BACK_BY_THE_APPLICATION", type := (.object "com/example/whole_commit/wholecommit/Completions$Ending"), accessFlags := 16409, slot := 2, constantValue := 0 }, { name := "ROLLED_BACK_BY_A_BRANCH", type := (.object "com/example/whole_commit/wholecommit/Completions$Ending"), accessFlags := 16409, slot := 3, constantValue := 0 }, { name := "ROLLED_BACK_ON_TIMEOUT_OR_ROLLBACK_ONLY", type := (.object "com/example/whole_commit/wholecommit/Completions$Ending"), accessFlags := 16409, slot := 4, constantValue := 0 }, { name := "ROLLED_BACK_OTHERWISE", type := (.object "com/example/whole_commit/wholecommit/Completions$Ending"), accessFlags := 16409, slot := 5, constantValue := 0 }, { name := "HEURISTIC_MIXED", type := (.object "com/example/whole_commit/wholecommit/Completions$Ending"), accessFlags := 16409, slot := 6, constantValue := 0 }, { name := "HEURISTIC_ROLLBACK", type := (.object "com/example/whole_commit/wholecommit/Completions$Ending"), accessFlags := 16409, slot := 7, constantValue := 0 }, { name := "HEURISTIC_HAZARD", type := (.object "com/example/whole_commit/wholecommit/Completions$Ending"), accessFlags := 16409, slot := 8, constantValue := 0 }, { name := "OUTCOME_UNKNOWN", type := (.object "com/example/whole_commit/wholecommit/Completions$Ending"), accessFlags := 16409, slot := 9, constantValue := 0 }, { name := "$VALUES", type := (.array (.object "com/example/whole_commit/wholecommit/Completions$Ending")), accessFlags := 4122, slot := 10, constantValue := 0 }]
  methods := #[k6m0]
  instanceTypes := #[(.object "java/lang/String"), .int, .int]
  staticTypes := #[(.object "com/example/whole_commit/wholecommit/Completions$Ending"), (.object "com/example/whole_commit/wholecommit/Completions$Ending"), (.object "com/example/whole_commit/wholecommit/Completions$Ending"), (.object "com/example/whole_commit/wholecommit/Completions$Ending"), (.object "com/example/whole_commit/wholecommit/Completions$Ending"), (.object "com/example/whole_commit/wholecommit/Completions$Ending"), (.object "com/example/whole_commit/wholecommit/Completions$Ending"), (.object "com/example/whole_commit/wholecommit/Completions$Ending"), (.object "com/example/whole_commit/wholecommit/Completions$Ending"), (.object "com/example/whole_commit/wholecommit/Completions$Ending"), (.array (.object "com/example/whole_commit/wholecommit/Completions$Ending"))]
  resolved := Array.replicate 87 none
  statics := some 0 }

def pool7 : Array CpInfo := pool [(1, u "java/lang/Cloneable"), (0, .class_ 1), (0, u "java/lang/Object"), (0, .class_ 3)] 3

/-- java/lang/Cloneable -/
def k7 : Class := { plain "java/lang/Cloneable" (some 0) with
  accessFlags := 1537
  interfaces := #[]
  cf := some (fileOf pool7 2 #[] #[] 1537 4 #[] #[])
  fields := #[]
  methods := #[]
  instanceTypes := #[]
  staticTypes := #[]
  resolved := Array.replicate 8 none
  statics := none }

/-- the primitive byte -/
def k8 : Class := { plain "byte" none with kind := .primitive 'B', accessFlags := 0x411 }
/-- [B -/
def k9 : Class := { plain "[B" (some 0) with kind := .array 8 .byte, interfaces := #[7, 4], accessFlags := 1041 }

/-- the primitive int -/
def k10 : Class := { plain "int" none with kind := .primitive 'I', accessFlags := 0x411 }
/-- [I -/
def k11 : Class := { plain "[I" (some 0) with kind := .array 10 .int, interfaces := #[7, 4], accessFlags := 1041 }

/-- [Lcom/example/whole_commit/wholecommit/Completions$Ending; -/
def k12 : Class := { plain "[Lcom/example/whole_commit/wholecommit/Completions$Ending;" (some 0) with kind := .array 6 (.object "com/example/whole_commit/wholecommit/Completions$Ending"), interfaces := #[7, 4], accessFlags := 1041 }

def heap : Heap := #[{ cls := 6, slots := #[.ref 1, .ref 2, .ref 3, .ref 4, .ref 5, .ref 6, .ref 7, .ref 8, .ref 9, .ref 10, .null], vm := .statics 6 },
  { cls := 6, slots := #[.null, .int 0, .int 0], vm := .none },
  { cls := 6, slots := #[.null, .int 1, .int 0], vm := .none },
  { cls := 6, slots := #[.null, .int 2, .int 0], vm := .none },
  { cls := 6, slots := #[.null, .int 3, .int 0], vm := .none },
  { cls := 6, slots := #[.null, .int 4, .int 0], vm := .none },
  { cls := 6, slots := #[.null, .int 5, .int 0], vm := .none },
  { cls := 6, slots := #[.null, .int 6, .int 0], vm := .none },
  { cls := 6, slots := #[.null, .int 7, .int 0], vm := .none },
  { cls := 6, slots := #[.null, .int 8, .int 0], vm := .none },
  { cls := 6, slots := #[.null, .int 9, .int 0], vm := .none }]
def classes : Array Class := #[k0, k1, k2, k3, k4, k5, k6, k7, k8, k9, k10, k11, k12]
def interned : List (Array UInt16 × Addr) := []
def slotsUsed : Nat := 41
def theMethod : MethodId := ⟨1, 1⟩
def args0 : Array Value := #[.int 5]
def aboutOver (below : List Frame) : State where
  vm := { classes := classes, interned := interned.toArray }
  heap := heap
  slotsUsed := slotsUsed
  threads := #[{ frames := .invoking theMethod args0 :: below }]
def below0 : List Frame := [.native { method := ⟨0, 0⟩, args := #[] }]
def about1 : State := aboutOver below0
def p0 : Program := .bare "" "" ""
def e0 : Env := launch0.env 0 0 0
theorem w_frames : about1.frames = Frame.invoking theMethod args0 :: below0 := rfl
set_option maxRecDepth 65536 in
theorem w_args : argsFit about1.vm theMethod args0 = true := by decide +kernel
set_option maxRecDepth 65536 in
theorem w_heap : heapFits about1 = true := by decide +kernel
set_option maxRecDepth 65536 in
theorem w_runnable : about1.curStatus? = some .runnable := by decide +kernel
set_option maxRecDepth 65536 in
theorem w_alone : about1.alone = true := by decide +kernel
set_option maxRecDepth 65536 in
theorem w_named : about1.methodNamed? x = some theMethod := by decide +kernel
set_option maxRecDepth 65536 in
theorem w_hears : about1.hears theMethod below0 = true := by decide +kernel
set_option maxRecDepth 65536 in
theorem w_ripe : about1.ripe theMethod args0 below0 = true := by decide +kernel
theorem w_running : about1.status = .running := rfl
set_option maxRecDepth 65536 in
theorem w_room : about1.hasRoom e0.platform room_1 = true :=
  launch0.hasRoom_least _ room_1 (by decide +kernel) (by decide +kernel) (by decide +kernel) (by decide +kernel) (by decide +kernel) (by decide +kernel)
theorem allAtoms_all (ts : List Jvm.Cond) (a : Array Jvm.Value) (st : Jvm.State) : (allAtoms ts).before a st = ts.all (fun c => c.before a st) := by
  induction ts with
  | nil => rfl
  | cons c t ih =>
    show (Jvm.Cond.and c (allAtoms t)).before a st = _
    rw [Jvm.Cond.before_and, ih, List.all_cons]
def words1 : List Jvm.Cond := Jvm.Cond.code x code maxLocals ret :: tables_1
/-- a 'code' word, met by the world's own term for the bytes: nothing is compared byte by byte -/
theorem code_word {y : MethodName} {bytes : ByteArray} {mx : Nat} {rt : Option FieldType} {a : Array Value} {s : State} {m : MethodId} {meth : Method} {c : Code} (h1 : s.methodNamed? y = some m) (h2 : s.vm.method? m = some meth) (h3 : meth.code = some c) (h4 : c.code = bytes)
    (h5 : (c.maxLocals == mx && c.exceptionTable.isEmpty && decide (c.maxStack ≤ mostOperands) && decide (meth.sig.returnType = rt) && !meth.locks && decide (parseMethodDescriptor y.desc = some meth.sig)) = true) : (Jvm.Cond.code y bytes mx rt).before a s = true := by
  simp only [Bool.and_eq_true, beq_iff_eq, Bool.not_eq_true', decide_eq_true_eq] at h5
  obtain ⟨⟨⟨⟨⟨g1, g2⟩, g3⟩, g4⟩, g5⟩, g6⟩ := h5
  simp [Cond.before, Cond.holds, Cond.value, h1, h2, h3, h4, g1, g2, g3, g4, g5, g6]
def isCode : Jvm.Cond → Bool
  | .code _ _ _ _ => true
  | _ => false
theorem all_split {L : List Jvm.Cond} {P : Jvm.Cond → Bool} (h1 : L.all (fun c => isCode c || P c) = true) (h2 : ∀ c ∈ L.filter isCode, P c = true) : L.all P = true := by
  refine List.all_eq_true.mpr fun c hc => ?_
  have h := List.all_eq_true.mp h1 c hc
  rcases Bool.eq_false_or_eq_true (isCode c) with hi | hi
  · exact h2 c (List.mem_filter.mpr ⟨hc, hi⟩)
  · simpa [hi] using h
set_option maxRecDepth 65536 in
theorem w_c0 : (Jvm.Cond.code x code maxLocals ret).before args0 about1 = true := code_word (m := ⟨1, 1⟩) (meth := k1m1) (c := k1c1) (by decide +kernel) rfl rfl rfl (by decide +kernel)
set_option maxRecDepth 65536 in
theorem w_c1 : (Jvm.Cond.code ({ cls := "com/example/whole_commit/wholecommit/Completions$Ending", name := "committed", desc := "()Z" } : Jvm.MethodName) prog_8_method_4_code (1 : Nat) (Option.some Jvm.ClassFile.FieldType.boolean)).before args0 about1 = true := code_word (m := ⟨6, 0⟩) (meth := k6m0) (c := k6c0) (by decide +kernel) rfl rfl rfl (by decide +kernel)
def codes1 : List Jvm.Cond := [Jvm.Cond.code x code maxLocals ret, Jvm.Cond.code ({ cls := "com/example/whole_commit/wholecommit/Completions$Ending", name := "committed", desc := "()Z" } : Jvm.MethodName) prog_8_method_4_code (1 : Nat) (Option.some Jvm.ClassFile.FieldType.boolean)]
set_option maxRecDepth 65536 in
theorem codes_eq : words1.filter isCode = codes1 := rfl
theorem w_codes : ∀ c ∈ words1.filter isCode, c.before args0 about1 = true := by
  rw [codes_eq]
  intro c hc
  simp only [codes1, List.mem_cons, List.not_mem_nil, or_false] at hc
  rcases hc with rfl | rfl
  · exact w_c0
  · exact w_c1
set_option maxRecDepth 65536 in
theorem w_t1 : (words1.take 24).all (fun c => isCode c || c.before args0 about1) = true := by decide +kernel
set_option maxRecDepth 65536 in
theorem w_t2 : (words1.drop 24).all (fun c => isCode c || c.before args0 about1) = true := by decide +kernel
theorem w_tables : (allAtoms (Jvm.Cond.code x code maxLocals ret :: tables_1)).before args0 about1 = true := by
  rw [allAtoms_all]
  show words1.all (fun c => c.before args0 about1) = true
  refine all_split ?_ w_codes
  rw [← List.take_append_drop 24 words1, List.all_append, w_t1, w_t2]
  rfl
set_option maxRecDepth 65536 in
theorem w_case : (Jvm.Cond.and given_1 narrow_1).before args0 about1 = true := by decide +kernel
theorem w_applies : (headSpec (Jvm.Cond.code x code maxLocals ret :: tables_1) room_1).applies x e0.platform about1 = true :=
  (Spec.applies_iff w_frames).mpr ⟨w_running, w_runnable, w_alone, w_named, w_hears, w_ripe, w_room, w_tables⟩
theorem atStart : AtStart classFile x code maxLocals ret World_1 tables_1 room_1 Calls_1 rest_1 Pre_1 launch0 p0 e0 about1 theMethod args0 below0 :=
  ⟨lists_1, trivial, launch0.admits_env _ _ _, launch0.least_env, fairChoices_fair.cas, fairChoices_fair.clock, w_frames, w_args, w_heap, w_applies, trivial, trivial, w_case⟩
end start1
theorem witness_1 : WitnessClaimed_1 := ⟨start1.p0, start1.e0, start1.about1, start1.theMethod, start1.args0, start1.below0, start1.atStart⟩
end Jvm.Pilot.@@N@@
