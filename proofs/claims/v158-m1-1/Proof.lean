import JvmDerived
import JvmDerived.Pilot.@@N@@Statement
import JvmDerived.Pilot.@@N@@Code
set_option linter.unusedVariables false
set_option linter.unusedSimpArgs false
namespace Jvm.RoadKit
open Sem ClassFile Op Lib Jvm.Stand Jvm.Free Jvm.LawKit
section New
variable {p : Program} {l : Launch} {e : Env} {R : Room} {s : State} {m : MethodId} {args : Array Value} {below : List Frame} {meth : Method} {c : Code} {T : State} {locs : List Loc} {cells slots : Nat}
theorem retI (X : Stand p l e R s m args below meth c T locs cells slots) (hx : p.tables.exec = Jvm.exec) {pc : Nat} {Ls : Array Slot} {z : Int32} {rest : List Value} (hret : meth.sig.returnType = some .int) (hd : decode c.code pc = .ok (.ireturn, 1)) {fs : List Frame}
    (hl : ∀ (f : JFrame) (acts : List Action), f.method = m → f.locked = none → f.entered = [] → (doReturn e (T.setTop f) acts (some (.int z))).1 = T.setFrames fs) : Steps p.tables e below (T.setTop (mkF m pc Ls (.int z :: rest))) (T.setFrames fs) := by
  have hm' : T.vm.method? m = some meth := X.method'
  have hn : narrow .int (.int z) = .int z := rfl
  show Steps p.tables e below (T.setTop { method := m, pc := pc, locals := Ls, stack := _ :: rest, locked := none }) _
  jvm_step X.here [X.here.top, hx, hd, hm', hret, hn]
  first | (intro acts; rw [hl _ acts rfl rfl rfl]) | rw [hl _ _ rfl rfl rfl]
  exact Steps.refl _
theorem own_retL (X : Stand p l e R s m args below meth c T locs cells slots) (hx : p.tables.exec = Jvm.exec) {pc : Nat} {Ls : Array Slot} {z : Int64} {rest : List Value} (hret : meth.sig.returnType = some .long) (hd : decode c.code pc = .ok (.lreturn, 1)) {fs : List Frame}
    (hl : ∀ (f : JFrame) (acts : List Action), f.method = m → f.locked = none → f.entered = [] → (doReturn e (T.setTop f) acts (some (.long z))).1 = T.setFrames fs) : Steps p.tables e below (T.setTop (mkF m pc Ls (.long z :: rest))) (T.setFrames fs) := by
  have hm' : T.vm.method? m = some meth := X.method'
  show Steps p.tables e below (T.setTop { method := m, pc := pc, locals := Ls, stack := _ :: rest, locked := none }) _
  jvm_step X.here [X.here.top, hx, hd, hm', hret, narrow]
  first | (intro acts; rw [hl _ acts rfl rfl rfl]) | rw [hl _ _ rfl rfl rfl]
  exact Steps.refl _
theorem own_retA (X : Stand p l e R s m args below meth c T locs cells slots) (hx : p.tables.exec = Jvm.exec) {pc : Nat} {Ls : Array Slot} {v : Value} {t : FieldType} {rest : List Value} (hret : meth.sig.returnType = some t) (ht : t.isReference = true) (hv : v.isRef = true) (hd : decode c.code pc = .ok (.areturn, 1)) {fs : List Frame}
    (hl : ∀ (f : JFrame) (acts : List Action), f.method = m → f.locked = none → f.entered = [] → (doReturn e (T.setTop f) acts (some v)).1 = T.setFrames fs) : Steps p.tables e below (T.setTop (mkF m pc Ls (v :: rest))) (T.setFrames fs) := by
  have hm' : T.vm.method? m = some meth := X.method'
  show Steps p.tables e below (T.setTop { method := m, pc := pc, locals := Ls, stack := v :: rest, locked := none }) _
  rcases ref_cases hv with rfl | ⟨a, rfl⟩
  all_goals
    jvm_step X.here [X.here.top, hx, hd, hm', hret, ht, Value.isRef]
    first | (intro acts; rw [hl _ acts rfl rfl rfl]) | rw [hl _ _ rfl rfl rfl]
    exact Steps.refl _
def Go (p : Program) (e : Env) (below : List Frame) (P : Outcome → State → Prop) (S : State) : Prop := ∃ s₂ o, Steps p.tables e below S s₂ ∧ s₂.status = .running ∧ Ended s₂ below o ∧ P o s₂
variable {P : Outcome → State → Prop}
theorem Go.by {A B : State} (st : ∀ t, Steps p.tables e below B t → Steps p.tables e below A t) (g : Go p e below P B) : Go p e below P A := by
  obtain ⟨u, o, h1, h2⟩ := g; exact ⟨u, o, st _ h1, h2⟩
theorem Go.tr {A B : State} (st : Steps p.tables e below A B) (g : Go p e below P B) : Go p e below P A := by
  obtain ⟨u, o, h1, h2⟩ := g; exact ⟨u, o, st.trans h1, h2⟩
theorem Go.start {f g : JFrame} (q : f = g) (h : Go p e below P (T.setTop g)) : ∃ s₂ o, Steps p.tables e below (T.setTop f) s₂ ∧ s₂.status = .running ∧ Ended s₂ below o ∧ P o s₂ := q ▸ h
variable {Q : Option Value → Heap → List Loc → Prop} {rc rs : Nat}
theorem Go.retI (X : Stand p l e R s m args below meth c T locs cells slots) (hx : p.tables.exec = Jvm.exec) {pc : Nat} {Ls : Array Slot} {z : Int32} {rest : List Value} (hret : meth.sig.returnType = some .int) (hlk : meth.locks = false) (hd : decode c.code pc = .ok (.ireturn, 1)) (hc : cells ≤ rc) (hs : slots ≤ rs) (hq : Q (some (.int z)) T.heap locs) :
    Go p e below (fun o U' => ∃ v L, o = .returned v ∧ Q v U'.heap L ∧ FrameEnd s o U' L rc rs) (T.setTop (mkF m pc Ls (.int z :: rest))) := by
  obtain ⟨fs, hr, hrun, hended, hW, hsame⟩ := X.leave (v := some (.int z)) (fun h => by rw [hret] at h; cases h) hlk
  exact ⟨_, _, RoadKit.retI X hx hret hd hr, hrun, hended, _, _, rfl, hq, ⟨_, rfl⟩, hW, hsame.mono hc hs⟩
theorem Go.retN (X : Stand p l e R s m args below meth c T locs cells slots) (hx : p.tables.exec = Jvm.exec) {pc : Nat} {Ls : Array Slot} {z : Int32} {t : FieldType} {rest : List Value} (hret : meth.sig.returnType = some t) (ht : t = .boolean ∨ t = .byte ∨ t = .char ∨ t = .short) (hlk : meth.locks = false) (hd : decode c.code pc = .ok (.ireturn, 1)) (hc : cells ≤ rc) (hs : slots ≤ rs) (hq : Q (some (.int (nar t z))) T.heap locs) :
    Go p e below (fun o U' => ∃ v L, o = .returned v ∧ Q v U'.heap L ∧ FrameEnd s o U' L rc rs) (T.setTop (mkF m pc Ls (.int z :: rest))) := by
  obtain ⟨fs, hr, hrun, hended, hW, hsame⟩ := X.leave (v := some (.int (nar t z))) (fun h => by rw [hret] at h; cases h) hlk
  exact ⟨_, _, RoadKit.retN X hx hret ht hd hr, hrun, hended, _, _, rfl, hq, ⟨_, rfl⟩, hW, hsame.mono hc hs⟩
theorem Go.retL (X : Stand p l e R s m args below meth c T locs cells slots) (hx : p.tables.exec = Jvm.exec) {pc : Nat} {Ls : Array Slot} {z : Int64} {rest : List Value} (hret : meth.sig.returnType = some .long) (hlk : meth.locks = false) (hd : decode c.code pc = .ok (.lreturn, 1)) (hc : cells ≤ rc) (hs : slots ≤ rs) (hq : Q (some (.long z)) T.heap locs) :
    Go p e below (fun o U' => ∃ v L, o = .returned v ∧ Q v U'.heap L ∧ FrameEnd s o U' L rc rs) (T.setTop (mkF m pc Ls (.long z :: rest))) := by
  obtain ⟨fs, hr, hrun, hended, hW, hsame⟩ := X.leave (v := some (.long z)) (fun h => by rw [hret] at h; cases h) hlk
  exact ⟨_, _, own_retL X hx hret hd hr, hrun, hended, _, _, rfl, hq, ⟨_, rfl⟩, hW, hsame.mono hc hs⟩
theorem Go.retA (X : Stand p l e R s m args below meth c T locs cells slots) (hx : p.tables.exec = Jvm.exec) {pc : Nat} {Ls : Array Slot} {v : Value} {t : FieldType} {rest : List Value} (hret : meth.sig.returnType = some t) (ht : t.isReference = true) (hv : v.isRef = true) (hlk : meth.locks = false) (hd : decode c.code pc = .ok (.areturn, 1)) (hc : cells ≤ rc) (hs : slots ≤ rs) (hq : Q (some v) T.heap locs) :
    Go p e below (fun o U' => ∃ v L, o = .returned v ∧ Q v U'.heap L ∧ FrameEnd s o U' L rc rs) (T.setTop (mkF m pc Ls (v :: rest))) := by
  obtain ⟨fs, hr, hrun, hended, hW, hsame⟩ := X.leave (v := some v) (fun h => by rw [hret] at h; cases h) hlk
  exact ⟨_, _, own_retA X hx hret ht hv hd hr, hrun, hended, _, _, rfl, hq, ⟨_, rfl⟩, hW, hsame.mono hc hs⟩
theorem Go.ret0 (X : Stand p l e R s m args below meth c T locs cells slots) (hx : p.tables.exec = Jvm.exec) {pc : Nat} {Ls : Array Slot} (hret : meth.sig.returnType = none) (hlk : meth.locks = false) (hd : decode c.code pc = .ok (.return_, 1)) (hc : cells ≤ rc) (hs : slots ≤ rs) (hq : Q none T.heap locs) :
    Go p e below (fun o U' => ∃ v L, o = .returned v ∧ Q v U'.heap L ∧ FrameEnd s o U' L rc rs) (T.setTop (mkF m pc Ls [])) := by
  obtain ⟨fs, hr, hrun, hended, hW, hsame⟩ := X.leave (v := none) (fun _ => rfl) hlk
  exact ⟨_, _, X.returnOut hx hret hd hr, hrun, hended, _, _, rfl, hq, ⟨_, rfl⟩, hW, hsame.mono hc hs⟩
section Wide
variable {vm₁ : Vm} {kS : Nat}
theorem Go.retIW (hS : s.Since vm₁ kS) (hn : kS ≤ T.heap.size) (X : Stand p l e R (s.setVm vm₁) m args below meth c T locs cells slots) (hx : p.tables.exec = Jvm.exec) {pc : Nat} {Ls : Array Slot} {z : Int32} {rest : List Value} (hret : meth.sig.returnType = some .int) (hlk : meth.locks = false) (hd : decode c.code pc = .ok (.ireturn, 1)) (hc : cells ≤ rc) (hs : slots ≤ rs) (hq : Q (some (.int z)) T.heap locs) :
    Go p e below (fun o U' => ∃ v L, o = .returned v ∧ Q v U'.heap L ∧ ReturnedEndW s o U' L rc rs) (T.setTop (mkF m pc Ls (.int z :: rest))) := by
  obtain ⟨fs, hr, hrun, hended, w1, w2, w3, w4⟩ := X.leaveW hS hn (v := some (.int z)) (fun h => by rw [hret] at h; cases h) hlk
  exact ⟨_, _, RoadKit.retI X hx hret hd hr, hrun, hended, _, _, rfl, hq, w1, w2, w3, w4.mono hc hs⟩
theorem Go.retNW (hS : s.Since vm₁ kS) (hn : kS ≤ T.heap.size) (X : Stand p l e R (s.setVm vm₁) m args below meth c T locs cells slots) (hx : p.tables.exec = Jvm.exec) {pc : Nat} {Ls : Array Slot} {z : Int32} {t : FieldType} {rest : List Value} (hret : meth.sig.returnType = some t) (ht : t = .boolean ∨ t = .byte ∨ t = .char ∨ t = .short) (hlk : meth.locks = false) (hd : decode c.code pc = .ok (.ireturn, 1)) (hc : cells ≤ rc) (hs : slots ≤ rs) (hq : Q (some (.int (nar t z))) T.heap locs) :
    Go p e below (fun o U' => ∃ v L, o = .returned v ∧ Q v U'.heap L ∧ ReturnedEndW s o U' L rc rs) (T.setTop (mkF m pc Ls (.int z :: rest))) := by
  obtain ⟨fs, hr, hrun, hended, w1, w2, w3, w4⟩ := X.leaveW hS hn (v := some (.int (nar t z))) (fun h => by rw [hret] at h; cases h) hlk
  exact ⟨_, _, RoadKit.retN X hx hret ht hd hr, hrun, hended, _, _, rfl, hq, w1, w2, w3, w4.mono hc hs⟩
theorem Go.retAW (hS : s.Since vm₁ kS) (hn : kS ≤ T.heap.size) (X : Stand p l e R (s.setVm vm₁) m args below meth c T locs cells slots) (hx : p.tables.exec = Jvm.exec) {pc : Nat} {Ls : Array Slot} {v : Value} {t : FieldType} {rest : List Value} (hret : meth.sig.returnType = some t) (ht : t.isReference = true) (hv : v.isRef = true) (hlk : meth.locks = false) (hd : decode c.code pc = .ok (.areturn, 1)) (hc : cells ≤ rc) (hs : slots ≤ rs) (hq : Q (some v) T.heap locs) :
    Go p e below (fun o U' => ∃ v L, o = .returned v ∧ Q v U'.heap L ∧ ReturnedEndW s o U' L rc rs) (T.setTop (mkF m pc Ls (v :: rest))) := by
  obtain ⟨fs, hr, hrun, hended, w1, w2, w3, w4⟩ := X.leaveW hS hn (v := some v) (fun h => by rw [hret] at h; cases h) hlk
  exact ⟨_, _, own_retA X hx hret ht hv hd hr, hrun, hended, _, _, rfl, hq, w1, w2, w3, w4.mono hc hs⟩
theorem Go.ret0W (hS : s.Since vm₁ kS) (hn : kS ≤ T.heap.size) (X : Stand p l e R (s.setVm vm₁) m args below meth c T locs cells slots) (hx : p.tables.exec = Jvm.exec) {pc : Nat} {Ls : Array Slot} (hret : meth.sig.returnType = none) (hlk : meth.locks = false) (hd : decode c.code pc = .ok (.return_, 1)) (hc : cells ≤ rc) (hs : slots ≤ rs) (hq : Q none T.heap locs) :
    Go p e below (fun o U' => ∃ v L, o = .returned v ∧ Q v U'.heap L ∧ ReturnedEndW s o U' L rc rs) (T.setTop (mkF m pc Ls [])) := by
  obtain ⟨fs, hr, hrun, hended, w1, w2, w3, w4⟩ := X.leaveW hS hn (v := none) (fun _ => rfl) hlk
  exact ⟨_, _, X.returnOut hx hret hd hr, hrun, hended, _, _, rfl, hq, w1, w2, w3, w4.mono hc hs⟩
end Wide
section Held
variable {vm₁ : Vm} {kS : Nat} {Z : State} {a0 : Array Value} {EL : List (String × Nat)} {h0 h h' : Heap} {vm0 : Vm}
theorem own_chE (A : CHr Z EL vm₁ h0 vm0 h) (E : Ext h h') : CHr Z EL vm₁ h0 vm0 h' := A.trans (CHr.ext E A.1)
theorem own_chW {a : Addr} {sl : Nat} {v : Value} (A : CHr Z EL vm₁ h0 vm0 h) (W : Wr h h' a sl v) (S : Safe Z EL vm0 h a) : CHr Z EL vm₁ h0 vm0 h' := A.trans (CHr.wr W S A.1)
theorem own_chK {ws : List Addr} (A : CHr Z EL vm₁ h0 vm0 h) (K : Keep h h' ws) (S : ∀ x ∈ ws, Safe Z EL vm0 h x) : CHr Z EL vm₁ h0 vm0 h' := A.trans (CHr.keep K S A.1)
theorem own_chEnd (X : Stand p l e R (s.setVm vm₁) m args below meth c T locs cells slots) (eT : T.heap = h) (hZ : Z.Warmed39 vm₁) (hEL : EW Z a0 EL) (A : CHr Z EL s.vm h0 vm₁ h) (hh : s.heap = h0) : CHr Z EL s.vm s.heap T.vm T.heap := by
  rw [eT, hh]; exact A.trans (CHv.at X hZ hEL A.1)
theorem Go.retNH (hS : s.Since vm₁ kS) (hn : kS ≤ T.heap.size) (hC : CHr Z EL s.vm s.heap T.vm T.heap) (X : Stand p l e R (s.setVm vm₁) m args below meth c T locs cells slots) (hx : p.tables.exec = Jvm.exec) {pc : Nat} {Ls : Array Slot} {z : Int32} {t : FieldType} {rest : List Value} (hret : meth.sig.returnType = some t) (ht : t = .boolean ∨ t = .byte ∨ t = .char ∨ t = .short) (hlk : meth.locks = false) (hd : decode c.code pc = .ok (.ireturn, 1)) (hc : cells ≤ rc) (hs : slots ≤ rs) (hq : Q (some (.int (nar t z))) T.heap locs) :
    Go p e below (fun o U' => ∃ v L, o = .returned v ∧ Q v U'.heap L ∧ CHr Z EL s.vm s.heap U'.vm U'.heap ∧ ReturnedEndW s o U' L rc rs) (T.setTop (mkF m pc Ls (.int z :: rest))) := by
  obtain ⟨fs, hr, hrun, hended, w1, w2, w3, w4⟩ := X.leaveW hS hn (v := some (.int (nar t z))) (fun h => by rw [hret] at h; cases h) hlk
  exact ⟨_, _, RoadKit.retN X hx hret ht hd hr, hrun, hended, _, _, rfl, hq, hC, w1, w2, w3, w4.mono hc hs⟩
theorem Go.retAH (hS : s.Since vm₁ kS) (hn : kS ≤ T.heap.size) (hC : CHr Z EL s.vm s.heap T.vm T.heap) (X : Stand p l e R (s.setVm vm₁) m args below meth c T locs cells slots) (hx : p.tables.exec = Jvm.exec) {pc : Nat} {Ls : Array Slot} {v : Value} {t : FieldType} {rest : List Value} (hret : meth.sig.returnType = some t) (ht : t.isReference = true) (hv : v.isRef = true) (hlk : meth.locks = false) (hd : decode c.code pc = .ok (.areturn, 1)) (hc : cells ≤ rc) (hs : slots ≤ rs) (hq : Q (some v) T.heap locs) :
    Go p e below (fun o U' => ∃ v L, o = .returned v ∧ Q v U'.heap L ∧ CHr Z EL s.vm s.heap U'.vm U'.heap ∧ ReturnedEndW s o U' L rc rs) (T.setTop (mkF m pc Ls (v :: rest))) := by
  obtain ⟨fs, hr, hrun, hended, w1, w2, w3, w4⟩ := X.leaveW hS hn (v := some v) (fun h => by rw [hret] at h; cases h) hlk
  exact ⟨_, _, own_retA X hx hret ht hv hd hr, hrun, hended, _, _, rfl, hq, hC, w1, w2, w3, w4.mono hc hs⟩
theorem Go.ret0H (hS : s.Since vm₁ kS) (hn : kS ≤ T.heap.size) (hC : CHr Z EL s.vm s.heap T.vm T.heap) (X : Stand p l e R (s.setVm vm₁) m args below meth c T locs cells slots) (hx : p.tables.exec = Jvm.exec) {pc : Nat} {Ls : Array Slot} (hret : meth.sig.returnType = none) (hlk : meth.locks = false) (hd : decode c.code pc = .ok (.return_, 1)) (hc : cells ≤ rc) (hs : slots ≤ rs) (hq : Q none T.heap locs) :
    Go p e below (fun o U' => ∃ v L, o = .returned v ∧ Q v U'.heap L ∧ CHr Z EL s.vm s.heap U'.vm U'.heap ∧ ReturnedEndW s o U' L rc rs) (T.setTop (mkF m pc Ls [])) := by
  obtain ⟨fs, hr, hrun, hended, w1, w2, w3, w4⟩ := X.leaveW hS hn (v := none) (fun _ => rfl) hlk
  exact ⟨_, _, X.returnOut hx hret hd hr, hrun, hended, _, _, rfl, hq, hC, w1, w2, w3, w4.mono hc hs⟩
end Held
theorem own_selP {Z : State} {a0 : Array Value} {y : MethodName} {n : Nat} (hZ : Z.Warmed39 s.vm) (wi : (Cond.instantiable y.cls n).before a0 Z = true) (wp : (Cond.privateMethod y).before a0 Z = true) (wm : (Cond.instanceMethod y).before a0 Z = true) (hy : y.cls ≠ "java/lang/invoke/MethodHandle" ∧ y.cls ≠ "java/lang/invoke/VarHandle") : (Cond.selects y.cls y y).before args s = true := by
  obtain ⟨c, k, h1, h2, h3, h4, -⟩ := Cond.instantiable_spec (show (Cond.instantiable y.cls n).before args s = true from mv hZ wi)
  refine selects_self_of_private h1 h2 ?_ (Cond.privateMethod_at (mvP (args := args) hZ wp)) (mvT hZ wm) hy
  simp only [Bool.or_eq_false_iff] at h4; exact h4.1
theorem own_NSroot {Z : State} {a0 : Array Value} {O K : String} {n : Nat} (w : (Cond.noSuperclass O).before a0 Z = true) (wk : (Cond.instantiable K n).before a0 Z = true) (hn : O ≠ K) : NS Z O K := by
  obtain ⟨c, k, h1, h2, h3, -, -⟩ := Cond.noSuperclass_spec w
  obtain ⟨t, -, g1, -⟩ := Cond.instantiable_spec wk
  have ne := ids_ne h1 g1 hn
  refine ⟨c, t, h1, g1, fun fuel => ?_⟩
  cases fuel with
  | zero => rfl
  | succ f => simp [Vm.isSubclassAux, ne, h2, h3]
theorem own_NSno {Z : State} {a0 : Array Value} {C S K : String} {n : Nat} (w : (Cond.superclass C S).before a0 Z = true) (wk : (Cond.instantiable K n).before a0 Z = true) (ns : NS Z C K) (hn : C ≠ K) : ∃ c t, Z.vm.findClass C = some c ∧ Z.vm.findClass K = some t ∧ Z.vm.assignable c t = false := by
  obtain ⟨c, t, h0, g0, n3⟩ := ns
  obtain ⟨p, k, kp, h1, h2, h3, h4, h5, -, h7⟩ := Cond.superclass_spec h0 w
  obtain ⟨t', kt, g1, g2, g3, g4, -⟩ := Cond.instantiable_spec wk
  cases g0.symm.trans g1
  simp only [Bool.or_eq_false_iff] at g4
  have ne := ids_ne h0 g0 hn
  refine ⟨c, t, h0, g0, ?_⟩
  show Z.vm.assignableAux (255 + 1) c t = false
  simp [Vm.assignableAux, ne, h2, g2, h5, g3, g4.1, Vm.isSubclass, n3]
theorem own_old_size {Z : State} {n0 : Nat} {h : Heap} (O : Old Z n0 h) : n0 ≤ h.size := by rw [← O.1]; exact O.2.1
theorem own_cat1 {v : Value} (h : v.isRef = true) : v.category = 1 := by rcases ref_cases h with rfl | ⟨_, rfl⟩ <;> rfl
end New
end Jvm.RoadKit
namespace Jvm.Pilot.@@N@@
open Jvm Jvm.ClassFile Sem Op Lib Jvm.Free Jvm.Stand Jvm.LawKit Jvm.RoadKit Bundle Jvm.Pilot.@@N@@.Jvm.D
def own_same (a b c x y z : Int32) : Int32 := if a = x ∧ b = y ∧ c = z then 1 else 0
theorem own_same_comm (a b c x y z : Int32) : own_same a b c x y z = own_same x y z a b c := by
  have h : (a = x ∧ b = y ∧ c = z) ↔ (x = a ∧ y = b ∧ z = c) := ⟨fun h => ⟨h.1.symm, h.2.1.symm, h.2.2.symm⟩, fun h => ⟨h.1.symm, h.2.1.symm, h.2.2.symm⟩⟩
  simp only [own_same, h]
theorem own_same1 {a b c x y z : Int32} (h1 : x = a) (h2 : y = b) (h3 : z = c) : (1 : Int32) = own_same a b c x y z := by subst h1 h2 h3; simp [own_same]
theorem own_same0 {a b c x y z : Int32} (h : ¬ x = a ∨ ¬ y = b ∨ ¬ z = c) : (0 : Int32) = own_same a b c x y z := by
  unfold own_same; rw [if_neg]
  rintro ⟨rfl, rfl, rfl⟩
  rcases h with h | h | h <;> exact h rfl
theorem own_same_self (a b c : Int32) : ¬ own_same a b c a b c = (0 : Int32) := by simp [own_same]
theorem pn_0 : plainName "com/example/queue_manager_rpc/queuemanagerrpc/rpc/SecurityTrailer" = true := by first | (simp [plainName, overriddenIn]; done) | decide +kernel
theorem d1_0 : decode prog_69_method_1_code 0 = .ok (.aload_n 0, 1) := by decide +kernel
theorem d1_1 : decode prog_69_method_1_code 1 = .ok (.invokespecial 1, 3) := by decide +kernel
theorem d1_4 : decode prog_69_method_1_code 4 = .ok (.aload_n 0, 1) := by decide +kernel
theorem d1_5 : decode prog_69_method_1_code 5 = .ok (.iload_n 1, 1) := by decide +kernel
theorem d1_6 : decode prog_69_method_1_code 6 = .ok (.putfield 7, 3) := by decide +kernel
theorem d1_9 : decode prog_69_method_1_code 9 = .ok (.aload_n 0, 1) := by decide +kernel
theorem d1_10 : decode prog_69_method_1_code 10 = .ok (.iload_n 2, 1) := by decide +kernel
theorem d1_11 : decode prog_69_method_1_code 11 = .ok (.putfield 13, 3) := by decide +kernel
theorem d1_14 : decode prog_69_method_1_code 14 = .ok (.aload_n 0, 1) := by decide +kernel
theorem d1_15 : decode prog_69_method_1_code 15 = .ok (.iload_n 3, 1) := by decide +kernel
theorem d1_16 : decode prog_69_method_1_code 16 = .ok (.putfield 16, 3) := by decide +kernel
theorem d1_19 : decode prog_69_method_1_code 19 = .ok (.aload_n 0, 1) := by decide +kernel
theorem d1_20 : decode prog_69_method_1_code 20 = .ok (.iload 4, 2) := by decide +kernel
theorem d1_22 : decode prog_69_method_1_code 22 = .ok (.putfield 19, 3) := by decide +kernel
theorem d1_25 : decode prog_69_method_1_code 25 = .ok (.aload_n 0, 1) := by decide +kernel
theorem d1_26 : decode prog_69_method_1_code 26 = .ok (.iload 5, 2) := by decide +kernel
theorem d1_28 : decode prog_69_method_1_code 28 = .ok (.putfield 22, 3) := by decide +kernel
theorem d1_31 : decode prog_69_method_1_code 31 = .ok (.return_, 1) := by decide +kernel
theorem ef_init (m : MethodId) (ob : Addr) (va : Int32) (vl : Int32) (vp : Int32) (vc : Int32) (vo : Int32) : entryFrame m #[(.ref ob), (.int va), (.int vl), (.int vp), (.int vc), (.int vo)] 6 = mkF m 0 #[.val (.ref ob), .val (.int va), .val (.int vl), .val (.int vp), .val (.int vc), .val (.int vo)] [] := by first | (simp [entryFrame, mkF, argsToLocals, Value.category]; done) | rfl
def Q_init (Z : State) (ob : Addr) (va : Int32) (vl : Int32) (vp : Int32) (vc : Int32) (vo : Int32) (h0 : Heap) (n0 : Nat) (v : Option Value) (h : Heap) (L : List Loc) : Prop := v = none ∧ Fr n0 L ∧ Keep h0 h [ob] ∧ Exa Z h ob "com/example/queue_manager_rpc/queuemanagerrpc/rpc/SecurityTrailer" ∧ Fld Z h ob "com/example/queue_manager_rpc/queuemanagerrpc/rpc/SecurityTrailer" "authType" "I" (.int va) ∧ Fld Z h ob "com/example/queue_manager_rpc/queuemanagerrpc/rpc/SecurityTrailer" "level" "I" (.int vl) ∧ Fld Z h ob "com/example/queue_manager_rpc/queuemanagerrpc/rpc/SecurityTrailer" "contextId" "I" (.int vc)
set_option maxRecDepth 65536 in
set_option maxHeartbeats 40000000 in
theorem init (l : Launch) (Z : State) (a0 : Array Value) (hw : ∀ d ∈ tables_1, d.before a0 Z = true) (ws : List Jvm.Cond) (ob : Addr) (va : Int32) (vl : Int32) (vp : Int32) (vc : Int32) (vo : Int32) (h0 : Heap) (n0 : Nat) (O0 : Old Z n0 h0) (P0 : Exa Z h0 ob "com/example/queue_manager_rpc/queuemanagerrpc/rpc/SecurityTrailer") (P1 : Fld Z h0 ob "com/example/queue_manager_rpc/queuemanagerrpc/rpc/SecurityTrailer" "authType" "I" (.int (0 : Int32))) (P2 : Fld Z h0 ob "com/example/queue_manager_rpc/queuemanagerrpc/rpc/SecurityTrailer" "level" "I" (.int (0 : Int32))) (P3 : Fld Z h0 ob "com/example/queue_manager_rpc/queuemanagerrpc/rpc/SecurityTrailer" "padLength" "I" (.int (0 : Int32))) (P4 : Fld Z h0 ob "com/example/queue_manager_rpc/queuemanagerrpc/rpc/SecurityTrailer" "contextId" "I" (.int (0 : Int32))) (P5 : Fld Z h0 ob "com/example/queue_manager_rpc/queuemanagerrpc/rpc/SecurityTrailer" "offset" "I" (.int (0 : Int32))) (gob : n0 ≤ ob) :
    MetFree l (⟨"com/example/queue_manager_rpc/queuemanagerrpc/rpc/SecurityTrailer", "<init>", "(IIIII)V"⟩ : MethodName) (head1 (Jvm.Cond.code (⟨"com/example/queue_manager_rpc/queuemanagerrpc/rpc/SecurityTrailer", "<init>", "(IIIII)V"⟩ : MethodName) prog_69_method_1_code 6 none :: ws) ({ frames := 1, cells := 0, slots := 0, locals := 12 } : Room)) (fun a U => a = #[(.ref ob), (.int va), (.int vl), (.int vp), (.int vc), (.int vo)] ∧ Z.Warmed39 U.vm ∧ U.heap = h0) (fun _ _ _ _ _ => True) (fun _ U o U' => ∃ v L, o = .returned v ∧ Q_init Z ob va vl vp vc vo h0 n0 v U'.heap L ∧ FrameEnd U o U' L ({ frames := 1, cells := 0, slots := 0, locals := 12 } : Room).cells ({ frames := 1, cells := 0, slots := 0, locals := 12 } : Room).slots) := by
  refine MetFree.of_bodySF (plainFor_of_name pn_0) hisR ?_
  intro p e s m args below meth c s₁ Bd hml0 hP hK
  obtain ⟨rfl, hZ, hh⟩ := hP
  have hx := Bd.exec
  have hby := Bd.bytes
  have hml : c.maxLocals = 6 := hml0
  have hown : s.vm.findClass "com/example/queue_manager_rpc/queuemanagerrpc/rpc/SecurityTrailer" = some m.cls := findClass_of_methodNamed Bd.named
  have hnm := (name_of_methodNamed Bd.named Bd.method).1
  have hlk := BodyLoose.notSynchronized Bd
  have X0 : Stand p l e ({ frames := 1, cells := 0, slots := 0, locals := 12 } : Room) s m #[(.ref ob), (.int va), (.int vl), (.int vp), (.int vc), (.int vo)] below meth c s₁ [] 0 0 := Stand.of_body Bd
  have e0 : s₁.heap = h0 := by rw [← hh, Bd.state]; rfl
  have N0 := Fr.nil n0
  refine Go.start (P := fun o U' => ∃ v L, o = .returned v ∧ Q_init Z ob va vl vp vc vo h0 n0 v U'.heap L ∧ FrameEnd s o U' L ({ frames := 1, cells := 0, slots := 0, locals := 12 } : Room).cells ({ frames := 1, cells := 0, slots := 0, locals := 12 } : Room).slots) (ef_init m ob va vl vp vc vo) ?_
  show Go p e below _ (s₁.setTop (mkF m 0 #[.val (.ref ob), .val (.int va), .val (.int vl), .val (.int vp), .val (.int vc), .val (.int vo)] []))
  refine Go.by (fun t k => XS.aloadN X0.here hx rfl (hb hby d1_0) rfl rfl k) ?_
  show Go p e below _ (s₁.setTop (mkF m 1 #[.val (.ref ob), .val (.int va), .val (.int vl), .val (.int vp), .val (.int vc), .val (.int vo)] [(.ref ob)]))
  obtain ⟨T1, X1, e1, st1⟩ := initO X0 hx hZ hown (hw _ (List.mem_of_getElem? (i := 6) rfl)) (hw _ (List.mem_of_getElem? (i := 7) rfl)) (hw _ (List.mem_of_getElem? (i := 8) rfl)) e0 (g := (mkF m 1 #[.val (.ref ob), .val (.int va), .val (.int vl), .val (.int vp), .val (.int vc), .val (.int vo)] [(.ref ob)])) rfl (by rw [hml]; rfl) rfl (hb hby d1_1) (by decide) (W := 0) (by show 2 * 0 + _ ≤ _; exact Nat.le_of_eq rfl) (by decide)
  refine Go.by st1 ?_
  show Go p e below _ (T1.setTop (mkF m 4 #[.val (.ref ob), .val (.int va), .val (.int vl), .val (.int vp), .val (.int vc), .val (.int vo)] []))
  refine Go.by (fun t k => XS.aloadN X1.here hx rfl (hb hby d1_4) rfl rfl k) ?_
  show Go p e below _ (T1.setTop (mkF m 5 #[.val (.ref ob), .val (.int va), .val (.int vl), .val (.int vp), .val (.int vc), .val (.int vo)] [(.ref ob)]))
  refine Go.by (fun t k => XS.iloadN X1.here hx rfl (hb hby d1_5) rfl k) ?_
  show Go p e below _ (T1.setTop (mkF m 6 #[.val (.ref ob), .val (.int va), .val (.int vl), .val (.int vp), .val (.int vc), .val (.int vo)] [(.int va), (.ref ob)]))
  obtain ⟨T2, h2, X2, e2, W2, st2⟩ := putF X1 hx hZ hown (host := "") (Or.inl (hw _ (List.mem_of_getElem? (i := 9) rfl))) Via.refl e1 P1 P0 (Or.inr ⟨(hw _ (List.mem_of_getElem? (i := 10) rfl)), rfl, hnm⟩) (hw _ (List.mem_of_getElem? (i := 1) rfl)) (ty := .int) (by decide) rfl rfl (g := (mkF m 6 #[.val (.ref ob), .val (.int va), .val (.int vl), .val (.int vp), .val (.int vc), .val (.int vo)] [(.int va), (.ref ob)])) rfl rfl (hb hby d1_6)
  have N2 := Fr.snoc X2 N0 gob
  have F3 : Fld Z h2 ob "com/example/queue_manager_rpc/queuemanagerrpc/rpc/SecurityTrailer" "authType" "I" (.int va) := P1.same W2
  refine Go.by st2 ?_
  show Go p e below _ (T2.setTop (mkF m 9 #[.val (.ref ob), .val (.int va), .val (.int vl), .val (.int vp), .val (.int vc), .val (.int vo)] []))
  refine Go.by (fun t k => XS.aloadN X2.here hx rfl (hb hby d1_9) rfl rfl k) ?_
  show Go p e below _ (T2.setTop (mkF m 10 #[.val (.ref ob), .val (.int va), .val (.int vl), .val (.int vp), .val (.int vc), .val (.int vo)] [(.ref ob)]))
  refine Go.by (fun t k => XS.iloadN X2.here hx rfl (hb hby d1_10) rfl k) ?_
  show Go p e below _ (T2.setTop (mkF m 11 #[.val (.ref ob), .val (.int va), .val (.int vl), .val (.int vp), .val (.int vc), .val (.int vo)] [(.int vl), (.ref ob)]))
  have F4 : Fld Z h2 ob "com/example/queue_manager_rpc/queuemanagerrpc/rpc/SecurityTrailer" "level" "I" (.int (0 : Int32)) := (P2.other W2 (Or.inr (slot_ne (Or.inr (hw _ (List.mem_of_getElem? (i := 12) rfl))) (Or.inr (hw _ (List.mem_of_getElem? (i := 10) rfl))) (by decide) (t := .int) (t' := .int) (by decide) (by decide))))
  have F5 : Exa Z h2 ob "com/example/queue_manager_rpc/queuemanagerrpc/rpc/SecurityTrailer" := (P0.wr W2)
  obtain ⟨T6, h6, X6, e6, W6, st6⟩ := putF X2 hx hZ hown (host := "") (Or.inl (hw _ (List.mem_of_getElem? (i := 11) rfl))) Via.refl e2 F4 F5 (Or.inr ⟨(hw _ (List.mem_of_getElem? (i := 12) rfl)), rfl, hnm⟩) (hw _ (List.mem_of_getElem? (i := 1) rfl)) (ty := .int) (by decide) rfl rfl (g := (mkF m 11 #[.val (.ref ob), .val (.int va), .val (.int vl), .val (.int vp), .val (.int vc), .val (.int vo)] [(.int vl), (.ref ob)])) rfl rfl (hb hby d1_11)
  have N6 := Fr.snoc X6 N2 gob
  have F7 : Fld Z h6 ob "com/example/queue_manager_rpc/queuemanagerrpc/rpc/SecurityTrailer" "level" "I" (.int vl) := F4.same W6
  refine Go.by st6 ?_
  show Go p e below _ (T6.setTop (mkF m 14 #[.val (.ref ob), .val (.int va), .val (.int vl), .val (.int vp), .val (.int vc), .val (.int vo)] []))
  refine Go.by (fun t k => XS.aloadN X6.here hx rfl (hb hby d1_14) rfl rfl k) ?_
  show Go p e below _ (T6.setTop (mkF m 15 #[.val (.ref ob), .val (.int va), .val (.int vl), .val (.int vp), .val (.int vc), .val (.int vo)] [(.ref ob)]))
  refine Go.by (fun t k => XS.iloadN X6.here hx rfl (hb hby d1_15) rfl k) ?_
  show Go p e below _ (T6.setTop (mkF m 16 #[.val (.ref ob), .val (.int va), .val (.int vl), .val (.int vp), .val (.int vc), .val (.int vo)] [(.int vp), (.ref ob)]))
  have F8 : Fld Z h6 ob "com/example/queue_manager_rpc/queuemanagerrpc/rpc/SecurityTrailer" "padLength" "I" (.int (0 : Int32)) := ((P3.other W2 (Or.inr (slot_ne (Or.inr (hw _ (List.mem_of_getElem? (i := 14) rfl))) (Or.inr (hw _ (List.mem_of_getElem? (i := 10) rfl))) (by decide) (t := .int) (t' := .int) (by decide) (by decide)))).other W6 (Or.inr (slot_ne (Or.inr (hw _ (List.mem_of_getElem? (i := 14) rfl))) (Or.inr (hw _ (List.mem_of_getElem? (i := 12) rfl))) (by decide) (t := .int) (t' := .int) (by decide) (by decide))))
  have F9 : Exa Z h6 ob "com/example/queue_manager_rpc/queuemanagerrpc/rpc/SecurityTrailer" := (F5.wr W6)
  obtain ⟨T10, h10, X10, e10, W10, st10⟩ := putF X6 hx hZ hown (host := "") (Or.inl (hw _ (List.mem_of_getElem? (i := 13) rfl))) Via.refl e6 F8 F9 (Or.inr ⟨(hw _ (List.mem_of_getElem? (i := 14) rfl)), rfl, hnm⟩) (hw _ (List.mem_of_getElem? (i := 1) rfl)) (ty := .int) (by decide) rfl rfl (g := (mkF m 16 #[.val (.ref ob), .val (.int va), .val (.int vl), .val (.int vp), .val (.int vc), .val (.int vo)] [(.int vp), (.ref ob)])) rfl rfl (hb hby d1_16)
  have N10 := Fr.snoc X10 N6 gob
  have F11 : Fld Z h10 ob "com/example/queue_manager_rpc/queuemanagerrpc/rpc/SecurityTrailer" "padLength" "I" (.int vp) := F8.same W10
  refine Go.by st10 ?_
  show Go p e below _ (T10.setTop (mkF m 19 #[.val (.ref ob), .val (.int va), .val (.int vl), .val (.int vp), .val (.int vc), .val (.int vo)] []))
  refine Go.by (fun t k => XS.aloadN X10.here hx rfl (hb hby d1_19) rfl rfl k) ?_
  show Go p e below _ (T10.setTop (mkF m 20 #[.val (.ref ob), .val (.int va), .val (.int vl), .val (.int vp), .val (.int vc), .val (.int vo)] [(.ref ob)]))
  refine Go.by (fun t k => XS.iload X10.here hx rfl (hb hby d1_20) rfl k) ?_
  show Go p e below _ (T10.setTop (mkF m 22 #[.val (.ref ob), .val (.int va), .val (.int vl), .val (.int vp), .val (.int vc), .val (.int vo)] [(.int vc), (.ref ob)]))
  have F12 : Fld Z h10 ob "com/example/queue_manager_rpc/queuemanagerrpc/rpc/SecurityTrailer" "contextId" "I" (.int (0 : Int32)) := (((P4.other W2 (Or.inr (slot_ne (Or.inr (hw _ (List.mem_of_getElem? (i := 16) rfl))) (Or.inr (hw _ (List.mem_of_getElem? (i := 10) rfl))) (by decide) (t := .int) (t' := .int) (by decide) (by decide)))).other W6 (Or.inr (slot_ne (Or.inr (hw _ (List.mem_of_getElem? (i := 16) rfl))) (Or.inr (hw _ (List.mem_of_getElem? (i := 12) rfl))) (by decide) (t := .int) (t' := .int) (by decide) (by decide)))).other W10 (Or.inr (slot_ne (Or.inr (hw _ (List.mem_of_getElem? (i := 16) rfl))) (Or.inr (hw _ (List.mem_of_getElem? (i := 14) rfl))) (by decide) (t := .int) (t' := .int) (by decide) (by decide))))
  have F13 : Exa Z h10 ob "com/example/queue_manager_rpc/queuemanagerrpc/rpc/SecurityTrailer" := (F9.wr W10)
  obtain ⟨T14, h14, X14, e14, W14, st14⟩ := putF X10 hx hZ hown (host := "") (Or.inl (hw _ (List.mem_of_getElem? (i := 15) rfl))) Via.refl e10 F12 F13 (Or.inr ⟨(hw _ (List.mem_of_getElem? (i := 16) rfl)), rfl, hnm⟩) (hw _ (List.mem_of_getElem? (i := 1) rfl)) (ty := .int) (by decide) rfl rfl (g := (mkF m 22 #[.val (.ref ob), .val (.int va), .val (.int vl), .val (.int vp), .val (.int vc), .val (.int vo)] [(.int vc), (.ref ob)])) rfl rfl (hb hby d1_22)
  have N14 := Fr.snoc X14 N10 gob
  have F15 : Fld Z h14 ob "com/example/queue_manager_rpc/queuemanagerrpc/rpc/SecurityTrailer" "contextId" "I" (.int vc) := F12.same W14
  refine Go.by st14 ?_
  show Go p e below _ (T14.setTop (mkF m 25 #[.val (.ref ob), .val (.int va), .val (.int vl), .val (.int vp), .val (.int vc), .val (.int vo)] []))
  refine Go.by (fun t k => XS.aloadN X14.here hx rfl (hb hby d1_25) rfl rfl k) ?_
  show Go p e below _ (T14.setTop (mkF m 26 #[.val (.ref ob), .val (.int va), .val (.int vl), .val (.int vp), .val (.int vc), .val (.int vo)] [(.ref ob)]))
  refine Go.by (fun t k => XS.iload X14.here hx rfl (hb hby d1_26) rfl k) ?_
  show Go p e below _ (T14.setTop (mkF m 28 #[.val (.ref ob), .val (.int va), .val (.int vl), .val (.int vp), .val (.int vc), .val (.int vo)] [(.int vo), (.ref ob)]))
  have F16 : Fld Z h14 ob "com/example/queue_manager_rpc/queuemanagerrpc/rpc/SecurityTrailer" "offset" "I" (.int (0 : Int32)) := ((((P5.other W2 (Or.inr (slot_ne (Or.inr (hw _ (List.mem_of_getElem? (i := 18) rfl))) (Or.inr (hw _ (List.mem_of_getElem? (i := 10) rfl))) (by decide) (t := .int) (t' := .int) (by decide) (by decide)))).other W6 (Or.inr (slot_ne (Or.inr (hw _ (List.mem_of_getElem? (i := 18) rfl))) (Or.inr (hw _ (List.mem_of_getElem? (i := 12) rfl))) (by decide) (t := .int) (t' := .int) (by decide) (by decide)))).other W10 (Or.inr (slot_ne (Or.inr (hw _ (List.mem_of_getElem? (i := 18) rfl))) (Or.inr (hw _ (List.mem_of_getElem? (i := 14) rfl))) (by decide) (t := .int) (t' := .int) (by decide) (by decide)))).other W14 (Or.inr (slot_ne (Or.inr (hw _ (List.mem_of_getElem? (i := 18) rfl))) (Or.inr (hw _ (List.mem_of_getElem? (i := 16) rfl))) (by decide) (t := .int) (t' := .int) (by decide) (by decide))))
  have F17 : Exa Z h14 ob "com/example/queue_manager_rpc/queuemanagerrpc/rpc/SecurityTrailer" := (F13.wr W14)
  obtain ⟨T18, h18, X18, e18, W18, st18⟩ := putF X14 hx hZ hown (host := "") (Or.inl (hw _ (List.mem_of_getElem? (i := 17) rfl))) Via.refl e14 F16 F17 (Or.inr ⟨(hw _ (List.mem_of_getElem? (i := 18) rfl)), rfl, hnm⟩) (hw _ (List.mem_of_getElem? (i := 1) rfl)) (ty := .int) (by decide) rfl rfl (g := (mkF m 28 #[.val (.ref ob), .val (.int va), .val (.int vl), .val (.int vp), .val (.int vc), .val (.int vo)] [(.int vo), (.ref ob)])) rfl rfl (hb hby d1_28)
  have N18 := Fr.snoc X18 N14 gob
  have F19 : Fld Z h18 ob "com/example/queue_manager_rpc/queuemanagerrpc/rpc/SecurityTrailer" "offset" "I" (.int vo) := F16.same W18
  refine Go.by st18 ?_
  show Go p e below _ (T18.setTop (mkF m 31 #[.val (.ref ob), .val (.int va), .val (.int vl), .val (.int vp), .val (.int vc), .val (.int vo)] []))
  have F20 : Keep h0 h18 [ob] := ((((((Keep.refl h0 [ob]).wr W2 (Or.inl (List.mem_of_getElem? (i := 0) rfl))).wr W6 (Or.inl (List.mem_of_getElem? (i := 0) rfl))).wr W10 (Or.inl (List.mem_of_getElem? (i := 0) rfl))).wr W14 (Or.inl (List.mem_of_getElem? (i := 0) rfl))).wr W18 (Or.inl (List.mem_of_getElem? (i := 0) rfl)))
  have F21 : Exa Z h18 ob "com/example/queue_manager_rpc/queuemanagerrpc/rpc/SecurityTrailer" := (F17.wr W18)
  have F22 : Fld Z h18 ob "com/example/queue_manager_rpc/queuemanagerrpc/rpc/SecurityTrailer" "authType" "I" (.int va) := ((((F3.other W6 (Or.inr (slot_ne (Or.inr (hw _ (List.mem_of_getElem? (i := 10) rfl))) (Or.inr (hw _ (List.mem_of_getElem? (i := 12) rfl))) (by decide) (t := .int) (t' := .int) (by decide) (by decide)))).other W10 (Or.inr (slot_ne (Or.inr (hw _ (List.mem_of_getElem? (i := 10) rfl))) (Or.inr (hw _ (List.mem_of_getElem? (i := 14) rfl))) (by decide) (t := .int) (t' := .int) (by decide) (by decide)))).other W14 (Or.inr (slot_ne (Or.inr (hw _ (List.mem_of_getElem? (i := 10) rfl))) (Or.inr (hw _ (List.mem_of_getElem? (i := 16) rfl))) (by decide) (t := .int) (t' := .int) (by decide) (by decide)))).other W18 (Or.inr (slot_ne (Or.inr (hw _ (List.mem_of_getElem? (i := 10) rfl))) (Or.inr (hw _ (List.mem_of_getElem? (i := 18) rfl))) (by decide) (t := .int) (t' := .int) (by decide) (by decide))))
  have F23 : Fld Z h18 ob "com/example/queue_manager_rpc/queuemanagerrpc/rpc/SecurityTrailer" "level" "I" (.int vl) := (((F7.other W10 (Or.inr (slot_ne (Or.inr (hw _ (List.mem_of_getElem? (i := 12) rfl))) (Or.inr (hw _ (List.mem_of_getElem? (i := 14) rfl))) (by decide) (t := .int) (t' := .int) (by decide) (by decide)))).other W14 (Or.inr (slot_ne (Or.inr (hw _ (List.mem_of_getElem? (i := 12) rfl))) (Or.inr (hw _ (List.mem_of_getElem? (i := 16) rfl))) (by decide) (t := .int) (t' := .int) (by decide) (by decide)))).other W18 (Or.inr (slot_ne (Or.inr (hw _ (List.mem_of_getElem? (i := 12) rfl))) (Or.inr (hw _ (List.mem_of_getElem? (i := 18) rfl))) (by decide) (t := .int) (t' := .int) (by decide) (by decide))))
  have F24 : Fld Z h18 ob "com/example/queue_manager_rpc/queuemanagerrpc/rpc/SecurityTrailer" "contextId" "I" (.int vc) := (F15.other W18 (Or.inr (slot_ne (Or.inr (hw _ (List.mem_of_getElem? (i := 16) rfl))) (Or.inr (hw _ (List.mem_of_getElem? (i := 18) rfl))) (by decide) (t := .int) (t' := .int) (by decide) (by decide))))
  have hq : Q_init Z ob va vl vp vc vo h0 n0 none h18 _ := ⟨rfl, N18, F20, F21, F22, F23, F24⟩
  exact Go.ret0 X18 hx Bd.returns hlk (hb hby d1_31) (by decide) (by decide) (by rw [e18]; exact hq)
theorem d3_0 : decode prog_69_method_8_code 0 = .ok (.aload_n 0, 1) := by decide +kernel
theorem d3_1 : decode prog_69_method_8_code 1 = .ok (.getfield 7, 3) := by decide +kernel
theorem d3_4 : decode prog_69_method_8_code 4 = .ok (.aload_n 1, 1) := by decide +kernel
theorem d3_5 : decode prog_69_method_8_code 5 = .ok (.getfield 7, 3) := by decide +kernel
theorem d3_8 : decode prog_69_method_8_code 8 = .ok (.if_icmp .ne 29, 3) := by decide +kernel
theorem d3_11 : decode prog_69_method_8_code 11 = .ok (.aload_n 0, 1) := by decide +kernel
theorem d3_12 : decode prog_69_method_8_code 12 = .ok (.getfield 13, 3) := by decide +kernel
theorem d3_15 : decode prog_69_method_8_code 15 = .ok (.aload_n 1, 1) := by decide +kernel
theorem d3_16 : decode prog_69_method_8_code 16 = .ok (.getfield 13, 3) := by decide +kernel
theorem d3_19 : decode prog_69_method_8_code 19 = .ok (.if_icmp .ne 18, 3) := by decide +kernel
theorem d3_22 : decode prog_69_method_8_code 22 = .ok (.aload_n 0, 1) := by decide +kernel
theorem d3_23 : decode prog_69_method_8_code 23 = .ok (.getfield 19, 3) := by decide +kernel
theorem d3_26 : decode prog_69_method_8_code 26 = .ok (.aload_n 1, 1) := by decide +kernel
theorem d3_27 : decode prog_69_method_8_code 27 = .ok (.getfield 19, 3) := by decide +kernel
theorem d3_30 : decode prog_69_method_8_code 30 = .ok (.if_icmp .ne 7, 3) := by decide +kernel
theorem d3_33 : decode prog_69_method_8_code 33 = .ok (.iconst 1, 1) := by decide +kernel
theorem d3_34 : decode prog_69_method_8_code 34 = .ok (.goto 4, 3) := by decide +kernel
theorem d3_38 : decode prog_69_method_8_code 38 = .ok (.ireturn, 1) := by decide +kernel
theorem d3_37 : decode prog_69_method_8_code 37 = .ok (.iconst 0, 1) := by decide +kernel
theorem ef_sameContext (m : MethodId) (oa : Addr) (ob : Addr) : entryFrame m #[(.ref oa), (.ref ob)] 2 = mkF m 0 #[.val (.ref oa), .val (.ref ob)] [] := by first | (simp [entryFrame, mkF, argsToLocals, Value.category]; done) | rfl
def Q_sameContext (Z : State) (oa : Addr) (ob : Addr) (va : Int32) (vl : Int32) (vc : Int32) (ua : Int32) (ul : Int32) (uc : Int32) (h0 : Heap) (n0 : Nat) (v : Option Value) (h : Heap) (L : List Loc) : Prop := v = some (.int (own_same va vl vc ua ul uc)) ∧ Fr n0 L ∧ h = h0
set_option maxRecDepth 65536 in
set_option maxHeartbeats 40000000 in
theorem sameContext (l : Launch) (Z : State) (a0 : Array Value) (hw : ∀ d ∈ tables_1, d.before a0 Z = true) (ws : List Jvm.Cond) (oa : Addr) (ob : Addr) (va : Int32) (vl : Int32) (vc : Int32) (ua : Int32) (ul : Int32) (uc : Int32) (h0 : Heap) (n0 : Nat) (O0 : Old Z n0 h0) (P0 : Fld Z h0 oa "com/example/queue_manager_rpc/queuemanagerrpc/rpc/SecurityTrailer" "authType" "I" (.int va)) (P1 : Fld Z h0 oa "com/example/queue_manager_rpc/queuemanagerrpc/rpc/SecurityTrailer" "level" "I" (.int vl)) (P2 : Fld Z h0 oa "com/example/queue_manager_rpc/queuemanagerrpc/rpc/SecurityTrailer" "contextId" "I" (.int vc)) (P3 : Fld Z h0 ob "com/example/queue_manager_rpc/queuemanagerrpc/rpc/SecurityTrailer" "authType" "I" (.int ua)) (P4 : Fld Z h0 ob "com/example/queue_manager_rpc/queuemanagerrpc/rpc/SecurityTrailer" "level" "I" (.int ul)) (P5 : Fld Z h0 ob "com/example/queue_manager_rpc/queuemanagerrpc/rpc/SecurityTrailer" "contextId" "I" (.int uc)) :
    MetFree l (⟨"com/example/queue_manager_rpc/queuemanagerrpc/rpc/SecurityTrailer", "sameContext", "(Lcom/example/queue_manager_rpc/queuemanagerrpc/rpc/SecurityTrailer;)Z"⟩ : MethodName) (head1 (Jvm.Cond.code (⟨"com/example/queue_manager_rpc/queuemanagerrpc/rpc/SecurityTrailer", "sameContext", "(Lcom/example/queue_manager_rpc/queuemanagerrpc/rpc/SecurityTrailer;)Z"⟩ : MethodName) prog_69_method_8_code 2 (some .boolean) :: ws) ({ frames := 0, cells := 0, slots := 0, locals := 0 } : Room)) (fun a U => a = #[(.ref oa), (.ref ob)] ∧ Z.Warmed39 U.vm ∧ U.heap = h0) (fun _ _ _ _ _ => True) (fun _ U o U' => ∃ v L, o = .returned v ∧ Q_sameContext Z oa ob va vl vc ua ul uc h0 n0 v U'.heap L ∧ FrameEnd U o U' L ({ frames := 0, cells := 0, slots := 0, locals := 0 } : Room).cells ({ frames := 0, cells := 0, slots := 0, locals := 0 } : Room).slots) := by
  refine MetFree.of_bodySF (plainFor_of_name pn_0) hisR ?_
  intro p e s m args below meth c s₁ Bd hml0 hP hK
  obtain ⟨rfl, hZ, hh⟩ := hP
  have hx := Bd.exec
  have hby := Bd.bytes
  have hml : c.maxLocals = 2 := hml0
  have hown : s.vm.findClass "com/example/queue_manager_rpc/queuemanagerrpc/rpc/SecurityTrailer" = some m.cls := findClass_of_methodNamed Bd.named
  have hnm := (name_of_methodNamed Bd.named Bd.method).1
  have hlk := BodyLoose.notSynchronized Bd
  have X0 : Stand p l e ({ frames := 0, cells := 0, slots := 0, locals := 0 } : Room) s m #[(.ref oa), (.ref ob)] below meth c s₁ [] 0 0 := Stand.of_body Bd
  have e0 : s₁.heap = h0 := by rw [← hh, Bd.state]; rfl
  have N0 := Fr.nil n0
  refine Go.start (P := fun o U' => ∃ v L, o = .returned v ∧ Q_sameContext Z oa ob va vl vc ua ul uc h0 n0 v U'.heap L ∧ FrameEnd s o U' L ({ frames := 0, cells := 0, slots := 0, locals := 0 } : Room).cells ({ frames := 0, cells := 0, slots := 0, locals := 0 } : Room).slots) (ef_sameContext m oa ob) ?_
  show Go p e below _ (s₁.setTop (mkF m 0 #[.val (.ref oa), .val (.ref ob)] []))
  refine Go.by (fun t k => XS.aloadN X0.here hx rfl (hb hby d3_0) rfl rfl k) ?_
  show Go p e below _ (s₁.setTop (mkF m 1 #[.val (.ref oa), .val (.ref ob)] [(.ref oa)]))
  obtain ⟨T1, X1, e1, st1⟩ := getF X0 hx hZ hown (host := "") (Or.inl (hw _ (List.mem_of_getElem? (i := 9) rfl))) Via.refl e0 P0 (g := (mkF m 1 #[.val (.ref oa), .val (.ref ob)] [(.ref oa)])) rfl rfl (hb hby d3_1)
  refine Go.by st1 ?_
  show Go p e below _ (T1.setTop (mkF m 4 #[.val (.ref oa), .val (.ref ob)] [(.int va)]))
  refine Go.by (fun t k => XS.aloadN X1.here hx rfl (hb hby d3_4) rfl rfl k) ?_
  show Go p e below _ (T1.setTop (mkF m 5 #[.val (.ref oa), .val (.ref ob)] [(.ref ob), (.int va)]))
  obtain ⟨T2, X2, e2, st2⟩ := getF X1 hx hZ hown (host := "") (Or.inl (hw _ (List.mem_of_getElem? (i := 9) rfl))) Via.refl e1 P3 (g := (mkF m 5 #[.val (.ref oa), .val (.ref ob)] [(.ref ob), (.int va)])) rfl rfl (hb hby d3_5)
  refine Go.by st2 ?_
  show Go p e below _ (T2.setTop (mkF m 8 #[.val (.ref oa), .val (.ref ob)] [(.int ua), (.int va)]))
  by_cases hc3 : va = ua
  · skip
    refine Go.by (fun t k => XS.icmpNo X2.here hx rfl (hb hby d3_8) rfl (teq hc3).2 k) ?_
    show Go p e below _ (T2.setTop (mkF m 11 #[.val (.ref oa), .val (.ref ob)] []))
    refine Go.by (fun t k => XS.aloadN X2.here hx rfl (hb hby d3_11) rfl rfl k) ?_
    show Go p e below _ (T2.setTop (mkF m 12 #[.val (.ref oa), .val (.ref ob)] [(.ref oa)]))
    obtain ⟨T4, X4, e4, st4⟩ := getF X2 hx hZ hown (host := "") (Or.inl (hw _ (List.mem_of_getElem? (i := 11) rfl))) Via.refl e2 P1 (g := (mkF m 12 #[.val (.ref oa), .val (.ref ob)] [(.ref oa)])) rfl rfl (hb hby d3_12)
    refine Go.by st4 ?_
    show Go p e below _ (T4.setTop (mkF m 15 #[.val (.ref oa), .val (.ref ob)] [(.int vl)]))
    refine Go.by (fun t k => XS.aloadN X4.here hx rfl (hb hby d3_15) rfl rfl k) ?_
    show Go p e below _ (T4.setTop (mkF m 16 #[.val (.ref oa), .val (.ref ob)] [(.ref ob), (.int vl)]))
    obtain ⟨T5, X5, e5, st5⟩ := getF X4 hx hZ hown (host := "") (Or.inl (hw _ (List.mem_of_getElem? (i := 11) rfl))) Via.refl e4 P4 (g := (mkF m 16 #[.val (.ref oa), .val (.ref ob)] [(.ref ob), (.int vl)])) rfl rfl (hb hby d3_16)
    refine Go.by st5 ?_
    show Go p e below _ (T5.setTop (mkF m 19 #[.val (.ref oa), .val (.ref ob)] [(.int ul), (.int vl)]))
    by_cases hc6 : vl = ul
    · skip
      refine Go.by (fun t k => XS.icmpNo X5.here hx rfl (hb hby d3_19) rfl (teq hc6).2 k) ?_
      show Go p e below _ (T5.setTop (mkF m 22 #[.val (.ref oa), .val (.ref ob)] []))
      refine Go.by (fun t k => XS.aloadN X5.here hx rfl (hb hby d3_22) rfl rfl k) ?_
      show Go p e below _ (T5.setTop (mkF m 23 #[.val (.ref oa), .val (.ref ob)] [(.ref oa)]))
      obtain ⟨T7, X7, e7, st7⟩ := getF X5 hx hZ hown (host := "") (Or.inl (hw _ (List.mem_of_getElem? (i := 15) rfl))) Via.refl e5 P2 (g := (mkF m 23 #[.val (.ref oa), .val (.ref ob)] [(.ref oa)])) rfl rfl (hb hby d3_23)
      refine Go.by st7 ?_
      show Go p e below _ (T7.setTop (mkF m 26 #[.val (.ref oa), .val (.ref ob)] [(.int vc)]))
      refine Go.by (fun t k => XS.aloadN X7.here hx rfl (hb hby d3_26) rfl rfl k) ?_
      show Go p e below _ (T7.setTop (mkF m 27 #[.val (.ref oa), .val (.ref ob)] [(.ref ob), (.int vc)]))
      obtain ⟨T8, X8, e8, st8⟩ := getF X7 hx hZ hown (host := "") (Or.inl (hw _ (List.mem_of_getElem? (i := 15) rfl))) Via.refl e7 P5 (g := (mkF m 27 #[.val (.ref oa), .val (.ref ob)] [(.ref ob), (.int vc)])) rfl rfl (hb hby d3_27)
      refine Go.by st8 ?_
      show Go p e below _ (T8.setTop (mkF m 30 #[.val (.ref oa), .val (.ref ob)] [(.int uc), (.int vc)]))
      by_cases hc9 : vc = uc
      · skip
        refine Go.by (fun t k => XS.icmpNo X8.here hx rfl (hb hby d3_30) rfl (teq hc9).2 k) ?_
        show Go p e below _ (T8.setTop (mkF m 33 #[.val (.ref oa), .val (.ref ob)] []))
        refine Go.by (fun t k => XS.iconst X8.here hx rfl (hb hby d3_33) k) ?_
        show Go p e below _ (T8.setTop (mkF m 34 #[.val (.ref oa), .val (.ref ob)] [(.int (1 : Int32))]))
        refine Go.by (fun t k => XS.goto X8.here hx rfl (pc0 := 34) (pc' := 38) rfl (hb hby d3_34) (by decide) (by decide) k) ?_
        show Go p e below _ (T8.setTop (mkF m 38 #[.val (.ref oa), .val (.ref ob)] [(.int (1 : Int32))]))
        have hq : Q_sameContext Z oa ob va vl vc ua ul uc h0 n0 (some (.int (nar .boolean (1 : Int32)))) h0 _ := ⟨(by show some (Value.int _) = _; simp [own_same, nar, hc3, hc6, hc9]), N0, rfl⟩
        exact Go.retN X8 hx (t := .boolean) Bd.returns (by simp) hlk (hb hby d3_38) (by decide) (by decide) (by rw [e8]; exact hq)
      · skip
        refine Go.by (fun t k => XS.icmpYes X8.here hx rfl (pc0 := 30) (pc' := 37) rfl (hb hby d3_30) rfl (feq hc9).2 (by decide) (by decide) k) ?_
        show Go p e below _ (T8.setTop (mkF m 37 #[.val (.ref oa), .val (.ref ob)] []))
        refine Go.by (fun t k => XS.iconst X8.here hx rfl (hb hby d3_37) k) ?_
        show Go p e below _ (T8.setTop (mkF m 38 #[.val (.ref oa), .val (.ref ob)] [(.int (0 : Int32))]))
        have hq : Q_sameContext Z oa ob va vl vc ua ul uc h0 n0 (some (.int (nar .boolean (0 : Int32)))) h0 _ := ⟨(by show some (Value.int _) = _; simp [own_same, nar, hc3, hc6, hc9]), N0, rfl⟩
        exact Go.retN X8 hx (t := .boolean) Bd.returns (by simp) hlk (hb hby d3_38) (by decide) (by decide) (by rw [e8]; exact hq)
    · skip
      refine Go.by (fun t k => XS.icmpYes X5.here hx rfl (pc0 := 19) (pc' := 37) rfl (hb hby d3_19) rfl (feq hc6).2 (by decide) (by decide) k) ?_
      show Go p e below _ (T5.setTop (mkF m 37 #[.val (.ref oa), .val (.ref ob)] []))
      refine Go.by (fun t k => XS.iconst X5.here hx rfl (hb hby d3_37) k) ?_
      show Go p e below _ (T5.setTop (mkF m 38 #[.val (.ref oa), .val (.ref ob)] [(.int (0 : Int32))]))
      have hq : Q_sameContext Z oa ob va vl vc ua ul uc h0 n0 (some (.int (nar .boolean (0 : Int32)))) h0 _ := ⟨(by show some (Value.int _) = _; simp [own_same, nar, hc3, hc6]), N0, rfl⟩
      exact Go.retN X5 hx (t := .boolean) Bd.returns (by simp) hlk (hb hby d3_38) (by decide) (by decide) (by rw [e5]; exact hq)
  · skip
    refine Go.by (fun t k => XS.icmpYes X2.here hx rfl (pc0 := 8) (pc' := 37) rfl (hb hby d3_8) rfl (feq hc3).2 (by decide) (by decide) k) ?_
    show Go p e below _ (T2.setTop (mkF m 37 #[.val (.ref oa), .val (.ref ob)] []))
    refine Go.by (fun t k => XS.iconst X2.here hx rfl (hb hby d3_37) k) ?_
    show Go p e below _ (T2.setTop (mkF m 38 #[.val (.ref oa), .val (.ref ob)] [(.int (0 : Int32))]))
    have hq : Q_sameContext Z oa ob va vl vc ua ul uc h0 n0 (some (.int (nar .boolean (0 : Int32)))) h0 _ := ⟨(by show some (Value.int _) = _; simp [own_same, nar, hc3]), N0, rfl⟩
    exact Go.retN X2 hx (t := .boolean) Bd.returns (by simp) hlk (hb hby d3_38) (by decide) (by decide) (by rw [e2]; exact hq)
theorem pn_1 : plainName "com/example/queue_manager_rpc/queuemanagerrpc/rpc/SecurityTrailerSameContextPinLaw" = true := by first | (simp [plainName, overriddenIn]; done) | decide +kernel
theorem pd_0 : parseMethodDescriptor "(IIIII)V" = some ⟨[.int, .int, .int, .int, .int], none⟩ := by decide +kernel
theorem pd_1 : parseMethodDescriptor "(Lcom/example/queue_manager_rpc/queuemanagerrpc/rpc/SecurityTrailer;)Z" = some ⟨[(.object "com/example/queue_manager_rpc/queuemanagerrpc/rpc/SecurityTrailer")], some .boolean⟩ := by decide +kernel
theorem ef_law (m : MethodId) (ia : Int32) (il : Int32) (ic : Int32) (ix : Int32) (iq : Int32) (ip : Int32) : entryFrame m #[(.int ia), (.int il), (.int ic), (.int ix), (.int iq), (.int ip)] maxLocals = mkF m 0 #[.val (.int ia), .val (.int il), .val (.int ic), .val (.int ix), .val (.int iq), .val (.int ip), .unset, .unset, .unset, .unset, .unset, .unset, .unset, .unset, .unset] [] := by first | (simp [entryFrame, mkF, argsToLocals, Value.category, maxLocals]; done) | rfl
def Q_law (Z : State) (ia : Int32) (il : Int32) (ic : Int32) (ix : Int32) (iq : Int32) (ip : Int32) (h0 : Heap) (n0 : Nat) (v : Option Value) (h : Heap) (L : List Loc) : Prop := v = some (.int (1 : Int32)) ∧ Fr n0 L ∧ Keep h0 h []
set_option maxRecDepth 65536 in
set_option maxHeartbeats 40000000 in
theorem law (l : Launch) (Z : State) (a0 : Array Value) (hw : ∀ d ∈ tables_1, d.before a0 Z = true) (ws : List Jvm.Cond) (ia : Int32) (il : Int32) (ic : Int32) (ix : Int32) (iq : Int32) (ip : Int32) (h0 : Heap) (n0 : Nat) (O0 : Old Z n0 h0) :
    MetFree l x (head1 (Jvm.Cond.code x code maxLocals ret :: ws) room_1) (fun a U => a = #[(.int ia), (.int il), (.int ic), (.int ix), (.int iq), (.int ip)] ∧ Z.Warmed39 U.vm ∧ U.heap = h0) (fun _ _ _ _ _ => True) (fun _ U o U' => ∃ v L, o = .returned v ∧ Q_law Z ia il ic ix iq ip h0 n0 v U'.heap L ∧ FrameEnd U o U' L room_1.cells room_1.slots) := by
  refine MetFree.of_bodySF (plainFor_of_name pn_1) hisR ?_
  intro p e s m args below meth c s₁ Bd hml0 hP hK
  obtain ⟨rfl, hZ, hh⟩ := hP
  have hx := Bd.exec
  have hby := Bd.bytes
  have hml : c.maxLocals = 15 := hml0
  have hown : s.vm.findClass "com/example/queue_manager_rpc/queuemanagerrpc/rpc/SecurityTrailerSameContextPinLaw" = some m.cls := findClass_of_methodNamed Bd.named
  have hnm := (name_of_methodNamed Bd.named Bd.method).1
  have hlk := BodyLoose.notSynchronized Bd
  have X0 : Stand p l e room_1 s m #[(.int ia), (.int il), (.int ic), (.int ix), (.int iq), (.int ip)] below meth c s₁ [] 0 0 := Stand.of_body Bd
  have e0 : s₁.heap = h0 := by rw [← hh, Bd.state]; rfl
  have N0 := Fr.nil n0
  refine Go.start (P := fun o U' => ∃ v L, o = .returned v ∧ Q_law Z ia il ic ix iq ip h0 n0 v U'.heap L ∧ FrameEnd s o U' L room_1.cells room_1.slots) (ef_law m ia il ic ix iq ip) ?_
  show Go p e below _ (s₁.setTop (mkF m 0 #[.val (.int ia), .val (.int il), .val (.int ic), .val (.int ix), .val (.int iq), .val (.int ip), .unset, .unset, .unset, .unset, .unset, .unset, .unset, .unset, .unset] []))
  refine Go.by (fun t k => XS.iload X0.here hx rfl (hb hby at_0) rfl k) ?_
  show Go p e below _ (s₁.setTop (mkF m 2 #[.val (.int ia), .val (.int il), .val (.int ic), .val (.int ix), .val (.int iq), .val (.int ip), .unset, .unset, .unset, .unset, .unset, .unset, .unset, .unset, .unset] [(.int iq)]))
  refine Go.by (fun t k => XS.iconst X0.here hx rfl (hb hby at_2) k) ?_
  show Go p e below _ (s₁.setTop (mkF m 3 #[.val (.int ia), .val (.int il), .val (.int ic), .val (.int ix), .val (.int iq), .val (.int ip), .unset, .unset, .unset, .unset, .unset, .unset, .unset, .unset, .unset] [(.int (1 : Int32)), (.int iq)]))
  refine Go.by (fun t k => XS.iand X0.here hx rfl (hb hby at_3) rfl k) ?_
  show Go p e below _ (s₁.setTop (mkF m 4 #[.val (.int ia), .val (.int il), .val (.int ic), .val (.int ix), .val (.int iq), .val (.int ip), .unset, .unset, .unset, .unset, .unset, .unset, .unset, .unset, .unset] [(.int (iq &&& (1 : Int32)))]))
  have J14 : ∀ (j_oa : Int32) , Go p e below (fun o U' => ∃ v L, o = .returned v ∧ Q_law Z ia il ic ix iq ip h0 n0 v U'.heap L ∧ FrameEnd s o U' L room_1.cells room_1.slots) (s₁.setTop (mkF m 14 #[.val (.int ia), .val (.int il), .val (.int ic), .val (.int ix), .val (.int iq), .val (.int ip), .val (.int j_oa), .unset, .unset, .unset, .unset, .unset, .unset, .unset, .unset] [])) := by
    intro j_oa 
    show Go p e below _ (s₁.setTop (mkF m 14 #[.val (.int ia), .val (.int il), .val (.int ic), .val (.int ix), .val (.int iq), .val (.int ip), .val (.int j_oa), .unset, .unset, .unset, .unset, .unset, .unset, .unset, .unset] []))
    refine Go.by (fun t k => XS.iload X0.here hx rfl (hb hby at_14) rfl k) ?_
    show Go p e below _ (s₁.setTop (mkF m 16 #[.val (.int ia), .val (.int il), .val (.int ic), .val (.int ix), .val (.int iq), .val (.int ip), .val (.int j_oa), .unset, .unset, .unset, .unset, .unset, .unset, .unset, .unset] [(.int iq)]))
    refine Go.by (fun t k => XS.iconst X0.here hx rfl (hb hby at_16) k) ?_
    show Go p e below _ (s₁.setTop (mkF m 17 #[.val (.int ia), .val (.int il), .val (.int ic), .val (.int ix), .val (.int iq), .val (.int ip), .val (.int j_oa), .unset, .unset, .unset, .unset, .unset, .unset, .unset, .unset] [(.int (2 : Int32)), (.int iq)]))
    refine Go.by (fun t k => XS.iand X0.here hx rfl (hb hby at_17) rfl k) ?_
    show Go p e below _ (s₁.setTop (mkF m 18 #[.val (.int ia), .val (.int il), .val (.int ic), .val (.int ix), .val (.int iq), .val (.int ip), .val (.int j_oa), .unset, .unset, .unset, .unset, .unset, .unset, .unset, .unset] [(.int (iq &&& (2 : Int32)))]))
    have J34 : ∀ (j_ol : Int32) , Go p e below (fun o U' => ∃ v L, o = .returned v ∧ Q_law Z ia il ic ix iq ip h0 n0 v U'.heap L ∧ FrameEnd s o U' L room_1.cells room_1.slots) (s₁.setTop (mkF m 34 #[.val (.int ia), .val (.int il), .val (.int ic), .val (.int ix), .val (.int iq), .val (.int ip), .val (.int j_oa), .val (.int j_ol), .unset, .unset, .unset, .unset, .unset, .unset, .unset] [])) := by
      intro j_ol 
      show Go p e below _ (s₁.setTop (mkF m 34 #[.val (.int ia), .val (.int il), .val (.int ic), .val (.int ix), .val (.int iq), .val (.int ip), .val (.int j_oa), .val (.int j_ol), .unset, .unset, .unset, .unset, .unset, .unset, .unset] []))
      refine Go.by (fun t k => XS.iload X0.here hx rfl (hb hby at_34) rfl k) ?_
      show Go p e below _ (s₁.setTop (mkF m 36 #[.val (.int ia), .val (.int il), .val (.int ic), .val (.int ix), .val (.int iq), .val (.int ip), .val (.int j_oa), .val (.int j_ol), .unset, .unset, .unset, .unset, .unset, .unset, .unset] [(.int iq)]))
      refine Go.by (fun t k => XS.iconst X0.here hx rfl (hb hby at_36) k) ?_
      show Go p e below _ (s₁.setTop (mkF m 37 #[.val (.int ia), .val (.int il), .val (.int ic), .val (.int ix), .val (.int iq), .val (.int ip), .val (.int j_oa), .val (.int j_ol), .unset, .unset, .unset, .unset, .unset, .unset, .unset] [(.int (4 : Int32)), (.int iq)]))
      refine Go.by (fun t k => XS.iand X0.here hx rfl (hb hby at_37) rfl k) ?_
      show Go p e below _ (s₁.setTop (mkF m 38 #[.val (.int ia), .val (.int il), .val (.int ic), .val (.int ix), .val (.int iq), .val (.int ip), .val (.int j_oa), .val (.int j_ol), .unset, .unset, .unset, .unset, .unset, .unset, .unset] [(.int (iq &&& (4 : Int32)))]))
      have J54 : ∀ (j_oc : Int32) , Go p e below (fun o U' => ∃ v L, o = .returned v ∧ Q_law Z ia il ic ix iq ip h0 n0 v U'.heap L ∧ FrameEnd s o U' L room_1.cells room_1.slots) (s₁.setTop (mkF m 54 #[.val (.int ia), .val (.int il), .val (.int ic), .val (.int ix), .val (.int iq), .val (.int ip), .val (.int j_oa), .val (.int j_ol), .val (.int j_oc), .unset, .unset, .unset, .unset, .unset, .unset] [])) := by
        intro j_oc 
        show Go p e below _ (s₁.setTop (mkF m 54 #[.val (.int ia), .val (.int il), .val (.int ic), .val (.int ix), .val (.int iq), .val (.int ip), .val (.int j_oa), .val (.int j_ol), .val (.int j_oc), .unset, .unset, .unset, .unset, .unset, .unset] []))
        obtain ⟨T1, h1, X1, e1, E1, A1, D1, -, st1⟩ := newO X0 hx hZ hown (hw _ (List.mem_of_getElem? (i := 0) rfl)) (hw _ (List.mem_of_getElem? (i := 1) rfl)) (hw _ (List.mem_of_getElem? (i := 2) rfl)) e0 (g := (mkF m 54 #[.val (.int ia), .val (.int il), .val (.int ic), .val (.int ix), .val (.int iq), .val (.int ip), .val (.int j_oa), .val (.int j_ol), .val (.int j_oc), .unset, .unset, .unset, .unset, .unset, .unset] [])) rfl (hb hby at_54) (by decide) (by decide)
        obtain ⟨b1, g1⟩ : ∃ z, z = h0.size := ⟨_, rfl⟩
        rw [← g1] at A1 D1 st1
        have gl1 : h0.size ≤ b1 := Nat.le_of_eq g1.symm
        have ge1 : n0 ≤ b1 := Nat.le_trans (own_old_size O0) gl1
        have sz1 : h0.size ≤ b1 := Nat.le_trans (Keep.refl h0 []).1 gl1
        have F2 : Fld Z h1 b1 "com/example/queue_manager_rpc/queuemanagerrpc/rpc/SecurityTrailer" "authType" "I" (.int (0 : Int32)) := D1 (Or.inr (hw _ (List.mem_of_getElem? (i := 10) rfl))) (ty := .int) (by decide)
        have F3 : Fld Z h1 b1 "com/example/queue_manager_rpc/queuemanagerrpc/rpc/SecurityTrailer" "level" "I" (.int (0 : Int32)) := D1 (Or.inr (hw _ (List.mem_of_getElem? (i := 12) rfl))) (ty := .int) (by decide)
        have F4 : Fld Z h1 b1 "com/example/queue_manager_rpc/queuemanagerrpc/rpc/SecurityTrailer" "padLength" "I" (.int (0 : Int32)) := D1 (Or.inr (hw _ (List.mem_of_getElem? (i := 14) rfl))) (ty := .int) (by decide)
        have F5 : Fld Z h1 b1 "com/example/queue_manager_rpc/queuemanagerrpc/rpc/SecurityTrailer" "contextId" "I" (.int (0 : Int32)) := D1 (Or.inr (hw _ (List.mem_of_getElem? (i := 16) rfl))) (ty := .int) (by decide)
        have F6 : Fld Z h1 b1 "com/example/queue_manager_rpc/queuemanagerrpc/rpc/SecurityTrailer" "offset" "I" (.int (0 : Int32)) := D1 (Or.inr (hw _ (List.mem_of_getElem? (i := 18) rfl))) (ty := .int) (by decide)
        refine Go.by st1 ?_
        show Go p e below _ (T1.setTop (mkF m 57 #[.val (.int ia), .val (.int il), .val (.int ic), .val (.int ix), .val (.int iq), .val (.int ip), .val (.int j_oa), .val (.int j_ol), .val (.int j_oc), .unset, .unset, .unset, .unset, .unset, .unset] [(.ref b1)]))
        refine Go.by (fun t k => XS.dup X1.here hx rfl (hb hby at_57) rfl rfl k) ?_
        show Go p e below _ (T1.setTop (mkF m 58 #[.val (.int ia), .val (.int il), .val (.int ic), .val (.int ix), .val (.int iq), .val (.int ip), .val (.int j_oa), .val (.int j_ol), .val (.int j_oc), .unset, .unset, .unset, .unset, .unset, .unset] [(.ref b1), (.ref b1)]))
        refine Go.by (fun t k => XS.iloadN X1.here hx rfl (hb hby at_58) rfl k) ?_
        show Go p e below _ (T1.setTop (mkF m 59 #[.val (.int ia), .val (.int il), .val (.int ic), .val (.int ix), .val (.int iq), .val (.int ip), .val (.int j_oa), .val (.int j_ol), .val (.int j_oc), .unset, .unset, .unset, .unset, .unset, .unset] [(.int ia), (.ref b1), (.ref b1)]))
        refine Go.by (fun t k => XS.iloadN X1.here hx rfl (hb hby at_59) rfl k) ?_
        show Go p e below _ (T1.setTop (mkF m 60 #[.val (.int ia), .val (.int il), .val (.int ic), .val (.int ix), .val (.int iq), .val (.int ip), .val (.int j_oa), .val (.int j_ol), .val (.int j_oc), .unset, .unset, .unset, .unset, .unset, .unset] [(.int il), (.int ia), (.ref b1), (.ref b1)]))
        refine Go.by (fun t k => XS.iload X1.here hx rfl (hb hby at_60) rfl k) ?_
        show Go p e below _ (T1.setTop (mkF m 62 #[.val (.int ia), .val (.int il), .val (.int ic), .val (.int ix), .val (.int iq), .val (.int ip), .val (.int j_oa), .val (.int j_ol), .val (.int j_oc), .unset, .unset, .unset, .unset, .unset, .unset] [(.int ip), (.int il), (.int ia), (.ref b1), (.ref b1)]))
        refine Go.by (fun t k => XS.iloadN X1.here hx rfl (hb hby at_62) rfl k) ?_
        show Go p e below _ (T1.setTop (mkF m 63 #[.val (.int ia), .val (.int il), .val (.int ic), .val (.int ix), .val (.int iq), .val (.int ip), .val (.int j_oa), .val (.int j_ol), .val (.int j_oc), .unset, .unset, .unset, .unset, .unset, .unset] [(.int ic), (.int ip), (.int il), (.int ia), (.ref b1), (.ref b1)]))
        refine Go.by (fun t k => XS.iload X1.here hx rfl (hb hby at_63) rfl k) ?_
        show Go p e below _ (T1.setTop (mkF m 65 #[.val (.int ia), .val (.int il), .val (.int ic), .val (.int ix), .val (.int iq), .val (.int ip), .val (.int j_oa), .val (.int j_ol), .val (.int j_oc), .unset, .unset, .unset, .unset, .unset, .unset] [(.int ip), (.int ic), (.int ip), (.int il), (.int ia), (.ref b1), (.ref b1)]))
        refine Go.by (fun t k => XS.iload X1.here hx rfl (hb hby at_65) rfl k) ?_
        show Go p e below _ (T1.setTop (mkF m 67 #[.val (.int ia), .val (.int il), .val (.int ic), .val (.int ix), .val (.int iq), .val (.int ip), .val (.int j_oa), .val (.int j_ol), .val (.int j_oc), .unset, .unset, .unset, .unset, .unset, .unset] [(.int iq), (.int ip), (.int ic), (.int ip), (.int il), (.int ia), (.ref b1), (.ref b1)]))
        refine Go.by (fun t k => XS.ixor X1.here hx rfl (hb hby at_67) rfl k) ?_
        show Go p e below _ (T1.setTop (mkF m 68 #[.val (.int ia), .val (.int il), .val (.int ic), .val (.int ix), .val (.int iq), .val (.int ip), .val (.int j_oa), .val (.int j_ol), .val (.int j_oc), .unset, .unset, .unset, .unset, .unset, .unset] [(.int (ip ^^^ iq)), (.int ic), (.int ip), (.int il), (.int ia), (.ref b1), (.ref b1)]))
        have F8 : Old Z n0 h1 := (O0.ext E1)
        have F9 : Keep h0 h1 [] := ((Keep.refl h0 []).ext E1)
        obtain ⟨_, _, ⟨T7, L7, k7, n7⟩, -, X7, ⟨Lc7, hQ7, l7, y7, z7⟩, st7⟩ := X1.specialBack hx (y := (⟨"com/example/queue_manager_rpc/queuemanagerrpc/rpc/SecurityTrailer", "<init>", "(IIIII)V"⟩ : MethodName)) rfl hown (mvT hZ (hw _ (List.mem_of_getElem? (i := 3) rfl))) (mvT hZ (hw _ (List.mem_of_getElem? (i := 4) rfl))) (mvT hZ (hw _ (List.mem_of_getElem? (i := 5) rfl))) (by decide) (backOf (W := 1) (init l Z a0 hw [] b1 ia il ip ic (ip ^^^ iq) h1 n0 F8 A1 F2 F3 F4 F5 F6 ge1) hZ (hw _ (List.mem_of_getElem? (i := 5) rfl)) (hw _ (List.mem_of_getElem? (i := 2) rfl)) (by decide) (by decide)) (g := (mkF m 68 #[.val (.int ia), .val (.int il), .val (.int ic), .val (.int ix), .val (.int iq), .val (.int ip), .val (.int j_oa), .val (.int j_ol), .val (.int j_oc), .unset, .unset, .unset, .unset, .unset, .unset] [(.int (ip ^^^ iq)), (.int ic), (.int ip), (.int il), (.int ia), (.ref b1), (.ref b1)])) rfl (by rw [hml]; rfl) (Steps.refl _) (a := b1) (argsL := [(.int ia), (.int il), (.int ip), (.int ic), (.int (ip ^^^ iq))]) (rest := [(.ref b1)]) (lenOf pd_0 rfl) rfl (by show 2 * 0 + _ ≤ _; exact Nat.le_of_eq rfl) (hb hby at_68) (fun _ _ => ⟨rfl, e1, (by decide : 1 + 0 ≤ _), (by decide : 5 + 0 ≤ _)⟩)
        dsimp only [Pt.U, Pt.locs, Pt.cells, Pt.slots] at X7 l7 y7 z7 st7 hQ7
        subst l7 y7 z7
        obtain ⟨rfl, N7q, K7, F7_0, F7_1, F7_2, F7_3⟩ := hQ7
        have N7 := Fr.app N0 N7q
        refine Go.tr st7 ?_
        show Go p e below _ (T7.setTop (mkF m 71 #[.val (.int ia), .val (.int il), .val (.int ic), .val (.int ix), .val (.int iq), .val (.int ip), .val (.int j_oa), .val (.int j_ol), .val (.int j_oc), .unset, .unset, .unset, .unset, .unset, .unset] [(.ref b1)]))
        refine Go.by (fun t k => XS.astore X7.here hx rfl (hb hby at_71) rfl rfl (l' := #[.val (.int ia), .val (.int il), .val (.int ic), .val (.int ix), .val (.int iq), .val (.int ip), .val (.int j_oa), .val (.int j_ol), .val (.int j_oc), .val (.ref b1), .unset, .unset, .unset, .unset, .unset]) rfl k) ?_
        show Go p e below _ (T7.setTop (mkF m 73 #[.val (.int ia), .val (.int il), .val (.int ic), .val (.int ix), .val (.int iq), .val (.int ip), .val (.int j_oa), .val (.int j_ol), .val (.int j_oc), .val (.ref b1), .unset, .unset, .unset, .unset, .unset] []))
        have F10 : Old Z n0 T7.heap := (F8.keep K7 (allS ge1 all0))
        have F11 : Keep h0 T7.heap [] := (F9.trans K7 (allS (Or.inr sz1) all0))
        obtain ⟨T12, h12, X12, e12, E12, A12, D12, -, st12⟩ := newO X7 hx hZ hown (hw _ (List.mem_of_getElem? (i := 0) rfl)) (hw _ (List.mem_of_getElem? (i := 1) rfl)) (hw _ (List.mem_of_getElem? (i := 2) rfl)) rfl (g := (mkF m 73 #[.val (.int ia), .val (.int il), .val (.int ic), .val (.int ix), .val (.int iq), .val (.int ip), .val (.int j_oa), .val (.int j_ol), .val (.int j_oc), .val (.ref b1), .unset, .unset, .unset, .unset, .unset] [])) rfl (hb hby at_73) (by decide) (by decide)
        obtain ⟨b12, g12⟩ : ∃ z, z = T7.heap.size := ⟨_, rfl⟩
        rw [← g12] at A12 D12 st12
        have gl12 : T7.heap.size ≤ b12 := Nat.le_of_eq g12.symm
        have ge12 : n0 ≤ b12 := Nat.le_trans (own_old_size F10) gl12
        have sz12 : h0.size ≤ b12 := Nat.le_trans F11.1 gl12
        have ne13 : b1 ≠ b12 := Nat.ne_of_lt (Nat.lt_of_lt_of_le F7_0.lt gl12)
        have F14 : Fld Z h12 b12 "com/example/queue_manager_rpc/queuemanagerrpc/rpc/SecurityTrailer" "authType" "I" (.int (0 : Int32)) := D12 (Or.inr (hw _ (List.mem_of_getElem? (i := 10) rfl))) (ty := .int) (by decide)
        have F15 : Fld Z h12 b12 "com/example/queue_manager_rpc/queuemanagerrpc/rpc/SecurityTrailer" "level" "I" (.int (0 : Int32)) := D12 (Or.inr (hw _ (List.mem_of_getElem? (i := 12) rfl))) (ty := .int) (by decide)
        have F16 : Fld Z h12 b12 "com/example/queue_manager_rpc/queuemanagerrpc/rpc/SecurityTrailer" "padLength" "I" (.int (0 : Int32)) := D12 (Or.inr (hw _ (List.mem_of_getElem? (i := 14) rfl))) (ty := .int) (by decide)
        have F17 : Fld Z h12 b12 "com/example/queue_manager_rpc/queuemanagerrpc/rpc/SecurityTrailer" "contextId" "I" (.int (0 : Int32)) := D12 (Or.inr (hw _ (List.mem_of_getElem? (i := 16) rfl))) (ty := .int) (by decide)
        have F18 : Fld Z h12 b12 "com/example/queue_manager_rpc/queuemanagerrpc/rpc/SecurityTrailer" "offset" "I" (.int (0 : Int32)) := D12 (Or.inr (hw _ (List.mem_of_getElem? (i := 18) rfl))) (ty := .int) (by decide)
        refine Go.by st12 ?_
        show Go p e below _ (T12.setTop (mkF m 76 #[.val (.int ia), .val (.int il), .val (.int ic), .val (.int ix), .val (.int iq), .val (.int ip), .val (.int j_oa), .val (.int j_ol), .val (.int j_oc), .val (.ref b1), .unset, .unset, .unset, .unset, .unset] [(.ref b12)]))
        refine Go.by (fun t k => XS.dup X12.here hx rfl (hb hby at_76) rfl rfl k) ?_
        show Go p e below _ (T12.setTop (mkF m 77 #[.val (.int ia), .val (.int il), .val (.int ic), .val (.int ix), .val (.int iq), .val (.int ip), .val (.int j_oa), .val (.int j_ol), .val (.int j_oc), .val (.ref b1), .unset, .unset, .unset, .unset, .unset] [(.ref b12), (.ref b12)]))
        refine Go.by (fun t k => XS.iload X12.here hx rfl (hb hby at_77) rfl k) ?_
        show Go p e below _ (T12.setTop (mkF m 79 #[.val (.int ia), .val (.int il), .val (.int ic), .val (.int ix), .val (.int iq), .val (.int ip), .val (.int j_oa), .val (.int j_ol), .val (.int j_oc), .val (.ref b1), .unset, .unset, .unset, .unset, .unset] [(.int j_oa), (.ref b12), (.ref b12)]))
        refine Go.by (fun t k => XS.iload X12.here hx rfl (hb hby at_79) rfl k) ?_
        show Go p e below _ (T12.setTop (mkF m 81 #[.val (.int ia), .val (.int il), .val (.int ic), .val (.int ix), .val (.int iq), .val (.int ip), .val (.int j_oa), .val (.int j_ol), .val (.int j_oc), .val (.ref b1), .unset, .unset, .unset, .unset, .unset] [(.int j_ol), (.int j_oa), (.ref b12), (.ref b12)]))
        refine Go.by (fun t k => XS.iload X12.here hx rfl (hb hby at_81) rfl k) ?_
        show Go p e below _ (T12.setTop (mkF m 83 #[.val (.int ia), .val (.int il), .val (.int ic), .val (.int ix), .val (.int iq), .val (.int ip), .val (.int j_oa), .val (.int j_ol), .val (.int j_oc), .val (.ref b1), .unset, .unset, .unset, .unset, .unset] [(.int ip), (.int j_ol), (.int j_oa), (.ref b12), (.ref b12)]))
        refine Go.by (fun t k => XS.iconst X12.here hx rfl (hb hby at_83) k) ?_
        show Go p e below _ (T12.setTop (mkF m 84 #[.val (.int ia), .val (.int il), .val (.int ic), .val (.int ix), .val (.int iq), .val (.int ip), .val (.int j_oa), .val (.int j_ol), .val (.int j_oc), .val (.ref b1), .unset, .unset, .unset, .unset, .unset] [(.int (3 : Int32)), (.int ip), (.int j_ol), (.int j_oa), (.ref b12), (.ref b12)]))
        refine Go.by (fun t k => XS.iushr X12.here hx rfl (hb hby at_84) rfl k) ?_
        show Go p e below _ (T12.setTop (mkF m 85 #[.val (.int ia), .val (.int il), .val (.int ic), .val (.int ix), .val (.int iq), .val (.int ip), .val (.int j_oa), .val (.int j_ol), .val (.int j_oc), .val (.ref b1), .unset, .unset, .unset, .unset, .unset] [(.int ((ip.toUInt32 >>> ((3 : Int32) &&& 31).toUInt32).toInt32)), (.int j_ol), (.int j_oa), (.ref b12), (.ref b12)]))
        refine Go.by (fun t k => XS.iload X12.here hx rfl (hb hby at_85) rfl k) ?_
        show Go p e below _ (T12.setTop (mkF m 87 #[.val (.int ia), .val (.int il), .val (.int ic), .val (.int ix), .val (.int iq), .val (.int ip), .val (.int j_oa), .val (.int j_ol), .val (.int j_oc), .val (.ref b1), .unset, .unset, .unset, .unset, .unset] [(.int j_oc), (.int ((ip.toUInt32 >>> ((3 : Int32) &&& 31).toUInt32).toInt32)), (.int j_ol), (.int j_oa), (.ref b12), (.ref b12)]))
        refine Go.by (fun t k => XS.iloadN X12.here hx rfl (hb hby at_87) rfl k) ?_
        show Go p e below _ (T12.setTop (mkF m 88 #[.val (.int ia), .val (.int il), .val (.int ic), .val (.int ix), .val (.int iq), .val (.int ip), .val (.int j_oa), .val (.int j_ol), .val (.int j_oc), .val (.ref b1), .unset, .unset, .unset, .unset, .unset] [(.int ix), (.int j_oc), (.int ((ip.toUInt32 >>> ((3 : Int32) &&& 31).toUInt32).toInt32)), (.int j_ol), (.int j_oa), (.ref b12), (.ref b12)]))
        have F20 : Old Z n0 h12 := (F10.ext E12)
        have F21 : Keep h0 h12 [] := (F11.ext E12)
        obtain ⟨_, _, ⟨T19, L19, k19, n19⟩, -, X19, ⟨Lc19, hQ19, l19, y19, z19⟩, st19⟩ := X12.specialBack hx (y := (⟨"com/example/queue_manager_rpc/queuemanagerrpc/rpc/SecurityTrailer", "<init>", "(IIIII)V"⟩ : MethodName)) rfl hown (mvT hZ (hw _ (List.mem_of_getElem? (i := 3) rfl))) (mvT hZ (hw _ (List.mem_of_getElem? (i := 4) rfl))) (mvT hZ (hw _ (List.mem_of_getElem? (i := 5) rfl))) (by decide) (backOf (W := 1) (init l Z a0 hw [] b12 j_oa j_ol ((ip.toUInt32 >>> ((3 : Int32) &&& 31).toUInt32).toInt32) j_oc ix h12 n0 F20 A12 F14 F15 F16 F17 F18 ge12) hZ (hw _ (List.mem_of_getElem? (i := 5) rfl)) (hw _ (List.mem_of_getElem? (i := 2) rfl)) (by decide) (by decide)) (g := (mkF m 88 #[.val (.int ia), .val (.int il), .val (.int ic), .val (.int ix), .val (.int iq), .val (.int ip), .val (.int j_oa), .val (.int j_ol), .val (.int j_oc), .val (.ref b1), .unset, .unset, .unset, .unset, .unset] [(.int ix), (.int j_oc), (.int ((ip.toUInt32 >>> ((3 : Int32) &&& 31).toUInt32).toInt32)), (.int j_ol), (.int j_oa), (.ref b12), (.ref b12)])) rfl (by rw [hml]; rfl) (Steps.refl _) (a := b12) (argsL := [(.int j_oa), (.int j_ol), (.int ((ip.toUInt32 >>> ((3 : Int32) &&& 31).toUInt32).toInt32)), (.int j_oc), (.int ix)]) (rest := [(.ref b12)]) (lenOf pd_0 rfl) rfl (by show 2 * 0 + _ ≤ _; exact Nat.le_of_eq rfl) (hb hby at_88) (fun _ _ => ⟨rfl, e12, (by decide : 2 + 0 ≤ _), (by decide : 10 + 0 ≤ _)⟩)
        dsimp only [Pt.U, Pt.locs, Pt.cells, Pt.slots] at X19 l19 y19 z19 st19 hQ19
        subst l19 y19 z19
        obtain ⟨rfl, N19q, K19, F19_0, F19_1, F19_2, F19_3⟩ := hQ19
        have N19 := Fr.app N7 N19q
        refine Go.tr st19 ?_
        show Go p e below _ (T19.setTop (mkF m 91 #[.val (.int ia), .val (.int il), .val (.int ic), .val (.int ix), .val (.int iq), .val (.int ip), .val (.int j_oa), .val (.int j_ol), .val (.int j_oc), .val (.ref b1), .unset, .unset, .unset, .unset, .unset] [(.ref b12)]))
        refine Go.by (fun t k => XS.astore X19.here hx rfl (hb hby at_91) rfl rfl (l' := #[.val (.int ia), .val (.int il), .val (.int ic), .val (.int ix), .val (.int iq), .val (.int ip), .val (.int j_oa), .val (.int j_ol), .val (.int j_oc), .val (.ref b1), .val (.ref b12), .unset, .unset, .unset, .unset]) rfl k) ?_
        show Go p e below _ (T19.setTop (mkF m 93 #[.val (.int ia), .val (.int il), .val (.int ic), .val (.int ix), .val (.int iq), .val (.int ip), .val (.int j_oa), .val (.int j_ol), .val (.int j_oc), .val (.ref b1), .val (.ref b12), .unset, .unset, .unset, .unset] []))
        refine Go.by (fun t k => XS.iload X19.here hx rfl (hb hby at_93) rfl k) ?_
        show Go p e below _ (T19.setTop (mkF m 95 #[.val (.int ia), .val (.int il), .val (.int ic), .val (.int ix), .val (.int iq), .val (.int ip), .val (.int j_oa), .val (.int j_ol), .val (.int j_oc), .val (.ref b1), .val (.ref b12), .unset, .unset, .unset, .unset] [(.int j_oa)]))
        refine Go.by (fun t k => XS.iloadN X19.here hx rfl (hb hby at_95) rfl k) ?_
        show Go p e below _ (T19.setTop (mkF m 96 #[.val (.int ia), .val (.int il), .val (.int ic), .val (.int ix), .val (.int iq), .val (.int ip), .val (.int j_oa), .val (.int j_ol), .val (.int j_oc), .val (.ref b1), .val (.ref b12), .unset, .unset, .unset, .unset] [(.int ia), (.int j_oa)]))
        have J118 : ∀ (j_ex : Int32) (hex : j_ex = own_same ia il ic j_oa j_ol j_oc), Go p e below (fun o U' => ∃ v L, o = .returned v ∧ Q_law Z ia il ic ix iq ip h0 n0 v U'.heap L ∧ FrameEnd s o U' L room_1.cells room_1.slots) (T19.setTop (mkF m 118 #[.val (.int ia), .val (.int il), .val (.int ic), .val (.int ix), .val (.int iq), .val (.int ip), .val (.int j_oa), .val (.int j_ol), .val (.int j_oc), .val (.ref b1), .val (.ref b12), .val (.int j_ex), .unset, .unset, .unset] [])) := by
          intro j_ex hex
          show Go p e below _ (T19.setTop (mkF m 118 #[.val (.int ia), .val (.int il), .val (.int ic), .val (.int ix), .val (.int iq), .val (.int ip), .val (.int j_oa), .val (.int j_ol), .val (.int j_oc), .val (.ref b1), .val (.ref b12), .val (.int j_ex), .unset, .unset, .unset] []))
          refine Go.by (fun t k => XS.aload X19.here hx rfl (hb hby at_118) rfl rfl k) ?_
          show Go p e below _ (T19.setTop (mkF m 120 #[.val (.int ia), .val (.int il), .val (.int ic), .val (.int ix), .val (.int iq), .val (.int ip), .val (.int j_oa), .val (.int j_ol), .val (.int j_oc), .val (.ref b1), .val (.ref b12), .val (.int j_ex), .unset, .unset, .unset] [(.ref b1)]))
          refine Go.by (fun t k => XS.aload X19.here hx rfl (hb hby at_120) rfl rfl k) ?_
          show Go p e below _ (T19.setTop (mkF m 122 #[.val (.int ia), .val (.int il), .val (.int ic), .val (.int ix), .val (.int iq), .val (.int ip), .val (.int j_oa), .val (.int j_ol), .val (.int j_oc), .val (.ref b1), .val (.ref b12), .val (.int j_ex), .unset, .unset, .unset] [(.ref b12), (.ref b1)]))
          have F23 : Old Z n0 T19.heap := (F20.keep K19 (allS ge12 all0))
          have F24 : Fld Z T19.heap b1 "com/example/queue_manager_rpc/queuemanagerrpc/rpc/SecurityTrailer" "authType" "I" (.int ia) := ((F7_1.ext E12).keep K19 (ninS ne13 nin0))
          have F25 : Fld Z T19.heap b1 "com/example/queue_manager_rpc/queuemanagerrpc/rpc/SecurityTrailer" "level" "I" (.int il) := ((F7_2.ext E12).keep K19 (ninS ne13 nin0))
          have F26 : Fld Z T19.heap b1 "com/example/queue_manager_rpc/queuemanagerrpc/rpc/SecurityTrailer" "contextId" "I" (.int ic) := ((F7_3.ext E12).keep K19 (ninS ne13 nin0))
          have F27 : Keep h0 T19.heap [] := (F21.trans K19 (allS (Or.inr sz12) all0))
          have F28 : Exa Z T19.heap b1 "com/example/queue_manager_rpc/queuemanagerrpc/rpc/SecurityTrailer" := ((F7_0.ext E12).keep K19)
          obtain ⟨cq22, kq22, q22a, q22b, q22c⟩ := isOf hZ rfl F28
          obtain ⟨_, _, ⟨T22, L22, k22, n22⟩, -, X22, ⟨Lc22, hQ22, l22, y22, z22⟩, st22⟩ := X19.virtualBack hx (y := (⟨"com/example/queue_manager_rpc/queuemanagerrpc/rpc/SecurityTrailer", "sameContext", "(Lcom/example/queue_manager_rpc/queuemanagerrpc/rpc/SecurityTrailer;)Z"⟩ : MethodName)) (z := (⟨"com/example/queue_manager_rpc/queuemanagerrpc/rpc/SecurityTrailer", "sameContext", "(Lcom/example/queue_manager_rpc/queuemanagerrpc/rpc/SecurityTrailer;)Z"⟩ : MethodName)) hown (mvT hZ (hw _ (List.mem_of_getElem? (i := 19) rfl))) (mvT hZ (hw _ (List.mem_of_getElem? (i := 20) rfl))) (notFace_of_selects (args := #[]) (mvT hZ (hw _ (List.mem_of_getElem? (i := 22) rfl)))) (mvT hZ (hw _ (List.mem_of_getElem? (i := 22) rfl))) (mvT hZ (hw _ (List.mem_of_getElem? (i := 21) rfl))) (by decide) (backOf (W := 0) (sameContext l Z a0 hw [] b1 b12 ia il ic j_oa j_ol j_oc T19.heap n0 F23 F24 F25 F26 F19_1 F19_2 F19_3) hZ (hw _ (List.mem_of_getElem? (i := 23) rfl)) (hw _ (List.mem_of_getElem? (i := 2) rfl)) (by decide) (by decide)) q22a q22c (g := (mkF m 122 #[.val (.int ia), .val (.int il), .val (.int ic), .val (.int ix), .val (.int iq), .val (.int ip), .val (.int j_oa), .val (.int j_ol), .val (.int j_oc), .val (.ref b1), .val (.ref b12), .val (.int j_ex), .unset, .unset, .unset] [(.ref b12), (.ref b1)])) rfl (by rw [hml]; rfl) (Steps.refl _) (argsL := [(.ref b12)]) (rest := []) (lenOf pd_1 rfl) rfl (by show 2 * 0 + _ ≤ _; exact Nat.le_of_eq rfl) (hb hby at_122) (fun _ _ => ⟨rfl, rfl, (by decide : 2 + 0 ≤ _), (by decide : 10 + 0 ≤ _)⟩)
          dsimp only [Pt.U, Pt.locs, Pt.cells, Pt.slots] at X22 l22 y22 z22 st22 hQ22
          subst l22 y22 z22
          obtain ⟨rfl, N22q, e22⟩ := hQ22
          have N22 := Fr.app N19 N22q
          refine Go.tr st22 ?_
          show Go p e below _ (T22.setTop (mkF m 125 #[.val (.int ia), .val (.int il), .val (.int ic), .val (.int ix), .val (.int iq), .val (.int ip), .val (.int j_oa), .val (.int j_ol), .val (.int j_oc), .val (.ref b1), .val (.ref b12), .val (.int j_ex), .unset, .unset, .unset] [(.int (own_same ia il ic j_oa j_ol j_oc))]))
          refine Go.by (fun t k => XS.istore X22.here hx rfl (hb hby at_125) rfl (l' := #[.val (.int ia), .val (.int il), .val (.int ic), .val (.int ix), .val (.int iq), .val (.int ip), .val (.int j_oa), .val (.int j_ol), .val (.int j_oc), .val (.ref b1), .val (.ref b12), .val (.int j_ex), .val (.int (own_same ia il ic j_oa j_ol j_oc)), .unset, .unset]) rfl k) ?_
          show Go p e below _ (T22.setTop (mkF m 127 #[.val (.int ia), .val (.int il), .val (.int ic), .val (.int ix), .val (.int iq), .val (.int ip), .val (.int j_oa), .val (.int j_ol), .val (.int j_oc), .val (.ref b1), .val (.ref b12), .val (.int j_ex), .val (.int (own_same ia il ic j_oa j_ol j_oc)), .unset, .unset] []))
          refine Go.by (fun t k => XS.aload X22.here hx rfl (hb hby at_127) rfl rfl k) ?_
          show Go p e below _ (T22.setTop (mkF m 129 #[.val (.int ia), .val (.int il), .val (.int ic), .val (.int ix), .val (.int iq), .val (.int ip), .val (.int j_oa), .val (.int j_ol), .val (.int j_oc), .val (.ref b1), .val (.ref b12), .val (.int j_ex), .val (.int (own_same ia il ic j_oa j_ol j_oc)), .unset, .unset] [(.ref b12)]))
          refine Go.by (fun t k => XS.aload X22.here hx rfl (hb hby at_129) rfl rfl k) ?_
          show Go p e below _ (T22.setTop (mkF m 131 #[.val (.int ia), .val (.int il), .val (.int ic), .val (.int ix), .val (.int iq), .val (.int ip), .val (.int j_oa), .val (.int j_ol), .val (.int j_oc), .val (.ref b1), .val (.ref b12), .val (.int j_ex), .val (.int (own_same ia il ic j_oa j_ol j_oc)), .unset, .unset] [(.ref b1), (.ref b12)]))
          obtain ⟨cq29, kq29, q29a, q29b, q29c⟩ := isOf hZ e22 F19_0
          obtain ⟨_, _, ⟨T29, L29, k29, n29⟩, -, X29, ⟨Lc29, hQ29, l29, y29, z29⟩, st29⟩ := X22.virtualBack hx (y := (⟨"com/example/queue_manager_rpc/queuemanagerrpc/rpc/SecurityTrailer", "sameContext", "(Lcom/example/queue_manager_rpc/queuemanagerrpc/rpc/SecurityTrailer;)Z"⟩ : MethodName)) (z := (⟨"com/example/queue_manager_rpc/queuemanagerrpc/rpc/SecurityTrailer", "sameContext", "(Lcom/example/queue_manager_rpc/queuemanagerrpc/rpc/SecurityTrailer;)Z"⟩ : MethodName)) hown (mvT hZ (hw _ (List.mem_of_getElem? (i := 19) rfl))) (mvT hZ (hw _ (List.mem_of_getElem? (i := 20) rfl))) (notFace_of_selects (args := #[]) (mvT hZ (hw _ (List.mem_of_getElem? (i := 22) rfl)))) (mvT hZ (hw _ (List.mem_of_getElem? (i := 22) rfl))) (mvT hZ (hw _ (List.mem_of_getElem? (i := 21) rfl))) (by decide) (backOf (W := 0) (sameContext l Z a0 hw [] b12 b1 j_oa j_ol j_oc ia il ic T19.heap n0 F23 F19_1 F19_2 F19_3 F24 F25 F26) hZ (hw _ (List.mem_of_getElem? (i := 23) rfl)) (hw _ (List.mem_of_getElem? (i := 2) rfl)) (by decide) (by decide)) q29a q29c (g := (mkF m 131 #[.val (.int ia), .val (.int il), .val (.int ic), .val (.int ix), .val (.int iq), .val (.int ip), .val (.int j_oa), .val (.int j_ol), .val (.int j_oc), .val (.ref b1), .val (.ref b12), .val (.int j_ex), .val (.int (own_same ia il ic j_oa j_ol j_oc)), .unset, .unset] [(.ref b1), (.ref b12)])) rfl (by rw [hml]; rfl) (Steps.refl _) (argsL := [(.ref b1)]) (rest := []) (lenOf pd_1 rfl) rfl (by show 2 * 0 + _ ≤ _; exact Nat.le_of_eq rfl) (hb hby at_131) (fun _ _ => ⟨rfl, e22, (by decide : 2 + 0 ≤ _), (by decide : 10 + 0 ≤ _)⟩)
          dsimp only [Pt.U, Pt.locs, Pt.cells, Pt.slots] at X29 l29 y29 z29 st29 hQ29
          subst l29 y29 z29
          obtain ⟨rfl, N29q, e29⟩ := hQ29
          have N29 := Fr.app N22 N29q
          refine Go.tr st29 ?_
          show Go p e below _ (T29.setTop (mkF m 134 #[.val (.int ia), .val (.int il), .val (.int ic), .val (.int ix), .val (.int iq), .val (.int ip), .val (.int j_oa), .val (.int j_ol), .val (.int j_oc), .val (.ref b1), .val (.ref b12), .val (.int j_ex), .val (.int (own_same ia il ic j_oa j_ol j_oc)), .unset, .unset] [(.int (own_same j_oa j_ol j_oc ia il ic))]))
          refine Go.by (fun t k => XS.istore X29.here hx rfl (hb hby at_134) rfl (l' := #[.val (.int ia), .val (.int il), .val (.int ic), .val (.int ix), .val (.int iq), .val (.int ip), .val (.int j_oa), .val (.int j_ol), .val (.int j_oc), .val (.ref b1), .val (.ref b12), .val (.int j_ex), .val (.int (own_same ia il ic j_oa j_ol j_oc)), .val (.int (own_same j_oa j_ol j_oc ia il ic)), .unset]) rfl k) ?_
          show Go p e below _ (T29.setTop (mkF m 136 #[.val (.int ia), .val (.int il), .val (.int ic), .val (.int ix), .val (.int iq), .val (.int ip), .val (.int j_oa), .val (.int j_ol), .val (.int j_oc), .val (.ref b1), .val (.ref b12), .val (.int j_ex), .val (.int (own_same ia il ic j_oa j_ol j_oc)), .val (.int (own_same j_oa j_ol j_oc ia il ic)), .unset] []))
          refine Go.by (fun t k => XS.aload X29.here hx rfl (hb hby at_136) rfl rfl k) ?_
          show Go p e below _ (T29.setTop (mkF m 138 #[.val (.int ia), .val (.int il), .val (.int ic), .val (.int ix), .val (.int iq), .val (.int ip), .val (.int j_oa), .val (.int j_ol), .val (.int j_oc), .val (.ref b1), .val (.ref b12), .val (.int j_ex), .val (.int (own_same ia il ic j_oa j_ol j_oc)), .val (.int (own_same j_oa j_ol j_oc ia il ic)), .unset] [(.ref b1)]))
          refine Go.by (fun t k => XS.aload X29.here hx rfl (hb hby at_138) rfl rfl k) ?_
          show Go p e below _ (T29.setTop (mkF m 140 #[.val (.int ia), .val (.int il), .val (.int ic), .val (.int ix), .val (.int iq), .val (.int ip), .val (.int j_oa), .val (.int j_ol), .val (.int j_oc), .val (.ref b1), .val (.ref b12), .val (.int j_ex), .val (.int (own_same ia il ic j_oa j_ol j_oc)), .val (.int (own_same j_oa j_ol j_oc ia il ic)), .unset] [(.ref b1), (.ref b1)]))
          obtain ⟨cq30, kq30, q30a, q30b, q30c⟩ := isOf hZ e29 F28
          obtain ⟨_, _, ⟨T30, L30, k30, n30⟩, -, X30, ⟨Lc30, hQ30, l30, y30, z30⟩, st30⟩ := X29.virtualBack hx (y := (⟨"com/example/queue_manager_rpc/queuemanagerrpc/rpc/SecurityTrailer", "sameContext", "(Lcom/example/queue_manager_rpc/queuemanagerrpc/rpc/SecurityTrailer;)Z"⟩ : MethodName)) (z := (⟨"com/example/queue_manager_rpc/queuemanagerrpc/rpc/SecurityTrailer", "sameContext", "(Lcom/example/queue_manager_rpc/queuemanagerrpc/rpc/SecurityTrailer;)Z"⟩ : MethodName)) hown (mvT hZ (hw _ (List.mem_of_getElem? (i := 19) rfl))) (mvT hZ (hw _ (List.mem_of_getElem? (i := 20) rfl))) (notFace_of_selects (args := #[]) (mvT hZ (hw _ (List.mem_of_getElem? (i := 22) rfl)))) (mvT hZ (hw _ (List.mem_of_getElem? (i := 22) rfl))) (mvT hZ (hw _ (List.mem_of_getElem? (i := 21) rfl))) (by decide) (backOf (W := 0) (sameContext l Z a0 hw [] b1 b1 ia il ic ia il ic T19.heap n0 F23 F24 F25 F26 F24 F25 F26) hZ (hw _ (List.mem_of_getElem? (i := 23) rfl)) (hw _ (List.mem_of_getElem? (i := 2) rfl)) (by decide) (by decide)) q30a q30c (g := (mkF m 140 #[.val (.int ia), .val (.int il), .val (.int ic), .val (.int ix), .val (.int iq), .val (.int ip), .val (.int j_oa), .val (.int j_ol), .val (.int j_oc), .val (.ref b1), .val (.ref b12), .val (.int j_ex), .val (.int (own_same ia il ic j_oa j_ol j_oc)), .val (.int (own_same j_oa j_ol j_oc ia il ic)), .unset] [(.ref b1), (.ref b1)])) rfl (by rw [hml]; rfl) (Steps.refl _) (argsL := [(.ref b1)]) (rest := []) (lenOf pd_1 rfl) rfl (by show 2 * 0 + _ ≤ _; exact Nat.le_of_eq rfl) (hb hby at_140) (fun _ _ => ⟨rfl, e29, (by decide : 2 + 0 ≤ _), (by decide : 10 + 0 ≤ _)⟩)
          dsimp only [Pt.U, Pt.locs, Pt.cells, Pt.slots] at X30 l30 y30 z30 st30 hQ30
          subst l30 y30 z30
          obtain ⟨rfl, N30q, e30⟩ := hQ30
          have N30 := Fr.app N29 N30q
          refine Go.tr st30 ?_
          show Go p e below _ (T30.setTop (mkF m 143 #[.val (.int ia), .val (.int il), .val (.int ic), .val (.int ix), .val (.int iq), .val (.int ip), .val (.int j_oa), .val (.int j_ol), .val (.int j_oc), .val (.ref b1), .val (.ref b12), .val (.int j_ex), .val (.int (own_same ia il ic j_oa j_ol j_oc)), .val (.int (own_same j_oa j_ol j_oc ia il ic)), .unset] [(.int (own_same ia il ic ia il ic))]))
          refine Go.by (fun t k => XS.istore X30.here hx rfl (hb hby at_143) rfl (l' := #[.val (.int ia), .val (.int il), .val (.int ic), .val (.int ix), .val (.int iq), .val (.int ip), .val (.int j_oa), .val (.int j_ol), .val (.int j_oc), .val (.ref b1), .val (.ref b12), .val (.int j_ex), .val (.int (own_same ia il ic j_oa j_ol j_oc)), .val (.int (own_same j_oa j_ol j_oc ia il ic)), .val (.int (own_same ia il ic ia il ic))]) rfl k) ?_
          show Go p e below _ (T30.setTop (mkF m 145 #[.val (.int ia), .val (.int il), .val (.int ic), .val (.int ix), .val (.int iq), .val (.int ip), .val (.int j_oa), .val (.int j_ol), .val (.int j_oc), .val (.ref b1), .val (.ref b12), .val (.int j_ex), .val (.int (own_same ia il ic j_oa j_ol j_oc)), .val (.int (own_same j_oa j_ol j_oc ia il ic)), .val (.int (own_same ia il ic ia il ic))] []))
          refine Go.by (fun t k => XS.iload X30.here hx rfl (hb hby at_145) rfl k) ?_
          show Go p e below _ (T30.setTop (mkF m 147 #[.val (.int ia), .val (.int il), .val (.int ic), .val (.int ix), .val (.int iq), .val (.int ip), .val (.int j_oa), .val (.int j_ol), .val (.int j_oc), .val (.ref b1), .val (.ref b12), .val (.int j_ex), .val (.int (own_same ia il ic j_oa j_ol j_oc)), .val (.int (own_same j_oa j_ol j_oc ia il ic)), .val (.int (own_same ia il ic ia il ic))] [(.int (own_same ia il ic j_oa j_ol j_oc))]))
          refine Go.by (fun t k => XS.iload X30.here hx rfl (hb hby at_147) rfl k) ?_
          show Go p e below _ (T30.setTop (mkF m 149 #[.val (.int ia), .val (.int il), .val (.int ic), .val (.int ix), .val (.int iq), .val (.int ip), .val (.int j_oa), .val (.int j_ol), .val (.int j_oc), .val (.ref b1), .val (.ref b12), .val (.int j_ex), .val (.int (own_same ia il ic j_oa j_ol j_oc)), .val (.int (own_same j_oa j_ol j_oc ia il ic)), .val (.int (own_same ia il ic ia il ic))] [(.int j_ex), (.int (own_same ia il ic j_oa j_ol j_oc))]))
          refine Go.by (fun t k => XS.icmpNo X30.here hx rfl (hb hby at_149) rfl (teq hex.symm).2 k) ?_
          show Go p e below _ (T30.setTop (mkF m 152 #[.val (.int ia), .val (.int il), .val (.int ic), .val (.int ix), .val (.int iq), .val (.int ip), .val (.int j_oa), .val (.int j_ol), .val (.int j_oc), .val (.ref b1), .val (.ref b12), .val (.int j_ex), .val (.int (own_same ia il ic j_oa j_ol j_oc)), .val (.int (own_same j_oa j_ol j_oc ia il ic)), .val (.int (own_same ia il ic ia il ic))] []))
          refine Go.by (fun t k => XS.iload X30.here hx rfl (hb hby at_152) rfl k) ?_
          show Go p e below _ (T30.setTop (mkF m 154 #[.val (.int ia), .val (.int il), .val (.int ic), .val (.int ix), .val (.int iq), .val (.int ip), .val (.int j_oa), .val (.int j_ol), .val (.int j_oc), .val (.ref b1), .val (.ref b12), .val (.int j_ex), .val (.int (own_same ia il ic j_oa j_ol j_oc)), .val (.int (own_same j_oa j_ol j_oc ia il ic)), .val (.int (own_same ia il ic ia il ic))] [(.int (own_same j_oa j_ol j_oc ia il ic))]))
          refine Go.by (fun t k => XS.iload X30.here hx rfl (hb hby at_154) rfl k) ?_
          show Go p e below _ (T30.setTop (mkF m 156 #[.val (.int ia), .val (.int il), .val (.int ic), .val (.int ix), .val (.int iq), .val (.int ip), .val (.int j_oa), .val (.int j_ol), .val (.int j_oc), .val (.ref b1), .val (.ref b12), .val (.int j_ex), .val (.int (own_same ia il ic j_oa j_ol j_oc)), .val (.int (own_same j_oa j_ol j_oc ia il ic)), .val (.int (own_same ia il ic ia il ic))] [(.int j_ex), (.int (own_same j_oa j_ol j_oc ia il ic))]))
          refine Go.by (fun t k => XS.icmpNo X30.here hx rfl (hb hby at_156) rfl (teq ((own_same_comm _ _ _ _ _ _).trans hex.symm)).2 k) ?_
          show Go p e below _ (T30.setTop (mkF m 159 #[.val (.int ia), .val (.int il), .val (.int ic), .val (.int ix), .val (.int iq), .val (.int ip), .val (.int j_oa), .val (.int j_ol), .val (.int j_oc), .val (.ref b1), .val (.ref b12), .val (.int j_ex), .val (.int (own_same ia il ic j_oa j_ol j_oc)), .val (.int (own_same j_oa j_ol j_oc ia il ic)), .val (.int (own_same ia il ic ia il ic))] []))
          refine Go.by (fun t k => XS.iload X30.here hx rfl (hb hby at_159) rfl k) ?_
          show Go p e below _ (T30.setTop (mkF m 161 #[.val (.int ia), .val (.int il), .val (.int ic), .val (.int ix), .val (.int iq), .val (.int ip), .val (.int j_oa), .val (.int j_ol), .val (.int j_oc), .val (.ref b1), .val (.ref b12), .val (.int j_ex), .val (.int (own_same ia il ic j_oa j_ol j_oc)), .val (.int (own_same j_oa j_ol j_oc ia il ic)), .val (.int (own_same ia il ic ia il ic))] [(.int (own_same ia il ic ia il ic))]))
          refine Go.by (fun t k => XS.ifNo X30.here hx rfl (hb hby at_161) rfl ((if0 _ _).trans (feq (own_same_self _ _ _)).1) k) ?_
          show Go p e below _ (T30.setTop (mkF m 164 #[.val (.int ia), .val (.int il), .val (.int ic), .val (.int ix), .val (.int iq), .val (.int ip), .val (.int j_oa), .val (.int j_ol), .val (.int j_oc), .val (.ref b1), .val (.ref b12), .val (.int j_ex), .val (.int (own_same ia il ic j_oa j_ol j_oc)), .val (.int (own_same j_oa j_ol j_oc ia il ic)), .val (.int (own_same ia il ic ia il ic))] []))
          refine Go.by (fun t k => XS.iconst X30.here hx rfl (hb hby at_164) k) ?_
          show Go p e below _ (T30.setTop (mkF m 165 #[.val (.int ia), .val (.int il), .val (.int ic), .val (.int ix), .val (.int iq), .val (.int ip), .val (.int j_oa), .val (.int j_ol), .val (.int j_oc), .val (.ref b1), .val (.ref b12), .val (.int j_ex), .val (.int (own_same ia il ic j_oa j_ol j_oc)), .val (.int (own_same j_oa j_ol j_oc ia il ic)), .val (.int (own_same ia il ic ia il ic))] [(.int (1 : Int32))]))
          refine Go.by (fun t k => XS.goto X30.here hx rfl (pc0 := 165) (pc' := 169) rfl (hb hby at_165) (by decide) (by decide) k) ?_
          show Go p e below _ (T30.setTop (mkF m 169 #[.val (.int ia), .val (.int il), .val (.int ic), .val (.int ix), .val (.int iq), .val (.int ip), .val (.int j_oa), .val (.int j_ol), .val (.int j_oc), .val (.ref b1), .val (.ref b12), .val (.int j_ex), .val (.int (own_same ia il ic j_oa j_ol j_oc)), .val (.int (own_same j_oa j_ol j_oc ia il ic)), .val (.int (own_same ia il ic ia il ic))] [(.int (1 : Int32))]))
          have hq : Q_law Z ia il ic ix iq ip h0 n0 (some (.int (nar .boolean (1 : Int32)))) T19.heap _ := ⟨rfl, N30, F27⟩
          exact Go.retN X30 hx (t := .boolean) Bd.returns (by simp) hlk (hb hby at_169) (by decide) (by decide) (by rw [e30]; exact hq)
        by_cases hc31 : j_oa = ia
        · skip
          refine Go.by (fun t k => XS.icmpNo X19.here hx rfl (hb hby at_96) rfl (teq hc31).2 k) ?_
          show Go p e below _ (T19.setTop (mkF m 99 #[.val (.int ia), .val (.int il), .val (.int ic), .val (.int ix), .val (.int iq), .val (.int ip), .val (.int j_oa), .val (.int j_ol), .val (.int j_oc), .val (.ref b1), .val (.ref b12), .unset, .unset, .unset, .unset] []))
          refine Go.by (fun t k => XS.iload X19.here hx rfl (hb hby at_99) rfl k) ?_
          show Go p e below _ (T19.setTop (mkF m 101 #[.val (.int ia), .val (.int il), .val (.int ic), .val (.int ix), .val (.int iq), .val (.int ip), .val (.int j_oa), .val (.int j_ol), .val (.int j_oc), .val (.ref b1), .val (.ref b12), .unset, .unset, .unset, .unset] [(.int j_ol)]))
          refine Go.by (fun t k => XS.iloadN X19.here hx rfl (hb hby at_101) rfl k) ?_
          show Go p e below _ (T19.setTop (mkF m 102 #[.val (.int ia), .val (.int il), .val (.int ic), .val (.int ix), .val (.int iq), .val (.int ip), .val (.int j_oa), .val (.int j_ol), .val (.int j_oc), .val (.ref b1), .val (.ref b12), .unset, .unset, .unset, .unset] [(.int il), (.int j_ol)]))
          by_cases hc32 : j_ol = il
          · skip
            refine Go.by (fun t k => XS.icmpNo X19.here hx rfl (hb hby at_102) rfl (teq hc32).2 k) ?_
            show Go p e below _ (T19.setTop (mkF m 105 #[.val (.int ia), .val (.int il), .val (.int ic), .val (.int ix), .val (.int iq), .val (.int ip), .val (.int j_oa), .val (.int j_ol), .val (.int j_oc), .val (.ref b1), .val (.ref b12), .unset, .unset, .unset, .unset] []))
            refine Go.by (fun t k => XS.iload X19.here hx rfl (hb hby at_105) rfl k) ?_
            show Go p e below _ (T19.setTop (mkF m 107 #[.val (.int ia), .val (.int il), .val (.int ic), .val (.int ix), .val (.int iq), .val (.int ip), .val (.int j_oa), .val (.int j_ol), .val (.int j_oc), .val (.ref b1), .val (.ref b12), .unset, .unset, .unset, .unset] [(.int j_oc)]))
            refine Go.by (fun t k => XS.iloadN X19.here hx rfl (hb hby at_107) rfl k) ?_
            show Go p e below _ (T19.setTop (mkF m 108 #[.val (.int ia), .val (.int il), .val (.int ic), .val (.int ix), .val (.int iq), .val (.int ip), .val (.int j_oa), .val (.int j_ol), .val (.int j_oc), .val (.ref b1), .val (.ref b12), .unset, .unset, .unset, .unset] [(.int ic), (.int j_oc)]))
            by_cases hc33 : j_oc = ic
            · skip
              refine Go.by (fun t k => XS.icmpNo X19.here hx rfl (hb hby at_108) rfl (teq hc33).2 k) ?_
              show Go p e below _ (T19.setTop (mkF m 111 #[.val (.int ia), .val (.int il), .val (.int ic), .val (.int ix), .val (.int iq), .val (.int ip), .val (.int j_oa), .val (.int j_ol), .val (.int j_oc), .val (.ref b1), .val (.ref b12), .unset, .unset, .unset, .unset] []))
              refine Go.by (fun t k => XS.iconst X19.here hx rfl (hb hby at_111) k) ?_
              show Go p e below _ (T19.setTop (mkF m 112 #[.val (.int ia), .val (.int il), .val (.int ic), .val (.int ix), .val (.int iq), .val (.int ip), .val (.int j_oa), .val (.int j_ol), .val (.int j_oc), .val (.ref b1), .val (.ref b12), .unset, .unset, .unset, .unset] [(.int (1 : Int32))]))
              refine Go.by (fun t k => XS.goto X19.here hx rfl (pc0 := 112) (pc' := 116) rfl (hb hby at_112) (by decide) (by decide) k) ?_
              show Go p e below _ (T19.setTop (mkF m 116 #[.val (.int ia), .val (.int il), .val (.int ic), .val (.int ix), .val (.int iq), .val (.int ip), .val (.int j_oa), .val (.int j_ol), .val (.int j_oc), .val (.ref b1), .val (.ref b12), .unset, .unset, .unset, .unset] [(.int (1 : Int32))]))
              refine Go.by (fun t k => XS.istore X19.here hx rfl (hb hby at_116) rfl (l' := #[.val (.int ia), .val (.int il), .val (.int ic), .val (.int ix), .val (.int iq), .val (.int ip), .val (.int j_oa), .val (.int j_ol), .val (.int j_oc), .val (.ref b1), .val (.ref b12), .val (.int (1 : Int32)), .unset, .unset, .unset]) rfl k) ?_
              show Go p e below _ (T19.setTop (mkF m 118 #[.val (.int ia), .val (.int il), .val (.int ic), .val (.int ix), .val (.int iq), .val (.int ip), .val (.int j_oa), .val (.int j_ol), .val (.int j_oc), .val (.ref b1), .val (.ref b12), .val (.int (1 : Int32)), .unset, .unset, .unset] []))
              exact J118 _ (own_same1 hc31 hc32 hc33)
            · skip
              refine Go.by (fun t k => XS.icmpYes X19.here hx rfl (pc0 := 108) (pc' := 115) rfl (hb hby at_108) rfl (feq hc33).2 (by decide) (by decide) k) ?_
              show Go p e below _ (T19.setTop (mkF m 115 #[.val (.int ia), .val (.int il), .val (.int ic), .val (.int ix), .val (.int iq), .val (.int ip), .val (.int j_oa), .val (.int j_ol), .val (.int j_oc), .val (.ref b1), .val (.ref b12), .unset, .unset, .unset, .unset] []))
              refine Go.by (fun t k => XS.iconst X19.here hx rfl (hb hby at_115) k) ?_
              show Go p e below _ (T19.setTop (mkF m 116 #[.val (.int ia), .val (.int il), .val (.int ic), .val (.int ix), .val (.int iq), .val (.int ip), .val (.int j_oa), .val (.int j_ol), .val (.int j_oc), .val (.ref b1), .val (.ref b12), .unset, .unset, .unset, .unset] [(.int (0 : Int32))]))
              refine Go.by (fun t k => XS.istore X19.here hx rfl (hb hby at_116) rfl (l' := #[.val (.int ia), .val (.int il), .val (.int ic), .val (.int ix), .val (.int iq), .val (.int ip), .val (.int j_oa), .val (.int j_ol), .val (.int j_oc), .val (.ref b1), .val (.ref b12), .val (.int (0 : Int32)), .unset, .unset, .unset]) rfl k) ?_
              show Go p e below _ (T19.setTop (mkF m 118 #[.val (.int ia), .val (.int il), .val (.int ic), .val (.int ix), .val (.int iq), .val (.int ip), .val (.int j_oa), .val (.int j_ol), .val (.int j_oc), .val (.ref b1), .val (.ref b12), .val (.int (0 : Int32)), .unset, .unset, .unset] []))
              exact J118 _ (own_same0 (Or.inr (Or.inr hc33)))
          · skip
            refine Go.by (fun t k => XS.icmpYes X19.here hx rfl (pc0 := 102) (pc' := 115) rfl (hb hby at_102) rfl (feq hc32).2 (by decide) (by decide) k) ?_
            show Go p e below _ (T19.setTop (mkF m 115 #[.val (.int ia), .val (.int il), .val (.int ic), .val (.int ix), .val (.int iq), .val (.int ip), .val (.int j_oa), .val (.int j_ol), .val (.int j_oc), .val (.ref b1), .val (.ref b12), .unset, .unset, .unset, .unset] []))
            refine Go.by (fun t k => XS.iconst X19.here hx rfl (hb hby at_115) k) ?_
            show Go p e below _ (T19.setTop (mkF m 116 #[.val (.int ia), .val (.int il), .val (.int ic), .val (.int ix), .val (.int iq), .val (.int ip), .val (.int j_oa), .val (.int j_ol), .val (.int j_oc), .val (.ref b1), .val (.ref b12), .unset, .unset, .unset, .unset] [(.int (0 : Int32))]))
            refine Go.by (fun t k => XS.istore X19.here hx rfl (hb hby at_116) rfl (l' := #[.val (.int ia), .val (.int il), .val (.int ic), .val (.int ix), .val (.int iq), .val (.int ip), .val (.int j_oa), .val (.int j_ol), .val (.int j_oc), .val (.ref b1), .val (.ref b12), .val (.int (0 : Int32)), .unset, .unset, .unset]) rfl k) ?_
            show Go p e below _ (T19.setTop (mkF m 118 #[.val (.int ia), .val (.int il), .val (.int ic), .val (.int ix), .val (.int iq), .val (.int ip), .val (.int j_oa), .val (.int j_ol), .val (.int j_oc), .val (.ref b1), .val (.ref b12), .val (.int (0 : Int32)), .unset, .unset, .unset] []))
            exact J118 _ (own_same0 (Or.inr (Or.inl hc32)))
        · skip
          refine Go.by (fun t k => XS.icmpYes X19.here hx rfl (pc0 := 96) (pc' := 115) rfl (hb hby at_96) rfl (feq hc31).2 (by decide) (by decide) k) ?_
          show Go p e below _ (T19.setTop (mkF m 115 #[.val (.int ia), .val (.int il), .val (.int ic), .val (.int ix), .val (.int iq), .val (.int ip), .val (.int j_oa), .val (.int j_ol), .val (.int j_oc), .val (.ref b1), .val (.ref b12), .unset, .unset, .unset, .unset] []))
          refine Go.by (fun t k => XS.iconst X19.here hx rfl (hb hby at_115) k) ?_
          show Go p e below _ (T19.setTop (mkF m 116 #[.val (.int ia), .val (.int il), .val (.int ic), .val (.int ix), .val (.int iq), .val (.int ip), .val (.int j_oa), .val (.int j_ol), .val (.int j_oc), .val (.ref b1), .val (.ref b12), .unset, .unset, .unset, .unset] [(.int (0 : Int32))]))
          refine Go.by (fun t k => XS.istore X19.here hx rfl (hb hby at_116) rfl (l' := #[.val (.int ia), .val (.int il), .val (.int ic), .val (.int ix), .val (.int iq), .val (.int ip), .val (.int j_oa), .val (.int j_ol), .val (.int j_oc), .val (.ref b1), .val (.ref b12), .val (.int (0 : Int32)), .unset, .unset, .unset]) rfl k) ?_
          show Go p e below _ (T19.setTop (mkF m 118 #[.val (.int ia), .val (.int il), .val (.int ic), .val (.int ix), .val (.int iq), .val (.int ip), .val (.int j_oa), .val (.int j_ol), .val (.int j_oc), .val (.ref b1), .val (.ref b12), .val (.int (0 : Int32)), .unset, .unset, .unset] []))
          exact J118 _ (own_same0 (Or.inl hc31))
      by_cases hc34 : (iq &&& (4 : Int32)) = (0 : Int32)
      · skip
        refine Go.by (fun t k => XS.ifYes X0.here hx rfl (pc0 := 38) (pc' := 45) rfl (hb hby at_38) rfl ((if0 _ _).trans (teq hc34).1) (by decide) (by decide) k) ?_
        show Go p e below _ (s₁.setTop (mkF m 45 #[.val (.int ia), .val (.int il), .val (.int ic), .val (.int ix), .val (.int iq), .val (.int ip), .val (.int j_oa), .val (.int j_ol), .unset, .unset, .unset, .unset, .unset, .unset, .unset] []))
        refine Go.by (fun t k => XS.iloadN X0.here hx rfl (hb hby at_45) rfl k) ?_
        show Go p e below _ (s₁.setTop (mkF m 46 #[.val (.int ia), .val (.int il), .val (.int ic), .val (.int ix), .val (.int iq), .val (.int ip), .val (.int j_oa), .val (.int j_ol), .unset, .unset, .unset, .unset, .unset, .unset, .unset] [(.int ix)]))
        refine Go.by (fun t k => XS.iload X0.here hx rfl (hb hby at_46) rfl k) ?_
        show Go p e below _ (s₁.setTop (mkF m 48 #[.val (.int ia), .val (.int il), .val (.int ic), .val (.int ix), .val (.int iq), .val (.int ip), .val (.int j_oa), .val (.int j_ol), .unset, .unset, .unset, .unset, .unset, .unset, .unset] [(.int iq), (.int ix)]))
        refine Go.by (fun t k => XS.bipush X0.here hx rfl (hb hby at_48) k) ?_
        show Go p e below _ (s₁.setTop (mkF m 50 #[.val (.int ia), .val (.int il), .val (.int ic), .val (.int ix), .val (.int iq), .val (.int ip), .val (.int j_oa), .val (.int j_ol), .unset, .unset, .unset, .unset, .unset, .unset, .unset] [(.int (16 : Int32)), (.int iq), (.int ix)]))
        refine Go.by (fun t k => XS.ishr X0.here hx rfl (hb hby at_50) rfl k) ?_
        show Go p e below _ (s₁.setTop (mkF m 51 #[.val (.int ia), .val (.int il), .val (.int ic), .val (.int ix), .val (.int iq), .val (.int ip), .val (.int j_oa), .val (.int j_ol), .unset, .unset, .unset, .unset, .unset, .unset, .unset] [(.int (iq >>> ((16 : Int32) &&& 31))), (.int ix)]))
        refine Go.by (fun t k => XS.iadd X0.here hx rfl (hb hby at_51) rfl k) ?_
        show Go p e below _ (s₁.setTop (mkF m 52 #[.val (.int ia), .val (.int il), .val (.int ic), .val (.int ix), .val (.int iq), .val (.int ip), .val (.int j_oa), .val (.int j_ol), .unset, .unset, .unset, .unset, .unset, .unset, .unset] [(.int (ix + (iq >>> ((16 : Int32) &&& 31))))]))
        refine Go.by (fun t k => XS.istore X0.here hx rfl (hb hby at_52) rfl (l' := #[.val (.int ia), .val (.int il), .val (.int ic), .val (.int ix), .val (.int iq), .val (.int ip), .val (.int j_oa), .val (.int j_ol), .val (.int (ix + (iq >>> ((16 : Int32) &&& 31)))), .unset, .unset, .unset, .unset, .unset, .unset]) rfl k) ?_
        show Go p e below _ (s₁.setTop (mkF m 54 #[.val (.int ia), .val (.int il), .val (.int ic), .val (.int ix), .val (.int iq), .val (.int ip), .val (.int j_oa), .val (.int j_ol), .val (.int (ix + (iq >>> ((16 : Int32) &&& 31)))), .unset, .unset, .unset, .unset, .unset, .unset] []))
        exact J54 _
      · skip
        refine Go.by (fun t k => XS.ifNo X0.here hx rfl (hb hby at_38) rfl ((if0 _ _).trans (feq hc34).1) k) ?_
        show Go p e below _ (s₁.setTop (mkF m 41 #[.val (.int ia), .val (.int il), .val (.int ic), .val (.int ix), .val (.int iq), .val (.int ip), .val (.int j_oa), .val (.int j_ol), .unset, .unset, .unset, .unset, .unset, .unset, .unset] []))
        refine Go.by (fun t k => XS.iloadN X0.here hx rfl (hb hby at_41) rfl k) ?_
        show Go p e below _ (s₁.setTop (mkF m 42 #[.val (.int ia), .val (.int il), .val (.int ic), .val (.int ix), .val (.int iq), .val (.int ip), .val (.int j_oa), .val (.int j_ol), .unset, .unset, .unset, .unset, .unset, .unset, .unset] [(.int ic)]))
        refine Go.by (fun t k => XS.goto X0.here hx rfl (pc0 := 42) (pc' := 52) rfl (hb hby at_42) (by decide) (by decide) k) ?_
        show Go p e below _ (s₁.setTop (mkF m 52 #[.val (.int ia), .val (.int il), .val (.int ic), .val (.int ix), .val (.int iq), .val (.int ip), .val (.int j_oa), .val (.int j_ol), .unset, .unset, .unset, .unset, .unset, .unset, .unset] [(.int ic)]))
        refine Go.by (fun t k => XS.istore X0.here hx rfl (hb hby at_52) rfl (l' := #[.val (.int ia), .val (.int il), .val (.int ic), .val (.int ix), .val (.int iq), .val (.int ip), .val (.int j_oa), .val (.int j_ol), .val (.int ic), .unset, .unset, .unset, .unset, .unset, .unset]) rfl k) ?_
        show Go p e below _ (s₁.setTop (mkF m 54 #[.val (.int ia), .val (.int il), .val (.int ic), .val (.int ix), .val (.int iq), .val (.int ip), .val (.int j_oa), .val (.int j_ol), .val (.int ic), .unset, .unset, .unset, .unset, .unset, .unset] []))
        exact J54 _
    by_cases hc35 : (iq &&& (2 : Int32)) = (0 : Int32)
    · skip
      refine Go.by (fun t k => XS.ifYes X0.here hx rfl (pc0 := 18) (pc' := 25) rfl (hb hby at_18) rfl ((if0 _ _).trans (teq hc35).1) (by decide) (by decide) k) ?_
      show Go p e below _ (s₁.setTop (mkF m 25 #[.val (.int ia), .val (.int il), .val (.int ic), .val (.int ix), .val (.int iq), .val (.int ip), .val (.int j_oa), .unset, .unset, .unset, .unset, .unset, .unset, .unset, .unset] []))
      refine Go.by (fun t k => XS.iloadN X0.here hx rfl (hb hby at_25) rfl k) ?_
      show Go p e below _ (s₁.setTop (mkF m 26 #[.val (.int ia), .val (.int il), .val (.int ic), .val (.int ix), .val (.int iq), .val (.int ip), .val (.int j_oa), .unset, .unset, .unset, .unset, .unset, .unset, .unset, .unset] [(.int ix)]))
      refine Go.by (fun t k => XS.iload X0.here hx rfl (hb hby at_26) rfl k) ?_
      show Go p e below _ (s₁.setTop (mkF m 28 #[.val (.int ia), .val (.int il), .val (.int ic), .val (.int ix), .val (.int iq), .val (.int ip), .val (.int j_oa), .unset, .unset, .unset, .unset, .unset, .unset, .unset, .unset] [(.int iq), (.int ix)]))
      refine Go.by (fun t k => XS.bipush X0.here hx rfl (hb hby at_28) k) ?_
      show Go p e below _ (s₁.setTop (mkF m 30 #[.val (.int ia), .val (.int il), .val (.int ic), .val (.int ix), .val (.int iq), .val (.int ip), .val (.int j_oa), .unset, .unset, .unset, .unset, .unset, .unset, .unset, .unset] [(.int (8 : Int32)), (.int iq), (.int ix)]))
      refine Go.by (fun t k => XS.ishr X0.here hx rfl (hb hby at_30) rfl k) ?_
      show Go p e below _ (s₁.setTop (mkF m 31 #[.val (.int ia), .val (.int il), .val (.int ic), .val (.int ix), .val (.int iq), .val (.int ip), .val (.int j_oa), .unset, .unset, .unset, .unset, .unset, .unset, .unset, .unset] [(.int (iq >>> ((8 : Int32) &&& 31))), (.int ix)]))
      refine Go.by (fun t k => XS.ixor X0.here hx rfl (hb hby at_31) rfl k) ?_
      show Go p e below _ (s₁.setTop (mkF m 32 #[.val (.int ia), .val (.int il), .val (.int ic), .val (.int ix), .val (.int iq), .val (.int ip), .val (.int j_oa), .unset, .unset, .unset, .unset, .unset, .unset, .unset, .unset] [(.int (ix ^^^ (iq >>> ((8 : Int32) &&& 31))))]))
      refine Go.by (fun t k => XS.istore X0.here hx rfl (hb hby at_32) rfl (l' := #[.val (.int ia), .val (.int il), .val (.int ic), .val (.int ix), .val (.int iq), .val (.int ip), .val (.int j_oa), .val (.int (ix ^^^ (iq >>> ((8 : Int32) &&& 31)))), .unset, .unset, .unset, .unset, .unset, .unset, .unset]) rfl k) ?_
      show Go p e below _ (s₁.setTop (mkF m 34 #[.val (.int ia), .val (.int il), .val (.int ic), .val (.int ix), .val (.int iq), .val (.int ip), .val (.int j_oa), .val (.int (ix ^^^ (iq >>> ((8 : Int32) &&& 31)))), .unset, .unset, .unset, .unset, .unset, .unset, .unset] []))
      exact J34 _
    · skip
      refine Go.by (fun t k => XS.ifNo X0.here hx rfl (hb hby at_18) rfl ((if0 _ _).trans (feq hc35).1) k) ?_
      show Go p e below _ (s₁.setTop (mkF m 21 #[.val (.int ia), .val (.int il), .val (.int ic), .val (.int ix), .val (.int iq), .val (.int ip), .val (.int j_oa), .unset, .unset, .unset, .unset, .unset, .unset, .unset, .unset] []))
      refine Go.by (fun t k => XS.iloadN X0.here hx rfl (hb hby at_21) rfl k) ?_
      show Go p e below _ (s₁.setTop (mkF m 22 #[.val (.int ia), .val (.int il), .val (.int ic), .val (.int ix), .val (.int iq), .val (.int ip), .val (.int j_oa), .unset, .unset, .unset, .unset, .unset, .unset, .unset, .unset] [(.int il)]))
      refine Go.by (fun t k => XS.goto X0.here hx rfl (pc0 := 22) (pc' := 32) rfl (hb hby at_22) (by decide) (by decide) k) ?_
      show Go p e below _ (s₁.setTop (mkF m 32 #[.val (.int ia), .val (.int il), .val (.int ic), .val (.int ix), .val (.int iq), .val (.int ip), .val (.int j_oa), .unset, .unset, .unset, .unset, .unset, .unset, .unset, .unset] [(.int il)]))
      refine Go.by (fun t k => XS.istore X0.here hx rfl (hb hby at_32) rfl (l' := #[.val (.int ia), .val (.int il), .val (.int ic), .val (.int ix), .val (.int iq), .val (.int ip), .val (.int j_oa), .val (.int il), .unset, .unset, .unset, .unset, .unset, .unset, .unset]) rfl k) ?_
      show Go p e below _ (s₁.setTop (mkF m 34 #[.val (.int ia), .val (.int il), .val (.int ic), .val (.int ix), .val (.int iq), .val (.int ip), .val (.int j_oa), .val (.int il), .unset, .unset, .unset, .unset, .unset, .unset, .unset] []))
      exact J34 _
  by_cases hc36 : (iq &&& (1 : Int32)) = (0 : Int32)
  · skip
    refine Go.by (fun t k => XS.ifYes X0.here hx rfl (pc0 := 4) (pc' := 11) rfl (hb hby at_4) rfl ((if0 _ _).trans (teq hc36).1) (by decide) (by decide) k) ?_
    show Go p e below _ (s₁.setTop (mkF m 11 #[.val (.int ia), .val (.int il), .val (.int ic), .val (.int ix), .val (.int iq), .val (.int ip), .unset, .unset, .unset, .unset, .unset, .unset, .unset, .unset, .unset] []))
    refine Go.by (fun t k => XS.iloadN X0.here hx rfl (hb hby at_11) rfl k) ?_
    show Go p e below _ (s₁.setTop (mkF m 12 #[.val (.int ia), .val (.int il), .val (.int ic), .val (.int ix), .val (.int iq), .val (.int ip), .unset, .unset, .unset, .unset, .unset, .unset, .unset, .unset, .unset] [(.int ix)]))
    refine Go.by (fun t k => XS.istore X0.here hx rfl (hb hby at_12) rfl (l' := #[.val (.int ia), .val (.int il), .val (.int ic), .val (.int ix), .val (.int iq), .val (.int ip), .val (.int ix), .unset, .unset, .unset, .unset, .unset, .unset, .unset, .unset]) rfl k) ?_
    show Go p e below _ (s₁.setTop (mkF m 14 #[.val (.int ia), .val (.int il), .val (.int ic), .val (.int ix), .val (.int iq), .val (.int ip), .val (.int ix), .unset, .unset, .unset, .unset, .unset, .unset, .unset, .unset] []))
    exact J14 _
  · skip
    refine Go.by (fun t k => XS.ifNo X0.here hx rfl (hb hby at_4) rfl ((if0 _ _).trans (feq hc36).1) k) ?_
    show Go p e below _ (s₁.setTop (mkF m 7 #[.val (.int ia), .val (.int il), .val (.int ic), .val (.int ix), .val (.int iq), .val (.int ip), .unset, .unset, .unset, .unset, .unset, .unset, .unset, .unset, .unset] []))
    refine Go.by (fun t k => XS.iloadN X0.here hx rfl (hb hby at_7) rfl k) ?_
    show Go p e below _ (s₁.setTop (mkF m 8 #[.val (.int ia), .val (.int il), .val (.int ic), .val (.int ix), .val (.int iq), .val (.int ip), .unset, .unset, .unset, .unset, .unset, .unset, .unset, .unset, .unset] [(.int ia)]))
    refine Go.by (fun t k => XS.goto X0.here hx rfl (pc0 := 8) (pc' := 12) rfl (hb hby at_8) (by decide) (by decide) k) ?_
    show Go p e below _ (s₁.setTop (mkF m 12 #[.val (.int ia), .val (.int il), .val (.int ic), .val (.int ix), .val (.int iq), .val (.int ip), .unset, .unset, .unset, .unset, .unset, .unset, .unset, .unset, .unset] [(.int ia)]))
    refine Go.by (fun t k => XS.istore X0.here hx rfl (hb hby at_12) rfl (l' := #[.val (.int ia), .val (.int il), .val (.int ic), .val (.int ix), .val (.int iq), .val (.int ip), .val (.int ia), .unset, .unset, .unset, .unset, .unset, .unset, .unset, .unset]) rfl k) ?_
    show Go p e below _ (s₁.setTop (mkF m 14 #[.val (.int ia), .val (.int il), .val (.int ic), .val (.int ix), .val (.int iq), .val (.int ip), .val (.int ia), .unset, .unset, .unset, .unset, .unset, .unset, .unset, .unset] []))
    exact J14 _
set_option maxRecDepth 65536 in
set_option maxHeartbeats 40000000 in
theorem comes_1 {Post : Tables → Env → Array Value → State → Outcome → State → Prop} (hpost : ∀ tb e args s v u, (limb_1_1.after args s (.returned v) u = true ∧ limb_1_2.after args s (.returned v) u = true ∧ True) → FrameEnd s (.returned v) u (Jvm.fieldLocs frame_1_writes args s ++ Jvm.arrayLocs frame_1_arrays args s ++ Jvm.staticLocs frame_1_statics s) 16 128 → Post tb e args s (.returned v) u) :
    ArmFor flags0 classFile x code maxLocals ret World_1 tables_1 room_1 Calls_1 rest_1 Pre_1 Post := by
  intro l hfl _ _ p e ha hc hk s m args below hf hA hF happ hP
  obtain ⟨hcalls, hrest, hpre⟩ := hP
  obtain ⟨-, -, -, hnamed, -, -, -, hat⟩ := (Spec.applies_iff hf).mp happ
  obtain ⟨hg, hn⟩ := and_e (Cond.before_iff.mp (show (Jvm.Cond.and given_1 narrow_1).before args s = true from hpre))
  obtain ⟨hcnt, hr1⟩ := and_e hg
  obtain ⟨hv0, hr2⟩ := and_e hr1
  obtain ⟨hv1, hr3⟩ := and_e hr2
  obtain ⟨hv2, hr4⟩ := and_e hr3
  obtain ⟨hv3, hr5⟩ := and_e hr4
  obtain ⟨hv4, hv5⟩ := and_e hr5
  obtain ⟨w0, w1, w2, w3, w4, w5, rfl⟩ : ∃ w0 w1 w2 w3 w4 w5 : Value, args = #[w0, w1, w2, w3, w4, w5] := by
    have hs : args.size = 6 := by simpa [Cond.value, given_1] using hcnt
    obtain ⟨L⟩ := args
    match L, hs with
    | [w0, w1, w2, w3, w4, w5], _ => exact ⟨w0, w1, w2, w3, w4, w5, rfl⟩
  have hw := fun d (hd : d ∈ tables_1) => atoms_spec (ws := Jvm.Cond.code x code maxLocals ret :: tables_1) hat d (List.mem_cons_of_mem _ hd)
  have hfit : Fit s := fun {y c} hc i hi => by
    obtain ⟨ha, rfl⟩ := Array.getElem?_eq_some_iff.mp hc
    have q := List.all_eq_true.mp ((Array.all_eq_true_iff_forall_mem.mp hF) _ (Array.getElem_mem ha)) i (List.mem_range.mpr hi)
    simpa [Array.getElem?_eq_getElem hi] using q
  obtain ⟨i0, ei0⟩ := is_v hv0
  obtain rfl : w0 = (.int i0) := Option.some.inj ei0
  obtain ⟨i1, ei1⟩ := is_v hv1
  obtain rfl : w1 = (.int i1) := Option.some.inj ei1
  obtain ⟨i2, ei2⟩ := is_v hv2
  obtain rfl : w2 = (.int i2) := Option.some.inj ei2
  obtain ⟨i3, ei3⟩ := is_v hv3
  obtain rfl : w3 = (.int i3) := Option.some.inj ei3
  obtain ⟨i4, ei4⟩ := is_v hv4
  obtain rfl : w4 = (.int i4) := Option.some.inj ei4
  obtain ⟨i5, ei5⟩ := is_v hv5
  obtain rfl : w5 = (.int i5) := Option.some.inj ei5
  obtain ⟨n, o, h1, h2, h3, _, L, rfl, ⟨rfl, N, -⟩, hq⟩ := law l s _ hw tables_1 i0 i1 i2 i3 i4 i5  s.heap s.heap.size (Old.start s)  p e ha hc hk s m _ below hf ((Spec.applies_iff_loose hf).mp happ).1 ⟨rfl, State.Warmed39.refl s, rfl⟩ trivial
  refine ⟨n, _, h1, h2, h3, hpost _ _ _ _ _ _ ⟨Cond.after_iff.mpr rfl, Cond.after_iff.mpr (eq_i res_at (Term.int_eval (1)) rfl), trivial⟩ ⟨hq.1, hq.2.1, (hq.2.2.sift fun y hy => Or.inr (N y hy)).mono (by decide) (by decide)⟩⟩
theorem main_1_1 : Claimed_1_1 := comes_1 fun _ _ _ _ _ _ h hF => ⟨h.1, hF⟩
theorem main_1_2 : Claimed_1_2 := comes_1 fun _ _ _ _ _ _ h hF => ⟨h.2.1, hF⟩
end Jvm.Pilot.@@N@@
namespace Jvm.Pilot.@@N@@
open Jvm Jvm.ClassFile Sem Op Lib Jvm.Free Jvm.Stand Jvm.Pilot.@@N@@.Jvm.D
/-! MADE BY PROGRAM (witnessworld.py) out of the Statement's table words and the real class files: 9 classes; the members and pool entries that the words name. The judged class is class 1, her method 1. -/
namespace start1
open Jvm.ClassFile
def u (s : String) : CpInfo := .utf8 (stringToUtf16 s)
/-- a pool by its gaps: so many unusable entries, then the entry; so many at the end -/
def gap : Nat → List CpInfo → List CpInfo
  | 0, r => r
  | n + 1, r => .unusable :: gap n r
def poolList (es : List (Nat × CpInfo)) (last : Nat) : List CpInfo := es.foldr (fun e r => gap e.1 (e.2 :: r)) (gap last [])
def pool (es : List (Nat × CpInfo)) (last : Nat) : Array CpInfo := ⟨poolList es last⟩
def fileOf (pool : Array CpInfo) (this : Nat) (attrs : Array Attribute := #[]) (ms : Array MethodInfo := #[]) (fl : Nat := 33) (sup : Nat := 0) (ifs : Array Nat := #[]) (fds : Array FieldInfo := #[]) : ClassFile where
  minorVersion := 0
  majorVersion := 65
  constantPool := pool
  accessFlags := fl
  thisClass := this
  superClass := sup
  interfaces := ifs
  fields := fds
  methods := ms
  attributes := attrs
def plain (name : String) (sup : Option ClassId) : Class where
  name := name
  kind := .ordinary
  loader := none
  accessFlags := 33
  super := sup
  interfaces := #[]
  cf := none
  fields := #[]
  methods := #[]
  instanceTypes := #[]
  staticTypes := #[]
  resolved := #[]
  callSites := []
  init := .initialized
  statics := none
  mirror := none

def pool0 : Array CpInfo := pool [(5, u "<init>"), (0, u "()V"), (1, .class_ 10), (1, u "java/lang/Object")] 113

def k0c0 : Code := { maxStack := 0, maxLocals := 1, code := object_method_1_code, exceptionTable := #[], attributes := #[] }
def k0m0 : Method := { name := "<init>", desc := "()V", sig := { parameters := [], returnType := none }, accessFlags := 1, code := some k0c0 }
/-- java/lang/Object -/
def k0 : Class := { plain "java/lang/Object" none with
  accessFlags := 33
  interfaces := #[]
  cf := some (fileOf pool0 8 #[] #[{ accessFlags := 1, nameIndex := 5, descriptorIndex := 6, attributes := #[] }] 33 0 #[] #[])
  fields := #[]
  methods := #[k0m0]
  instanceTypes := #[]
  staticTypes := #[]
  resolved := Array.replicate 124 none
  statics := none }

def pool1 : Array CpInfo := pool [(2, .class_ 4), (1, u "java/lang/Object"), (0, u "<init>"), (0, u "()V"), (0, .class_ 8), (0, u "com/example/queue_manager_rpc/queuemanagerrpc/rpc/SecurityTrailer"), (0, .methodref 7 10), (0, .nameAndType 5 11), (0, u "(IIIII)V"), (0, .methodref 7 13), (0, .nameAndType 14 15), (0, u "sameContext"), (0, u "(Lcom/example/queue_manager_rpc/queuemanagerrpc/rpc/SecurityTrailer;)Z"), (0, .class_ 17), (0, u "com/example/queue_manager_rpc/queuemanagerrpc/rpc/SecurityTrailerSameContextPinLaw"), (2, u "law"), (0, u "(IIIIII)Z")] 3

def k1m0 : Method := { name := "<init>", desc := "()V", sig := { parameters := [], returnType := none }, accessFlags := 1, code := none }
def k1c1 : Code := { maxStack := 8, maxLocals := 15, code := code, exceptionTable := #[], attributes := #[] }
def k1m1 : Method := { name := "law", desc := "(IIIIII)Z", sig := { parameters := [.int, .int, .int, .int, .int, .int], returnType := some .boolean }, accessFlags := 9, code := some k1c1 }
/-- com/example/queue_manager_rpc/queuemanagerrpc/rpc/SecurityTrailerSameContextPinLaw -/
def k1 : Class := { plain "com/example/queue_manager_rpc/queuemanagerrpc/rpc/SecurityTrailerSameContextPinLaw" (some 0) with
  accessFlags := 49
  interfaces := #[]
  cf := some (fileOf pool1 16 #[] #[{ accessFlags := 1, nameIndex := 5, descriptorIndex := 6, attributes := #[] }, { accessFlags := 9, nameIndex := 20, descriptorIndex := 21, attributes := #[] }] 49 2 #[] #[])
  fields := #[]
  methods := #[k1m0, k1m1]
  instanceTypes := #[]
  staticTypes := #[]
  resolved := Array.replicate 25 none
  statics := none }

def pool2 : Array CpInfo := pool [(1, .methodref 2 3), (0, .class_ 4), (0, .nameAndType 5 6), (0, u "java/lang/Object"), (0, u "<init>"), (0, u "()V"), (0, .fieldref 8 9), (0, .class_ 10), (0, .nameAndType 11 12), (0, u "com/example/queue_manager_rpc/queuemanagerrpc/rpc/SecurityTrailer"), (0, u "authType"), (0, u "I"), (0, .fieldref 8 14), (0, .nameAndType 15 12), (0, u "level"), (0, .fieldref 8 17), (0, .nameAndType 18 12), (0, u "padLength"), (0, .fieldref 8 20), (0, .nameAndType 21 12), (0, u "contextId"), (0, .fieldref 8 23), (0, .nameAndType 24 12), (0, u "offset"), (8, u "(IIIII)V"), (44, u "LENGTH"), (2, u "WINNT"), (9, u "sameContext"), (0, u "(Lcom/example/queue_manager_rpc/queuemanagerrpc/rpc/SecurityTrailer;)Z")] 21

def k2c0 : Code := { maxStack := 2, maxLocals := 6, code := prog_69_method_1_code, exceptionTable := #[], attributes := #[] }
def k2m0 : Method := { name := "<init>", desc := "(IIIII)V", sig := { parameters := [.int, .int, .int, .int, .int], returnType := none }, accessFlags := 0, code := some k2c0 }
def k2c1 : Code := { maxStack := 2, maxLocals := 2, code := prog_69_method_8_code, exceptionTable := #[], attributes := #[] }
def k2m1 : Method := { name := "sameContext", desc := "(Lcom/example/queue_manager_rpc/queuemanagerrpc/rpc/SecurityTrailer;)Z", sig := { parameters := [(.object "com/example/queue_manager_rpc/queuemanagerrpc/rpc/SecurityTrailer")], returnType := some .boolean }, accessFlags := 0, code := some k2c1 }
/-- com/example/queue_manager_rpc/queuemanagerrpc/rpc/SecurityTrailer -/
def k2 : Class := { plain "com/example/queue_manager_rpc/queuemanagerrpc/rpc/SecurityTrailer" (some 0) with
  accessFlags := 48
  interfaces := #[]
  cf := some (fileOf pool2 8 #[] #[{ accessFlags := 0, nameIndex := 5, descriptorIndex := 33, attributes := #[] }, { accessFlags := 0, nameIndex := 91, descriptorIndex := 92, attributes := #[] }] 48 2 #[] #[{ accessFlags := 24, nameIndex := 78, descriptorIndex := 12, attributes := #[] }, { accessFlags := 24, nameIndex := 81, descriptorIndex := 12, attributes := #[] }, { accessFlags := 18, nameIndex := 11, descriptorIndex := 12, attributes := #[] }, { accessFlags := 18, nameIndex := 15, descriptorIndex := 12, attributes := #[] }, { accessFlags := 18, nameIndex := 18, descriptorIndex := 12, attributes := #[] }, { accessFlags := 18, nameIndex := 21, descriptorIndex := 12, attributes := #[] }, { accessFlags := 18, nameIndex := 24, descriptorIndex := 12, attributes := #[] }])
  fields := #[{ name := "LENGTH", type := .int, accessFlags := 24, slot := 0, constantValue := 0 }, { name := "WINNT", type := .int, accessFlags := 24, slot := 1, constantValue := 0 }, { name := "authType", type := .int, accessFlags := 18, slot := 0, constantValue := 0 }, { name := "level", type := .int, accessFlags := 18, slot := 1, constantValue := 0 }, { name := "padLength", type := .int, accessFlags := 18, slot := 2, constantValue := 0 }, { name := "contextId", type := .int, accessFlags := 18, slot := 3, constantValue := 0 }, { name := "offset", type := .int, accessFlags := 18, slot := 4, constantValue := 0 }]
  methods := #[k2m0, k2m1]
  instanceTypes := #[.int, .int, .int, .int, .int]
  staticTypes := #[.int, .int]
  resolved := Array.replicate 114 none
  statics := none }

def pool3 : Array CpInfo := pool [(1, u "java/lang/Cloneable"), (0, .class_ 1), (0, u "java/lang/Object"), (0, .class_ 3)] 3

/-- java/lang/Cloneable -/
def k3 : Class := { plain "java/lang/Cloneable" (some 0) with
  accessFlags := 1537
  interfaces := #[]
  cf := some (fileOf pool3 2 #[] #[] 1537 4 #[] #[])
  fields := #[]
  methods := #[]
  instanceTypes := #[]
  staticTypes := #[]
  resolved := Array.replicate 8 none
  statics := none }

def pool4 : Array CpInfo := pool [(1, u "java/io/Serializable"), (0, .class_ 1), (0, u "java/lang/Object"), (0, .class_ 3)] 3

/-- java/io/Serializable -/
def k4 : Class := { plain "java/io/Serializable" (some 0) with
  accessFlags := 1537
  interfaces := #[]
  cf := some (fileOf pool4 2 #[] #[] 1537 4 #[] #[])
  fields := #[]
  methods := #[]
  instanceTypes := #[]
  staticTypes := #[]
  resolved := Array.replicate 8 none
  statics := none }

/-- the primitive byte -/
def k5 : Class := { plain "byte" none with kind := .primitive 'B', accessFlags := 0x411 }
/-- [B -/
def k6 : Class := { plain "[B" (some 0) with kind := .array 5 .byte, interfaces := #[3, 4], accessFlags := 1041 }

/-- the primitive int -/
def k7 : Class := { plain "int" none with kind := .primitive 'I', accessFlags := 0x411 }
/-- [I -/
def k8 : Class := { plain "[I" (some 0) with kind := .array 7 .int, interfaces := #[3, 4], accessFlags := 1041 }

def heap : Heap := #[]
def classes : Array Class := #[k0, k1, k2, k3, k4, k5, k6, k7, k8]
def interned : List (Array UInt16 × Addr) := []
def slotsUsed : Nat := 0
def theMethod : MethodId := ⟨1, 1⟩
def args0 : Array Value := #[.int 5, .int 6, .int 7, .int 8, .int 9, .int 10]
def aboutOver (below : List Frame) : State where
  vm := { classes := classes, interned := interned.toArray }
  heap := heap
  slotsUsed := slotsUsed
  threads := #[{ frames := .invoking theMethod args0 :: below }]
def below0 : List Frame := [.native { method := ⟨0, 0⟩, args := #[] }]
def about1 : State := aboutOver below0
def p0 : Program := .bare "" "" ""
def e0 : Env := launch0.env 0 0 0
theorem w_frames : about1.frames = Frame.invoking theMethod args0 :: below0 := rfl
set_option maxRecDepth 65536 in
theorem w_args : argsFit about1.vm theMethod args0 = true := by decide +kernel
set_option maxRecDepth 65536 in
theorem w_heap : heapFits about1 = true := by decide +kernel
set_option maxRecDepth 65536 in
theorem w_runnable : about1.curStatus? = some .runnable := by decide +kernel
set_option maxRecDepth 65536 in
theorem w_alone : about1.alone = true := by decide +kernel
set_option maxRecDepth 65536 in
theorem w_named : about1.methodNamed? x = some theMethod := by decide +kernel
set_option maxRecDepth 65536 in
theorem w_hears : about1.hears theMethod below0 = true := by decide +kernel
set_option maxRecDepth 65536 in
theorem w_ripe : about1.ripe theMethod args0 below0 = true := by decide +kernel
theorem w_running : about1.status = .running := rfl
set_option maxRecDepth 65536 in
theorem w_room : about1.hasRoom e0.platform room_1 = true :=
  launch0.hasRoom_least _ room_1 (by decide +kernel) (by decide +kernel) (by decide +kernel) (by decide +kernel) (by decide +kernel) (by decide +kernel)
theorem allAtoms_all (ts : List Jvm.Cond) (a : Array Jvm.Value) (st : Jvm.State) : (allAtoms ts).before a st = ts.all (fun c => c.before a st) := by
  induction ts with
  | nil => rfl
  | cons c t ih =>
    show (Jvm.Cond.and c (allAtoms t)).before a st = _
    rw [Jvm.Cond.before_and, ih, List.all_cons]
def words1 : List Jvm.Cond := Jvm.Cond.code x code maxLocals ret :: tables_1
/-- a 'code' word, met by the world's own term for the bytes: nothing is compared byte by byte -/
theorem code_word {y : MethodName} {bytes : ByteArray} {mx : Nat} {rt : Option FieldType} {a : Array Value} {s : State} {m : MethodId} {meth : Method} {c : Code} (h1 : s.methodNamed? y = some m) (h2 : s.vm.method? m = some meth) (h3 : meth.code = some c) (h4 : c.code = bytes)
    (h5 : (c.maxLocals == mx && c.exceptionTable.isEmpty && decide (c.maxStack ≤ mostOperands) && decide (meth.sig.returnType = rt) && !meth.locks && decide (parseMethodDescriptor y.desc = some meth.sig)) = true) : (Jvm.Cond.code y bytes mx rt).before a s = true := by
  simp only [Bool.and_eq_true, beq_iff_eq, Bool.not_eq_true', decide_eq_true_eq] at h5
  obtain ⟨⟨⟨⟨⟨g1, g2⟩, g3⟩, g4⟩, g5⟩, g6⟩ := h5
  simp [Cond.before, Cond.holds, Cond.value, h1, h2, h3, h4, g1, g2, g3, g4, g5, g6]
def isCode : Jvm.Cond → Bool
  | .code _ _ _ _ => true
  | _ => false
theorem all_split {L : List Jvm.Cond} {P : Jvm.Cond → Bool} (h1 : L.all (fun c => isCode c || P c) = true) (h2 : ∀ c ∈ L.filter isCode, P c = true) : L.all P = true := by
  refine List.all_eq_true.mpr fun c hc => ?_
  have h := List.all_eq_true.mp h1 c hc
  rcases Bool.eq_false_or_eq_true (isCode c) with hi | hi
  · exact h2 c (List.mem_filter.mpr ⟨hc, hi⟩)
  · simpa [hi] using h
set_option maxRecDepth 65536 in
theorem w_c0 : (Jvm.Cond.code x code maxLocals ret).before args0 about1 = true := code_word (m := ⟨1, 1⟩) (meth := k1m1) (c := k1c1) (by decide +kernel) rfl rfl rfl (by decide +kernel)
set_option maxRecDepth 65536 in
theorem w_c1 : (Jvm.Cond.code ({ cls := "com/example/queue_manager_rpc/queuemanagerrpc/rpc/SecurityTrailer", name := "<init>", desc := "(IIIII)V" } : Jvm.MethodName) prog_69_method_1_code (6 : Nat) (Option.none : Option Jvm.ClassFile.FieldType)).before args0 about1 = true := code_word (m := ⟨2, 0⟩) (meth := k2m0) (c := k2c0) (by decide +kernel) rfl rfl rfl (by decide +kernel)
set_option maxRecDepth 65536 in
theorem w_c2 : (Jvm.Cond.code ({ cls := "java/lang/Object", name := "<init>", desc := "()V" } : Jvm.MethodName) object_method_1_code (1 : Nat) (Option.none : Option Jvm.ClassFile.FieldType)).before args0 about1 = true := code_word (m := ⟨0, 0⟩) (meth := k0m0) (c := k0c0) (by decide +kernel) rfl rfl rfl (by decide +kernel)
set_option maxRecDepth 65536 in
theorem w_c3 : (Jvm.Cond.code ({ cls := "com/example/queue_manager_rpc/queuemanagerrpc/rpc/SecurityTrailer", name := "sameContext", desc := "(Lcom/example/queue_manager_rpc/queuemanagerrpc/rpc/SecurityTrailer;)Z" } : Jvm.MethodName) prog_69_method_8_code (2 : Nat) (Option.some Jvm.ClassFile.FieldType.boolean)).before args0 about1 = true := code_word (m := ⟨2, 1⟩) (meth := k2m1) (c := k2c1) (by decide +kernel) rfl rfl rfl (by decide +kernel)
def codes1 : List Jvm.Cond := [Jvm.Cond.code x code maxLocals ret, Jvm.Cond.code ({ cls := "com/example/queue_manager_rpc/queuemanagerrpc/rpc/SecurityTrailer", name := "<init>", desc := "(IIIII)V" } : Jvm.MethodName) prog_69_method_1_code (6 : Nat) (Option.none : Option Jvm.ClassFile.FieldType), Jvm.Cond.code ({ cls := "java/lang/Object", name := "<init>", desc := "()V" } : Jvm.MethodName) object_method_1_code (1 : Nat) (Option.none : Option Jvm.ClassFile.FieldType), Jvm.Cond.code ({ cls := "com/example/queue_manager_rpc/queuemanagerrpc/rpc/SecurityTrailer", name := "sameContext", desc := "(Lcom/example/queue_manager_rpc/queuemanagerrpc/rpc/SecurityTrailer;)Z" } : Jvm.MethodName) prog_69_method_8_code (2 : Nat) (Option.some Jvm.ClassFile.FieldType.boolean)]
set_option maxRecDepth 65536 in
theorem codes_eq : words1.filter isCode = codes1 := rfl
theorem w_codes : ∀ c ∈ words1.filter isCode, c.before args0 about1 = true := by
  rw [codes_eq]
  intro c hc
  simp only [codes1, List.mem_cons, List.not_mem_nil, or_false] at hc
  rcases hc with rfl | rfl | rfl | rfl
  · exact w_c0
  · exact w_c1
  · exact w_c2
  · exact w_c3
set_option maxRecDepth 65536 in
theorem w_t1 : (words1.take 24).all (fun c => isCode c || c.before args0 about1) = true := by decide +kernel
set_option maxRecDepth 65536 in
theorem w_t2 : (words1.drop 24).all (fun c => isCode c || c.before args0 about1) = true := by decide +kernel
theorem w_tables : (allAtoms (Jvm.Cond.code x code maxLocals ret :: tables_1)).before args0 about1 = true := by
  rw [allAtoms_all]
  show words1.all (fun c => c.before args0 about1) = true
  refine all_split ?_ w_codes
  rw [← List.take_append_drop 24 words1, List.all_append, w_t1, w_t2]
  rfl
set_option maxRecDepth 65536 in
theorem w_case : (Jvm.Cond.and given_1 narrow_1).before args0 about1 = true := by decide +kernel
theorem w_applies : (headSpec (Jvm.Cond.code x code maxLocals ret :: tables_1) room_1).applies x e0.platform about1 = true :=
  (Spec.applies_iff w_frames).mpr ⟨w_running, w_runnable, w_alone, w_named, w_hears, w_ripe, w_room, w_tables⟩
theorem atStart : AtStart classFile x code maxLocals ret World_1 tables_1 room_1 Calls_1 rest_1 Pre_1 launch0 p0 e0 about1 theMethod args0 below0 :=
  ⟨lists_1, trivial, launch0.admits_env _ _ _, launch0.least_env, fairChoices_fair.cas, fairChoices_fair.clock, w_frames, w_args, w_heap, w_applies, trivial, trivial, w_case⟩
end start1
theorem witness_1 : WitnessClaimed_1 := ⟨start1.p0, start1.e0, start1.about1, start1.theMethod, start1.args0, start1.below0, start1.atStart⟩
end Jvm.Pilot.@@N@@
