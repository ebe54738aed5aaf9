import JvmDerived
import JvmDerived.Pilot.@@N@@Statement
import JvmDerived.Pilot.@@N@@Code
set_option linter.unusedVariables false
set_option linter.unusedSimpArgs false
namespace Jvm.RoadKit
open Sem ClassFile Op Lib Jvm.Stand Jvm.Free Jvm.LawKit
section New
variable {p : Program} {l : Launch} {e : Env} {R : Room} {s : State} {m : MethodId} {args : Array Value} {below : List Frame} {meth : Method} {c : Code} {T : State} {locs : List Loc} {cells slots : Nat}
theorem retI (X : Stand p l e R s m args below meth c T locs cells slots) (hx : p.tables.exec = Jvm.exec) {pc : Nat} {Ls : Array Slot} {z : Int32} {rest : List Value} (hret : meth.sig.returnType = some .int) (hd : decode c.code pc = .ok (.ireturn, 1)) {fs : List Frame}
    (hl : ∀ (f : JFrame) (acts : List Action), f.method = m → f.locked = none → f.entered = [] → (doReturn e (T.setTop f) acts (some (.int z))).1 = T.setFrames fs) : Steps p.tables e below (T.setTop (mkF m pc Ls (.int z :: rest))) (T.setFrames fs) := by
  have hm' : T.vm.method? m = some meth := X.method'
  have hn : narrow .int (.int z) = .int z := rfl
  show Steps p.tables e below (T.setTop { method := m, pc := pc, locals := Ls, stack := _ :: rest, locked := none }) _
  jvm_step X.here [X.here.top, hx, hd, hm', hret, hn]
  first | (intro acts; rw [hl _ acts rfl rfl rfl]) | rw [hl _ _ rfl rfl rfl]
  exact Steps.refl _
theorem own_retL (X : Stand p l e R s m args below meth c T locs cells slots) (hx : p.tables.exec = Jvm.exec) {pc : Nat} {Ls : Array Slot} {z : Int64} {rest : List Value} (hret : meth.sig.returnType = some .long) (hd : decode c.code pc = .ok (.lreturn, 1)) {fs : List Frame}
    (hl : ∀ (f : JFrame) (acts : List Action), f.method = m → f.locked = none → f.entered = [] → (doReturn e (T.setTop f) acts (some (.long z))).1 = T.setFrames fs) : Steps p.tables e below (T.setTop (mkF m pc Ls (.long z :: rest))) (T.setFrames fs) := by
  have hm' : T.vm.method? m = some meth := X.method'
  show Steps p.tables e below (T.setTop { method := m, pc := pc, locals := Ls, stack := _ :: rest, locked := none }) _
  jvm_step X.here [X.here.top, hx, hd, hm', hret, narrow]
  first | (intro acts; rw [hl _ acts rfl rfl rfl]) | rw [hl _ _ rfl rfl rfl]
  exact Steps.refl _
theorem own_retA (X : Stand p l e R s m args below meth c T locs cells slots) (hx : p.tables.exec = Jvm.exec) {pc : Nat} {Ls : Array Slot} {v : Value} {t : FieldType} {rest : List Value} (hret : meth.sig.returnType = some t) (ht : t.isReference = true) (hv : v.isRef = true) (hd : decode c.code pc = .ok (.areturn, 1)) {fs : List Frame}
    (hl : ∀ (f : JFrame) (acts : List Action), f.method = m → f.locked = none → f.entered = [] → (doReturn e (T.setTop f) acts (some v)).1 = T.setFrames fs) : Steps p.tables e below (T.setTop (mkF m pc Ls (v :: rest))) (T.setFrames fs) := by
  have hm' : T.vm.method? m = some meth := X.method'
  show Steps p.tables e below (T.setTop { method := m, pc := pc, locals := Ls, stack := v :: rest, locked := none }) _
  rcases ref_cases hv with rfl | ⟨a, rfl⟩
  all_goals
    jvm_step X.here [X.here.top, hx, hd, hm', hret, ht, Value.isRef]
    first | (intro acts; rw [hl _ acts rfl rfl rfl]) | rw [hl _ _ rfl rfl rfl]
    exact Steps.refl _
def Go (p : Program) (e : Env) (below : List Frame) (P : Outcome → State → Prop) (S : State) : Prop := ∃ s₂ o, Steps p.tables e below S s₂ ∧ s₂.status = .running ∧ Ended s₂ below o ∧ P o s₂
variable {P : Outcome → State → Prop}
theorem Go.by {A B : State} (st : ∀ t, Steps p.tables e below B t → Steps p.tables e below A t) (g : Go p e below P B) : Go p e below P A := by
  obtain ⟨u, o, h1, h2⟩ := g; exact ⟨u, o, st _ h1, h2⟩
theorem Go.tr {A B : State} (st : Steps p.tables e below A B) (g : Go p e below P B) : Go p e below P A := by
  obtain ⟨u, o, h1, h2⟩ := g; exact ⟨u, o, st.trans h1, h2⟩
theorem Go.start {f g : JFrame} (q : f = g) (h : Go p e below P (T.setTop g)) : ∃ s₂ o, Steps p.tables e below (T.setTop f) s₂ ∧ s₂.status = .running ∧ Ended s₂ below o ∧ P o s₂ := q ▸ h
variable {Q : Option Value → Heap → List Loc → Prop} {rc rs : Nat}
theorem Go.retI (X : Stand p l e R s m args below meth c T locs cells slots) (hx : p.tables.exec = Jvm.exec) {pc : Nat} {Ls : Array Slot} {z : Int32} {rest : List Value} (hret : meth.sig.returnType = some .int) (hlk : meth.locks = false) (hd : decode c.code pc = .ok (.ireturn, 1)) (hc : cells ≤ rc) (hs : slots ≤ rs) (hq : Q (some (.int z)) T.heap locs) :
    Go p e below (fun o U' => ∃ v L, o = .returned v ∧ Q v U'.heap L ∧ FrameEnd s o U' L rc rs) (T.setTop (mkF m pc Ls (.int z :: rest))) := by
  obtain ⟨fs, hr, hrun, hended, hW, hsame⟩ := X.leave (v := some (.int z)) (fun h => by rw [hret] at h; cases h) hlk
  exact ⟨_, _, RoadKit.retI X hx hret hd hr, hrun, hended, _, _, rfl, hq, ⟨_, rfl⟩, hW, hsame.mono hc hs⟩
theorem Go.retN (X : Stand p l e R s m args below meth c T locs cells slots) (hx : p.tables.exec = Jvm.exec) {pc : Nat} {Ls : Array Slot} {z : Int32} {t : FieldType} {rest : List Value} (hret : meth.sig.returnType = some t) (ht : t = .boolean ∨ t = .byte ∨ t = .char ∨ t = .short) (hlk : meth.locks = false) (hd : decode c.code pc = .ok (.ireturn, 1)) (hc : cells ≤ rc) (hs : slots ≤ rs) (hq : Q (some (.int (nar t z))) T.heap locs) :
    Go p e below (fun o U' => ∃ v L, o = .returned v ∧ Q v U'.heap L ∧ FrameEnd s o U' L rc rs) (T.setTop (mkF m pc Ls (.int z :: rest))) := by
  obtain ⟨fs, hr, hrun, hended, hW, hsame⟩ := X.leave (v := some (.int (nar t z))) (fun h => by rw [hret] at h; cases h) hlk
  exact ⟨_, _, RoadKit.retN X hx hret ht hd hr, hrun, hended, _, _, rfl, hq, ⟨_, rfl⟩, hW, hsame.mono hc hs⟩
theorem Go.retL (X : Stand p l e R s m args below meth c T locs cells slots) (hx : p.tables.exec = Jvm.exec) {pc : Nat} {Ls : Array Slot} {z : Int64} {rest : List Value} (hret : meth.sig.returnType = some .long) (hlk : meth.locks = false) (hd : decode c.code pc = .ok (.lreturn, 1)) (hc : cells ≤ rc) (hs : slots ≤ rs) (hq : Q (some (.long z)) T.heap locs) :
    Go p e below (fun o U' => ∃ v L, o = .returned v ∧ Q v U'.heap L ∧ FrameEnd s o U' L rc rs) (T.setTop (mkF m pc Ls (.long z :: rest))) := by
  obtain ⟨fs, hr, hrun, hended, hW, hsame⟩ := X.leave (v := some (.long z)) (fun h => by rw [hret] at h; cases h) hlk
  exact ⟨_, _, own_retL X hx hret hd hr, hrun, hended, _, _, rfl, hq, ⟨_, rfl⟩, hW, hsame.mono hc hs⟩
theorem Go.retA (X : Stand p l e R s m args below meth c T locs cells slots) (hx : p.tables.exec = Jvm.exec) {pc : Nat} {Ls : Array Slot} {v : Value} {t : FieldType} {rest : List Value} (hret : meth.sig.returnType = some t) (ht : t.isReference = true) (hv : v.isRef = true) (hlk : meth.locks = false) (hd : decode c.code pc = .ok (.areturn, 1)) (hc : cells ≤ rc) (hs : slots ≤ rs) (hq : Q (some v) T.heap locs) :
    Go p e below (fun o U' => ∃ v L, o = .returned v ∧ Q v U'.heap L ∧ FrameEnd s o U' L rc rs) (T.setTop (mkF m pc Ls (v :: rest))) := by
  obtain ⟨fs, hr, hrun, hended, hW, hsame⟩ := X.leave (v := some v) (fun h => by rw [hret] at h; cases h) hlk
  exact ⟨_, _, own_retA X hx hret ht hv hd hr, hrun, hended, _, _, rfl, hq, ⟨_, rfl⟩, hW, hsame.mono hc hs⟩
theorem Go.ret0 (X : Stand p l e R s m args below meth c T locs cells slots) (hx : p.tables.exec = Jvm.exec) {pc : Nat} {Ls : Array Slot} (hret : meth.sig.returnType = none) (hlk : meth.locks = false) (hd : decode c.code pc = .ok (.return_, 1)) (hc : cells ≤ rc) (hs : slots ≤ rs) (hq : Q none T.heap locs) :
    Go p e below (fun o U' => ∃ v L, o = .returned v ∧ Q v U'.heap L ∧ FrameEnd s o U' L rc rs) (T.setTop (mkF m pc Ls [])) := by
  obtain ⟨fs, hr, hrun, hended, hW, hsame⟩ := X.leave (v := none) (fun _ => rfl) hlk
  exact ⟨_, _, X.returnOut hx hret hd hr, hrun, hended, _, _, rfl, hq, ⟨_, rfl⟩, hW, hsame.mono hc hs⟩
section Wide
variable {vm₁ : Vm} {kS : Nat}
theorem Go.retIW (hS : s.Since vm₁ kS) (hn : kS ≤ T.heap.size) (X : Stand p l e R (s.setVm vm₁) m args below meth c T locs cells slots) (hx : p.tables.exec = Jvm.exec) {pc : Nat} {Ls : Array Slot} {z : Int32} {rest : List Value} (hret : meth.sig.returnType = some .int) (hlk : meth.locks = false) (hd : decode c.code pc = .ok (.ireturn, 1)) (hc : cells ≤ rc) (hs : slots ≤ rs) (hq : Q (some (.int z)) T.heap locs) :
    Go p e below (fun o U' => ∃ v L, o = .returned v ∧ Q v U'.heap L ∧ ReturnedEndW s o U' L rc rs) (T.setTop (mkF m pc Ls (.int z :: rest))) := by
  obtain ⟨fs, hr, hrun, hended, w1, w2, w3, w4⟩ := X.leaveW hS hn (v := some (.int z)) (fun h => by rw [hret] at h; cases h) hlk
  exact ⟨_, _, RoadKit.retI X hx hret hd hr, hrun, hended, _, _, rfl, hq, w1, w2, w3, w4.mono hc hs⟩
theorem Go.retNW (hS : s.Since vm₁ kS) (hn : kS ≤ T.heap.size) (X : Stand p l e R (s.setVm vm₁) m args below meth c T locs cells slots) (hx : p.tables.exec = Jvm.exec) {pc : Nat} {Ls : Array Slot} {z : Int32} {t : FieldType} {rest : List Value} (hret : meth.sig.returnType = some t) (ht : t = .boolean ∨ t = .byte ∨ t = .char ∨ t = .short) (hlk : meth.locks = false) (hd : decode c.code pc = .ok (.ireturn, 1)) (hc : cells ≤ rc) (hs : slots ≤ rs) (hq : Q (some (.int (nar t z))) T.heap locs) :
    Go p e below (fun o U' => ∃ v L, o = .returned v ∧ Q v U'.heap L ∧ ReturnedEndW s o U' L rc rs) (T.setTop (mkF m pc Ls (.int z :: rest))) := by
  obtain ⟨fs, hr, hrun, hended, w1, w2, w3, w4⟩ := X.leaveW hS hn (v := some (.int (nar t z))) (fun h => by rw [hret] at h; cases h) hlk
  exact ⟨_, _, RoadKit.retN X hx hret ht hd hr, hrun, hended, _, _, rfl, hq, w1, w2, w3, w4.mono hc hs⟩
theorem Go.retAW (hS : s.Since vm₁ kS) (hn : kS ≤ T.heap.size) (X : Stand p l e R (s.setVm vm₁) m args below meth c T locs cells slots) (hx : p.tables.exec = Jvm.exec) {pc : Nat} {Ls : Array Slot} {v : Value} {t : FieldType} {rest : List Value} (hret : meth.sig.returnType = some t) (ht : t.isReference = true) (hv : v.isRef = true) (hlk : meth.locks = false) (hd : decode c.code pc = .ok (.areturn, 1)) (hc : cells ≤ rc) (hs : slots ≤ rs) (hq : Q (some v) T.heap locs) :
    Go p e below (fun o U' => ∃ v L, o = .returned v ∧ Q v U'.heap L ∧ ReturnedEndW s o U' L rc rs) (T.setTop (mkF m pc Ls (v :: rest))) := by
  obtain ⟨fs, hr, hrun, hended, w1, w2, w3, w4⟩ := X.leaveW hS hn (v := some v) (fun h => by rw [hret] at h; cases h) hlk
  exact ⟨_, _, own_retA X hx hret ht hv hd hr, hrun, hended, _, _, rfl, hq, w1, w2, w3, w4.mono hc hs⟩
theorem Go.ret0W (hS : s.Since vm₁ kS) (hn : kS ≤ T.heap.size) (X : Stand p l e R (s.setVm vm₁) m args below meth c T locs cells slots) (hx : p.tables.exec = Jvm.exec) {pc : Nat} {Ls : Array Slot} (hret : meth.sig.returnType = none) (hlk : meth.locks = false) (hd : decode c.code pc = .ok (.return_, 1)) (hc : cells ≤ rc) (hs : slots ≤ rs) (hq : Q none T.heap locs) :
    Go p e below (fun o U' => ∃ v L, o = .returned v ∧ Q v U'.heap L ∧ ReturnedEndW s o U' L rc rs) (T.setTop (mkF m pc Ls [])) := by
  obtain ⟨fs, hr, hrun, hended, w1, w2, w3, w4⟩ := X.leaveW hS hn (v := none) (fun _ => rfl) hlk
  exact ⟨_, _, X.returnOut hx hret hd hr, hrun, hended, _, _, rfl, hq, w1, w2, w3, w4.mono hc hs⟩
end Wide
section Held
variable {vm₁ : Vm} {kS : Nat} {Z : State} {a0 : Array Value} {EL : List (String × Nat)} {h0 h h' : Heap} {vm0 : Vm}
theorem own_chE (A : CHr Z EL vm₁ h0 vm0 h) (E : Ext h h') : CHr Z EL vm₁ h0 vm0 h' := A.trans (CHr.ext E A.1)
theorem own_chW {a : Addr} {sl : Nat} {v : Value} (A : CHr Z EL vm₁ h0 vm0 h) (W : Wr h h' a sl v) (S : Safe Z EL vm0 h a) : CHr Z EL vm₁ h0 vm0 h' := A.trans (CHr.wr W S A.1)
theorem own_chK {ws : List Addr} (A : CHr Z EL vm₁ h0 vm0 h) (K : Keep h h' ws) (S : ∀ x ∈ ws, Safe Z EL vm0 h x) : CHr Z EL vm₁ h0 vm0 h' := A.trans (CHr.keep K S A.1)
theorem own_chEnd (X : Stand p l e R (s.setVm vm₁) m args below meth c T locs cells slots) (eT : T.heap = h) (hZ : Z.Warmed39 vm₁) (hEL : EW Z a0 EL) (A : CHr Z EL s.vm h0 vm₁ h) (hh : s.heap = h0) : CHr Z EL s.vm s.heap T.vm T.heap := by
  rw [eT, hh]; exact A.trans (CHv.at X hZ hEL A.1)
theorem Go.retNH (hS : s.Since vm₁ kS) (hn : kS ≤ T.heap.size) (hC : CHr Z EL s.vm s.heap T.vm T.heap) (X : Stand p l e R (s.setVm vm₁) m args below meth c T locs cells slots) (hx : p.tables.exec = Jvm.exec) {pc : Nat} {Ls : Array Slot} {z : Int32} {t : FieldType} {rest : List Value} (hret : meth.sig.returnType = some t) (ht : t = .boolean ∨ t = .byte ∨ t = .char ∨ t = .short) (hlk : meth.locks = false) (hd : decode c.code pc = .ok (.ireturn, 1)) (hc : cells ≤ rc) (hs : slots ≤ rs) (hq : Q (some (.int (nar t z))) T.heap locs) :
    Go p e below (fun o U' => ∃ v L, o = .returned v ∧ Q v U'.heap L ∧ CHr Z EL s.vm s.heap U'.vm U'.heap ∧ ReturnedEndW s o U' L rc rs) (T.setTop (mkF m pc Ls (.int z :: rest))) := by
  obtain ⟨fs, hr, hrun, hended, w1, w2, w3, w4⟩ := X.leaveW hS hn (v := some (.int (nar t z))) (fun h => by rw [hret] at h; cases h) hlk
  exact ⟨_, _, RoadKit.retN X hx hret ht hd hr, hrun, hended, _, _, rfl, hq, hC, w1, w2, w3, w4.mono hc hs⟩
theorem Go.retAH (hS : s.Since vm₁ kS) (hn : kS ≤ T.heap.size) (hC : CHr Z EL s.vm s.heap T.vm T.heap) (X : Stand p l e R (s.setVm vm₁) m args below meth c T locs cells slots) (hx : p.tables.exec = Jvm.exec) {pc : Nat} {Ls : Array Slot} {v : Value} {t : FieldType} {rest : List Value} (hret : meth.sig.returnType = some t) (ht : t.isReference = true) (hv : v.isRef = true) (hlk : meth.locks = false) (hd : decode c.code pc = .ok (.areturn, 1)) (hc : cells ≤ rc) (hs : slots ≤ rs) (hq : Q (some v) T.heap locs) :
    Go p e below (fun o U' => ∃ v L, o = .returned v ∧ Q v U'.heap L ∧ CHr Z EL s.vm s.heap U'.vm U'.heap ∧ ReturnedEndW s o U' L rc rs) (T.setTop (mkF m pc Ls (v :: rest))) := by
  obtain ⟨fs, hr, hrun, hended, w1, w2, w3, w4⟩ := X.leaveW hS hn (v := some v) (fun h => by rw [hret] at h; cases h) hlk
  exact ⟨_, _, own_retA X hx hret ht hv hd hr, hrun, hended, _, _, rfl, hq, hC, w1, w2, w3, w4.mono hc hs⟩
theorem Go.ret0H (hS : s.Since vm₁ kS) (hn : kS ≤ T.heap.size) (hC : CHr Z EL s.vm s.heap T.vm T.heap) (X : Stand p l e R (s.setVm vm₁) m args below meth c T locs cells slots) (hx : p.tables.exec = Jvm.exec) {pc : Nat} {Ls : Array Slot} (hret : meth.sig.returnType = none) (hlk : meth.locks = false) (hd : decode c.code pc = .ok (.return_, 1)) (hc : cells ≤ rc) (hs : slots ≤ rs) (hq : Q none T.heap locs) :
    Go p e below (fun o U' => ∃ v L, o = .returned v ∧ Q v U'.heap L ∧ CHr Z EL s.vm s.heap U'.vm U'.heap ∧ ReturnedEndW s o U' L rc rs) (T.setTop (mkF m pc Ls [])) := by
  obtain ⟨fs, hr, hrun, hended, w1, w2, w3, w4⟩ := X.leaveW hS hn (v := none) (fun _ => rfl) hlk
  exact ⟨_, _, X.returnOut hx hret hd hr, hrun, hended, _, _, rfl, hq, hC, w1, w2, w3, w4.mono hc hs⟩
end Held
theorem own_selP {Z : State} {a0 : Array Value} {y : MethodName} {n : Nat} (hZ : Z.Warmed39 s.vm) (wi : (Cond.instantiable y.cls n).before a0 Z = true) (wp : (Cond.privateMethod y).before a0 Z = true) (wm : (Cond.instanceMethod y).before a0 Z = true) (hy : y.cls ≠ "java/lang/invoke/MethodHandle" ∧ y.cls ≠ "java/lang/invoke/VarHandle") : (Cond.selects y.cls y y).before args s = true := by
  obtain ⟨c, k, h1, h2, h3, h4, -⟩ := Cond.instantiable_spec (show (Cond.instantiable y.cls n).before args s = true from mv hZ wi)
  refine selects_self_of_private h1 h2 ?_ (Cond.privateMethod_at (mvP (args := args) hZ wp)) (mvT hZ wm) hy
  simp only [Bool.or_eq_false_iff] at h4; exact h4.1
theorem own_NSroot {Z : State} {a0 : Array Value} {O K : String} {n : Nat} (w : (Cond.noSuperclass O).before a0 Z = true) (wk : (Cond.instantiable K n).before a0 Z = true) (hn : O ≠ K) : NS Z O K := by
  obtain ⟨c, k, h1, h2, h3, -, -⟩ := Cond.noSuperclass_spec w
  obtain ⟨t, -, g1, -⟩ := Cond.instantiable_spec wk
  have ne := ids_ne h1 g1 hn
  refine ⟨c, t, h1, g1, fun fuel => ?_⟩
  cases fuel with
  | zero => rfl
  | succ f => simp [Vm.isSubclassAux, ne, h2, h3]
theorem own_NSno {Z : State} {a0 : Array Value} {C S K : String} {n : Nat} (w : (Cond.superclass C S).before a0 Z = true) (wk : (Cond.instantiable K n).before a0 Z = true) (ns : NS Z C K) (hn : C ≠ K) : ∃ c t, Z.vm.findClass C = some c ∧ Z.vm.findClass K = some t ∧ Z.vm.assignable c t = false := by
  obtain ⟨c, t, h0, g0, n3⟩ := ns
  obtain ⟨p, k, kp, h1, h2, h3, h4, h5, -, h7⟩ := Cond.superclass_spec h0 w
  obtain ⟨t', kt, g1, g2, g3, g4, -⟩ := Cond.instantiable_spec wk
  cases g0.symm.trans g1
  simp only [Bool.or_eq_false_iff] at g4
  have ne := ids_ne h0 g0 hn
  refine ⟨c, t, h0, g0, ?_⟩
  show Z.vm.assignableAux (255 + 1) c t = false
  simp [Vm.assignableAux, ne, h2, g2, h5, g3, g4.1, Vm.isSubclass, n3]
theorem own_old_size {Z : State} {n0 : Nat} {h : Heap} (O : Old Z n0 h) : n0 ≤ h.size := by rw [← O.1]; exact O.2.1
theorem own_cat1 {v : Value} (h : v.isRef = true) : v.category = 1 := by rcases ref_cases h with rfl | ⟨_, rfl⟩ <;> rfl
end New
end Jvm.RoadKit
namespace Jvm.RoadKit
open Sem ClassFile Op Lib Jvm.Stand Jvm.Free Jvm.LawKit
def own_up {α : Type} (f : Nat → α) (j : Nat) (x : α) : Nat → α := fun i => if i = j then x else f i
def own_La (Z : State) (h : Heap) (a : Addr) (z : Int32) (f : Nat → Int64) : Prop := ∃ k vs, Arv Z h a k .long z vs (Value.long (0 : Int64)) ∧ vs.length = z.toNatClampNeg ∧ ∀ i, i < z.toNatClampNeg → vs.getD i (Value.long (0 : Int64)) = Value.long (f i)
theorem own_La.lt {Z : State} {h : Heap} {a : Addr} {z : Int32} {f : Nat → Int64} (F : own_La Z h a z f) : a < h.size := by obtain ⟨_, _, A, _⟩ := F; exact A.lt
theorem own_La.ext {Z : State} {h h' : Heap} {a : Addr} {z : Int32} {f : Nat → Int64} (F : own_La Z h a z f) (E : Ext h h') : own_La Z h' a z f := by obtain ⟨k, vs, A, q⟩ := F; exact ⟨k, vs, A.ext E, q⟩
theorem own_La.other {Z : State} {h h' : Heap} {a b : Addr} {z : Int32} {f : Nat → Int64} {sl : Nat} {v : Value} (F : own_La Z h a z f) (W : Wr h h' b sl v) (n : a ≠ b) : own_La Z h' a z f := by obtain ⟨k, vs, A, q⟩ := F; exact ⟨k, vs, A.other W n, q⟩
theorem own_La.keep {Z : State} {h h' : Heap} {a : Addr} {z : Int32} {f : Nat → Int64} {ws : List Addr} (F : own_La Z h a z f) (K : Keep h h' ws) (n : a ∉ ws) : own_La Z h' a z f := by obtain ⟨k, vs, A, q⟩ := F; exact ⟨k, vs, A.keep K n, q⟩
theorem own_La.new {Z : State} {h : Heap} {a : Addr} {z : Int32} {k : ClassId} (A : Arr Z h a (newA k .long z) .long) (q : ¬ z < 0) : own_La Z h a z (fun _ => (0 : Int64)) :=
  ⟨k, _, (Arv.new A q).pad (pad_rep [] (Value.long (0 : Int64)) z.toNatClampNeg), by simp, fun i hi => by rw [pad_rep]; rfl⟩
theorem own_La.set {Z : State} {h h' : Heap} {a : Addr} {z j : Int32} {f : Nat → Int64} {k : ClassId} {vs : List Value} {c : Cell} (A : Arr Z h a c .long) (q1 : c.cls = k) (S : c.slots.size = z.toNatClampNeg) (q3 : ¬ z < 0) (H : Has c vs (Value.long (0 : Int64))) (G : ∀ i, i < c.slots.size → fits .long (vs.getD i (Value.long (0 : Int64))) = true) (l : vs.length = z.toNatClampNeg) (hf : ∀ i, i < z.toNatClampNeg → vs.getD i (Value.long (0 : Int64)) = Value.long (f i))
    {x : Int64} (W : Wr h h' a j.toNatClampNeg (Value.long x)) (hj : j.toNatClampNeg < z.toNatClampNeg) : own_La Z h' a z (own_up f j.toNatClampNeg x) :=
  ⟨k, _, Arv.set A q1 S q3 H G rfl W j.toNatClampNeg rfl (by omega), by simp [l], fun i hi => by
    have e := hf i hi
    simp only [List.getD_eq_getElem?_getD] at e ⊢
    by_cases q : i = j.toNatClampNeg
    · subst q; simp [own_up, l, hi]
    · rw [List.getElem?_set_ne (fun r => q r.symm)]; simpa [own_up, q] using e⟩
def own_Ia (Z : State) (h : Heap) (a : Addr) (z : Int32) (f : Nat → Int32) : Prop := ∃ k vs, Arv Z h a k .int z vs (Value.int (0 : Int32)) ∧ vs.length = z.toNatClampNeg ∧ ∀ i, i < z.toNatClampNeg → vs.getD i (Value.int (0 : Int32)) = Value.int (f i)
theorem own_Ia.lt {Z : State} {h : Heap} {a : Addr} {z : Int32} {f : Nat → Int32} (F : own_Ia Z h a z f) : a < h.size := by obtain ⟨_, _, A, _⟩ := F; exact A.lt
theorem own_Ia.ext {Z : State} {h h' : Heap} {a : Addr} {z : Int32} {f : Nat → Int32} (F : own_Ia Z h a z f) (E : Ext h h') : own_Ia Z h' a z f := by obtain ⟨k, vs, A, q⟩ := F; exact ⟨k, vs, A.ext E, q⟩
theorem own_Ia.other {Z : State} {h h' : Heap} {a b : Addr} {z : Int32} {f : Nat → Int32} {sl : Nat} {v : Value} (F : own_Ia Z h a z f) (W : Wr h h' b sl v) (n : a ≠ b) : own_Ia Z h' a z f := by obtain ⟨k, vs, A, q⟩ := F; exact ⟨k, vs, A.other W n, q⟩
theorem own_Ia.keep {Z : State} {h h' : Heap} {a : Addr} {z : Int32} {f : Nat → Int32} {ws : List Addr} (F : own_Ia Z h a z f) (K : Keep h h' ws) (n : a ∉ ws) : own_Ia Z h' a z f := by obtain ⟨k, vs, A, q⟩ := F; exact ⟨k, vs, A.keep K n, q⟩
theorem own_Ia.new {Z : State} {h : Heap} {a : Addr} {z : Int32} {k : ClassId} (A : Arr Z h a (newA k .int z) .int) (q : ¬ z < 0) : own_Ia Z h a z (fun _ => (0 : Int32)) :=
  ⟨k, _, (Arv.new A q).pad (pad_rep [] (Value.int (0 : Int32)) z.toNatClampNeg), by simp, fun i hi => by rw [pad_rep]; rfl⟩
theorem own_Ia.set {Z : State} {h h' : Heap} {a : Addr} {z j : Int32} {f : Nat → Int32} {k : ClassId} {vs : List Value} {c : Cell} (A : Arr Z h a c .int) (q1 : c.cls = k) (S : c.slots.size = z.toNatClampNeg) (q3 : ¬ z < 0) (H : Has c vs (Value.int (0 : Int32))) (G : ∀ i, i < c.slots.size → fits .int (vs.getD i (Value.int (0 : Int32))) = true) (l : vs.length = z.toNatClampNeg) (hf : ∀ i, i < z.toNatClampNeg → vs.getD i (Value.int (0 : Int32)) = Value.int (f i))
    {x : Int32} (W : Wr h h' a j.toNatClampNeg (Value.int x)) (hj : j.toNatClampNeg < z.toNatClampNeg) : own_Ia Z h' a z (own_up f j.toNatClampNeg x) :=
  ⟨k, _, Arv.set A q1 S q3 H G rfl W j.toNatClampNeg rfl (by omega), by simp [l], fun i hi => by
    have e := hf i hi
    simp only [List.getD_eq_getElem?_getD] at e ⊢
    by_cases q : i = j.toNatClampNeg
    · subst q; simp [own_up, l, hi]
    · rw [List.getElem?_set_ne (fun r => q r.symm)]; simpa [own_up, q] using e⟩
end Jvm.RoadKit
namespace Jvm.Pilot.@@N@@
open Jvm Jvm.ClassFile Sem Op Lib Jvm.Free Jvm.Stand Jvm.LawKit Jvm.RoadKit Bundle Jvm.Pilot.@@N@@.Jvm.D
def own_w (s : Int32) : Int32 := (s.toUInt32 >>> ((6 : Int32) &&& 31).toUInt32).toInt32
def own_B (s : Int32) : Int64 := (1 : Int64) <<< (s &&& 0x3f).toInt64
def own_bc (x : Int64) : Int32 :=
  let a := x - ((x.toUInt64 >>> ((1 : Int32) &&& 0x3f).toInt64.toUInt64).toInt64 &&& (6148914691236517205 : Int64))
  let b := (a &&& (3689348814741910323 : Int64)) + ((a.toUInt64 >>> ((2 : Int32) &&& 0x3f).toInt64.toUInt64).toInt64 &&& (3689348814741910323 : Int64))
  let c := (b + (b.toUInt64 >>> ((4 : Int32) &&& 0x3f).toInt64.toUInt64).toInt64) &&& (1085102592571150095 : Int64)
  let d := c + (c.toUInt64 >>> ((8 : Int32) &&& 0x3f).toInt64.toUInt64).toInt64
  let e := d + (d.toUInt64 >>> ((16 : Int32) &&& 0x3f).toInt64.toUInt64).toInt64
  let f := e + (e.toUInt64 >>> ((32 : Int32) &&& 0x3f).toInt64.toUInt64).toInt64
  f.toInt32 &&& (127 : Int32)
def own_addL (f : Nat → Int64) (s : Int32) : Nat → Int64 := own_up f (own_w s).toNatClampNeg (f (own_w s).toNatClampNeg ||| own_B s)
def own_addI (f : Nat → Int64) (g : Nat → Int32) (s nu : Int32) : Nat → Int32 := if f (own_w s).toNatClampNeg = 0 then own_up g (own_w s).toNatClampNeg nu else g
def own_num (f : Nat → Int64) (g : Nat → Int32) (s : Int32) : Int32 := g (own_w s).toNatClampNeg + own_bc (f (own_w s).toNatClampNeg &&& (own_B s - (1 : Int64)))
def own_expB (sa sb sc w : Int32) : Int64 :=
  let e1 : Int64 := if own_w sa = w then (0 : Int64) ||| own_B sa else 0
  let e2 : Int64 := if own_w sb = w then e1 ||| own_B sb else e1
  if own_w sc = w then e2 ||| own_B sc else e2
def own_expF (sa sb sc na w : Int32) : Int32 := if own_w sa = w then na else if own_w sb = w then na + 1 else if own_w sc = w then na + 2 else 0
def own_hyp (s1 s2 s3 t : Int32) : Prop := (0 ≤ s1.toInt ∧ s1.toInt < s2.toInt ∧ s2.toInt < s3.toInt ∧ s3.toInt ≤ 255) ∧ 0 ≤ t.toInt ∧ t.toInt ≤ 255
theorem own_hyp_of (a b c d : Int32) : own_hyp (a &&& (127 : Int32)) (((a &&& (127 : Int32)) + (1 : Int32)) + (b &&& (63 : Int32))) (((((a &&& (127 : Int32)) + (1 : Int32)) + (b &&& (63 : Int32))) + (1 : Int32)) + (c &&& (63 : Int32))) (d &&& (255 : Int32)) := by
  have ea := c_mask a 127 7 (by decide) (by decide)
  have eb := c_mask b 63 6 (by decide) (by decide)
  have ec := c_mask c 63 6 (by decide) (by decide)
  have ed := c_mask d 255 8 (by decide) (by decide)
  generalize a &&& (127 : Int32) = x at *
  generalize b &&& (63 : Int32) = y at *
  generalize c &&& (63 : Int32) = z at *
  generalize d &&& (255 : Int32) = t at *
  have e1 : (1 : Int32).toInt = 1 := rfl
  have h1 := c_iadd x 1
  have h2 := c_iadd (x + 1) y
  have h3 := c_iadd (x + 1 + y) 1
  have h4 := c_iadd (x + 1 + y + 1) z
  have r1 := rng32 (x + 1)
  have r2 := rng32 (x + 1 + y)
  have r3 := rng32 (x + 1 + y + 1)
  have r4 := rng32 (x + 1 + y + 1 + z)
  refine ⟨⟨?_, ?_, ?_, ?_⟩, ?_, ?_⟩ <;> omega
theorem own_w_int {s : Int32} (h : 0 ≤ s.toInt) : (own_w s).toInt = s.toInt / 64 := by
  have e := c_iushr s 6 6 (by decide) (by decide)
  have r := rng32 s
  have e2 : (own_w s).toInt = s.toInt % 4294967296 / (2 ^ 6 : Nat) := e
  rw [e2]; omega
theorem own_wd {s : Int32} (h : 0 ≤ s.toInt ∧ s.toInt ≤ 255) : ¬ (own_w s + (1 : Int32)) < 0 ∧ (own_w s + (1 : Int32)).toNatClampNeg ≤ 4 := by
  have e := own_w_int h.1
  have c := c_iadd (own_w s) 1
  have r := rng32 (own_w s + 1)
  have e1 : (1 : Int32).toInt = 1 := rfl
  have e0 : (0 : Int32).toInt = 0 := rfl
  rw [Int32.lt_iff_toInt_lt]
  simp only [Int32.toNatClampNeg]
  omega
theorem own_d1 (n : Int32) : ¬ (n + (3 : Int32)) = n := fun q => by
  have e := congrArg Int32.toInt q
  have c := c_iadd n 3
  have e3 : (3 : Int32).toInt = 3 := rfl
  omega
theorem own_d2 (n : Int32) : ¬ (n + (4 : Int32)) = (n + (3 : Int32)) := fun q => by
  have e := congrArg Int32.toInt q
  have c := c_iadd n 3
  have c' := c_iadd n 4
  have e3 : (3 : Int32).toInt = 3 := rfl
  have e4 : (4 : Int32).toInt = 4 := rfl
  omega
section Hyp
variable {s1 s2 s3 t : Int32} (hs : own_hyp s1 s2 s3 t)
theorem own_h3 {s1 s2 s3 t : Int32} (hs : own_hyp s1 s2 s3 t) : 0 ≤ s3.toInt ∧ s3.toInt ≤ 255 := by unfold own_hyp at hs; omega
theorem own_ht {s1 s2 s3 t : Int32} (hs : own_hyp s1 s2 s3 t) : 0 ≤ t.toInt ∧ t.toInt ≤ 255 := by unfold own_hyp at hs; omega
end Hyp
theorem own_inx {s u : Int32} (h1 : 0 ≤ s.toInt) (h2 : s.toInt ≤ u.toInt) (h3 : u.toInt ≤ 255) : ¬ own_w s < 0 ∧ own_w s < own_w u + (1 : Int32) := by
  have e := own_w_int h1
  have e' := own_w_int (s := u) (by omega)
  have c := c_iadd (own_w u) 1
  have r := rng32 (own_w u + 1)
  have e1 : (1 : Int32).toInt = 1 := rfl
  have e0 : (0 : Int32).toInt = 0 := rfl
  rw [Int32.lt_iff_toInt_lt, Int32.lt_iff_toInt_lt]
  omega
theorem own_in1 {s1 s2 s3 t : Int32} (hs : own_hyp s1 s2 s3 t) : ¬ own_w s1 < 0 ∧ own_w s1 < own_w s3 + (1 : Int32) := by unfold own_hyp at hs; exact own_inx (by omega) (by omega) (by omega)
theorem own_in2 {s1 s2 s3 t : Int32} (hs : own_hyp s1 s2 s3 t) : ¬ own_w s2 < 0 ∧ own_w s2 < own_w s3 + (1 : Int32) := by unfold own_hyp at hs; exact own_inx (by omega) (by omega) (by omega)
theorem own_in3 {s1 s2 s3 t : Int32} (hs : own_hyp s1 s2 s3 t) : ¬ own_w s3 < 0 ∧ own_w s3 < own_w s3 + (1 : Int32) := by unfold own_hyp at hs; exact own_inx (by omega) (by omega) (by omega)
theorem own_int {s1 s2 s3 t : Int32} (hs : own_hyp s1 s2 s3 t) : ¬ own_w t < 0 ∧ own_w t < own_w t + (1 : Int32) := by unfold own_hyp at hs; exact own_inx (by omega) (by omega) (by omega)
theorem own_nlt {a : Int32} (h : 0 ≤ a.toInt) : ¬ a < 0 := by rw [Int32.lt_iff_toInt_lt]; have : (0 : Int32).toInt = 0 := rfl; omega
theorem own_wnn {s : Int32} (h : 0 ≤ s.toInt) : ¬ own_w s < 0 := by
  have e := own_w_int h
  exact own_nlt (by omega)
theorem own_idx {a b : Int32} (ha : ¬ a < 0) (hb : ¬ b < 0) (q : b.toNatClampNeg = a.toNatClampNeg) : a = b := by
  rw [Int32.lt_iff_toInt_lt] at ha hb
  have z : (0 : Int32).toInt = 0 := rfl
  simp only [Int32.toNatClampNeg] at q
  exact Int32.toInt_inj.mp (by omega)
theorem own_addL_at (f : Nat → Int64) {s ww : Int32} (h : ¬ own_w s < 0) (h' : ¬ ww < 0) : own_addL f s ww.toNatClampNeg = if own_w s = ww then f ww.toNatClampNeg ||| own_B s else f ww.toNatClampNeg := by
  unfold own_addL own_up
  by_cases q : own_w s = ww
  · subst q; simp
  · rw [if_neg q, if_neg (fun r => q (own_idx h h' r))]
theorem own_addI_at (f : Nat → Int64) (g : Nat → Int32) {s nu ww : Int32} (h : ¬ own_w s < 0) (h' : ¬ ww < 0) : own_addI f g s nu ww.toNatClampNeg = if own_w s = ww ∧ f ww.toNatClampNeg = 0 then nu else g ww.toNatClampNeg := by
  unfold own_addI own_up
  by_cases q : own_w s = ww
  · subst q
    by_cases r : f (own_w s).toNatClampNeg = 0
    · simp [r]
    · simp [r]
  · have n : ¬ ww.toNatClampNeg = (own_w s).toNatClampNeg := fun r => q (own_idx h h' r)
    by_cases r : f (own_w s).toNatClampNeg = 0 <;> simp [r, q, n]
def own_P (k : Fin 64) : Int64 := (1 : Int64) <<< (Int64.ofNat k.val)
theorem own_P_ne : ∀ k : Fin 64, ¬ own_P k = 0 := by decide +kernel
theorem own_P_low : ∀ i j : Fin 64, own_P i &&& (own_P j - 1) = if i < j then own_P i else 0 := by decide +kernel
theorem own_P_bc1 : ∀ i : Fin 64, own_bc (own_P i) = 1 := by decide +kernel
theorem own_P_bc2 : ∀ i j : Fin 64, i < j → own_bc (own_P i ||| own_P j) = 2 := by decide +kernel
theorem own_bc0 : own_bc 0 = 0 := by decide +kernel
theorem own_key {s : Int32} (h : 0 ≤ s.toInt) : ∃ k : Fin 64, own_B s = own_P k ∧ (k.val : Int) = s.toInt % 64 := by
  have e := c_mask s 0x3f 6 (by decide) (by decide)
  have e' : (s &&& 0x3f).toInt = s.toInt % 64 := by rw [e]; rfl
  refine ⟨⟨(s.toInt % 64).toNat, by omega⟩, ?_, by show ((s.toInt % 64).toNat : Int) = _; omega⟩
  unfold own_B own_P
  have g : (s &&& 0x3f).toInt64 = Int64.ofNat (s.toInt % 64).toNat := by
    apply Int64.toInt_inj.mp
    rw [Int32.toInt_toInt64, e', Int64.toInt_ofNat_of_lt (by omega)]
    omega
  rw [g]
theorem own_or_ne {x : Int64} {k : Fin 64} : ¬ (x ||| own_P k) = 0 := fun q => own_P_ne k (by
  have r : (x ||| own_P k) &&& own_P k = 0 := by rw [q]; exact Int64.zero_and
  have r2 : (x ||| own_P k) &&& own_P k = own_P k := by
    apply Int64.toBitVec_inj.mp
    simp only [Int64.toBitVec_and, Int64.toBitVec_or]
    ext i hi
    simp
    intro a
    exact Or.inr a
  rw [← r2]; exact r)
theorem own_mainB {s1 s2 s3 t : Int32} (hs : own_hyp s1 s2 s3 t) (ww : Int32) (hw : ¬ ww < 0) : (own_addL (own_addL (own_addL (fun _ => (0 : Int64)) s1) s2) s3) (ww).toNatClampNeg = own_expB s1 s2 s3 ww := by
  unfold own_hyp at hs
  rw [own_addL_at _ (own_wnn (by omega)) hw, own_addL_at _ (own_wnn (by omega)) hw, own_addL_at _ (own_wnn (by omega)) hw]
  rfl
theorem own_mainBt {s1 s2 s3 t : Int32} (hs : own_hyp s1 s2 s3 t) (ww : Int32) (hw : ¬ ww < 0) : (own_addL (fun _ => (0 : Int64)) t) (ww).toNatClampNeg = own_expB t t t ww := by
  unfold own_hyp at hs
  rw [own_addL_at _ (own_wnn (by omega)) hw]
  unfold own_expB
  by_cases q : own_w t = ww <;> simp [q]
theorem own_mainF {s1 s2 s3 t : Int32} (hs : own_hyp s1 s2 s3 t) (n ww : Int32) (hw : ¬ ww < 0) : (own_addI (own_addL (own_addL (fun _ => (0 : Int64)) s1) s2) (own_addI (own_addL (fun _ => (0 : Int64)) s1) (own_addI (fun _ => (0 : Int64)) (fun _ => (0 : Int32)) s1 n) s2 (n + (1 : Int32))) s3 (n + (2 : Int32))) (ww).toNatClampNeg = own_expF s1 s2 s3 n ww := by
  unfold own_hyp at hs
  have w1 := own_wnn (s := s1) (by omega)
  have w2 := own_wnn (s := s2) (by omega)
  have w3 := own_wnn (s := s3) (by omega)
  rw [own_addI_at _ _ w3 hw, own_addI_at _ _ w2 hw, own_addI_at _ _ w1 hw, own_addL_at _ w2 hw, own_addL_at _ w1 hw]
  obtain ⟨k1, b1, -⟩ := own_key (s := s1) (by omega)
  obtain ⟨k2, b2, -⟩ := own_key (s := s2) (by omega)
  rw [b1, b2]
  unfold own_expF
  by_cases q1 : own_w s1 = ww <;> by_cases q2 : own_w s2 = ww <;> by_cases q3 : own_w s3 = ww <;> simp [q1, q2, q3, own_or_ne, own_P_ne]
theorem own_mainFt {s1 s2 s3 t : Int32} (hs : own_hyp s1 s2 s3 t) (n ww : Int32) (hw : ¬ ww < 0) : (own_addI (fun _ => (0 : Int64)) (fun _ => (0 : Int32)) t (n + (3 : Int32))) (ww).toNatClampNeg = own_expF t t t (n + (3 : Int32)) ww := by
  unfold own_hyp at hs
  rw [own_addI_at _ _ (own_wnn (by omega)) hw]
  unfold own_expF
  by_cases q : own_w t = ww <;> simp [q]
theorem own_low {s u : Int32} (h : 0 ≤ s.toInt) (h' : 0 ≤ u.toInt) : own_B s &&& (own_B u - (1 : Int64)) = if s.toInt % 64 < u.toInt % 64 then own_B s else 0 := by
  obtain ⟨k, b, e⟩ := own_key h
  obtain ⟨k', b', e'⟩ := own_key h'
  rw [b, b', own_P_low]
  by_cases q : k < k'
  · rw [if_pos q, if_pos (by have : k.val < k'.val := q; omega)]
  · rw [if_neg q, if_neg (by have : ¬ k.val < k'.val := q; omega)]
theorem own_dist (x y z : Int64) : (x ||| y) &&& z = (x &&& z) ||| (y &&& z) := by
  apply Int64.toBitVec_inj.mp
  simp only [Int64.toBitVec_and, Int64.toBitVec_or]
  ext i hi
  simp [Bool.and_or_distrib_right]
theorem own_z_or (x : Int64) : (0 : Int64) ||| x = x := Int64.zero_or
theorem own_or_z (x : Int64) : x ||| (0 : Int64) = x := Int64.or_zero
theorem own_bcB {s : Int32} (h : 0 ≤ s.toInt) : own_bc (own_B s) = 1 := by obtain ⟨k, b, -⟩ := own_key h; rw [b]; exact own_P_bc1 k
theorem own_bcBB {s u : Int32} (h : 0 ≤ s.toInt) (h' : 0 ≤ u.toInt) (q : s.toInt % 64 < u.toInt % 64) : own_bc (own_B s ||| own_B u) = 2 := by
  obtain ⟨k, b, e⟩ := own_key h
  obtain ⟨k', b', e'⟩ := own_key h'
  rw [b, b']; exact own_P_bc2 k k' (by show k.val < k'.val; omega)
theorem own_weq {s u : Int32} (h : 0 ≤ s.toInt) (h' : 0 ≤ u.toInt) : own_w s = own_w u ↔ s.toInt / 64 = u.toInt / 64 := by
  rw [← Int32.toInt_inj, own_w_int h, own_w_int h']
section Num
theorem own_num_eq {s1 s2 s3 t : Int32} (hs : own_hyp s1 s2 s3 t) (n u : Int32) (hu : 0 ≤ u.toInt) : own_num (own_addL (own_addL (own_addL (fun _ => (0 : Int64)) s1) s2) s3) (own_addI (own_addL (own_addL (fun _ => (0 : Int64)) s1) s2) (own_addI (own_addL (fun _ => (0 : Int64)) s1) (own_addI (fun _ => (0 : Int64)) (fun _ => (0 : Int32)) s1 n) s2 (n + (1 : Int32))) s3 (n + (2 : Int32))) u = own_expF s1 s2 s3 n (own_w u) + own_bc (own_expB s1 s2 s3 (own_w u) &&& (own_B u - (1 : Int64))) := by
  unfold own_num
  rw [own_mainF hs _ _ (own_wnn hu), own_mainB hs _ (own_wnn hu)]
theorem own_num1 {s1 s2 s3 t : Int32} (hs : own_hyp s1 s2 s3 t) (n : Int32) : own_num (own_addL (own_addL (own_addL (fun _ => (0 : Int64)) s1) s2) s3) (own_addI (own_addL (own_addL (fun _ => (0 : Int64)) s1) s2) (own_addI (own_addL (fun _ => (0 : Int64)) s1) (own_addI (fun _ => (0 : Int64)) (fun _ => (0 : Int32)) s1 n) s2 (n + (1 : Int32))) s3 (n + (2 : Int32))) s1 = n := by
  have hs' := hs
  unfold own_hyp at hs'
  rw [own_num_eq hs n s1 (by omega)]
  have l1 := own_low (s := s1) (u := s1) (by omega) (by omega)
  have l2 := own_low (s := s2) (u := s1) (by omega) (by omega)
  have l3 := own_low (s := s3) (u := s1) (by omega) (by omega)
  have e2 := own_weq (s := s2) (u := s1) (by omega) (by omega)
  have e3 := own_weq (s := s3) (u := s1) (by omega) (by omega)
  rw [if_neg (by omega)] at l1
  unfold own_expF own_expB
  by_cases q2 : own_w s2 = own_w s1 <;> by_cases q3 : own_w s3 = own_w s1
  · rw [if_neg (by have := e2.mp q2; omega)] at l2
    rw [if_neg (by have := e3.mp q3; omega)] at l3
    simp [q2, q3, own_dist, l1, l2, l3, own_bc0, own_z_or, own_or_z]
  · rw [if_neg (by have := e2.mp q2; omega)] at l2
    simp [q2, q3, own_dist, l1, l2, own_bc0, own_z_or, own_or_z]
  · rw [if_neg (by have := e3.mp q3; omega)] at l3
    simp [q2, q3, own_dist, l1, l3, own_bc0, own_z_or, own_or_z]
  · simp [q2, q3, own_dist, l1, own_bc0, own_z_or, own_or_z]
theorem own_num2 {s1 s2 s3 t : Int32} (hs : own_hyp s1 s2 s3 t) (n : Int32) : own_num (own_addL (own_addL (own_addL (fun _ => (0 : Int64)) s1) s2) s3) (own_addI (own_addL (own_addL (fun _ => (0 : Int64)) s1) s2) (own_addI (own_addL (fun _ => (0 : Int64)) s1) (own_addI (fun _ => (0 : Int64)) (fun _ => (0 : Int32)) s1 n) s2 (n + (1 : Int32))) s3 (n + (2 : Int32))) s2 = n + (1 : Int32) := by
  have hs' := hs
  unfold own_hyp at hs'
  rw [own_num_eq hs n s2 (by omega)]
  have l1 := own_low (s := s1) (u := s2) (by omega) (by omega)
  have l2 := own_low (s := s2) (u := s2) (by omega) (by omega)
  have l3 := own_low (s := s3) (u := s2) (by omega) (by omega)
  have e1 := own_weq (s := s1) (u := s2) (by omega) (by omega)
  have e3 := own_weq (s := s3) (u := s2) (by omega) (by omega)
  have c1 := own_bcB (s := s1) (by omega)
  rw [if_neg (by omega)] at l2
  unfold own_expF own_expB
  by_cases q1 : own_w s1 = own_w s2 <;> by_cases q3 : own_w s3 = own_w s2
  · rw [if_pos (by have := e1.mp q1; omega)] at l1
    rw [if_neg (by have := e3.mp q3; omega)] at l3
    simp [q1, q3, own_dist, l1, l2, l3, c1, own_z_or, own_or_z]
  · rw [if_pos (by have := e1.mp q1; omega)] at l1
    simp [q1, q3, own_dist, l1, l2, c1, own_z_or, own_or_z]
  · rw [if_neg (by have := e3.mp q3; omega)] at l3
    simp [q1, q3, own_dist, l2, l3, own_bc0, own_z_or, own_or_z]
  · simp [q1, q3, own_dist, l2, own_bc0, own_z_or, own_or_z]
theorem own_num3 {s1 s2 s3 t : Int32} (hs : own_hyp s1 s2 s3 t) (n : Int32) : own_num (own_addL (own_addL (own_addL (fun _ => (0 : Int64)) s1) s2) s3) (own_addI (own_addL (own_addL (fun _ => (0 : Int64)) s1) s2) (own_addI (own_addL (fun _ => (0 : Int64)) s1) (own_addI (fun _ => (0 : Int64)) (fun _ => (0 : Int32)) s1 n) s2 (n + (1 : Int32))) s3 (n + (2 : Int32))) s3 = n + (2 : Int32) := by
  have hs' := hs
  unfold own_hyp at hs'
  rw [own_num_eq hs n s3 (by omega)]
  have l1 := own_low (s := s1) (u := s3) (by omega) (by omega)
  have l2 := own_low (s := s2) (u := s3) (by omega) (by omega)
  have l3 := own_low (s := s3) (u := s3) (by omega) (by omega)
  have e1 := own_weq (s := s1) (u := s3) (by omega) (by omega)
  have e2 := own_weq (s := s2) (u := s3) (by omega) (by omega)
  have c1 := own_bcB (s := s1) (by omega)
  have c2 := own_bcB (s := s2) (by omega)
  rw [if_neg (by omega)] at l3
  have a2 : n + 1 + 1 = n + (2 : Int32) := by rw [Int32.add_assoc]; rfl
  unfold own_expF own_expB
  by_cases q1 : own_w s1 = own_w s3 <;> by_cases q2 : own_w s2 = own_w s3
  · have d1 := e1.mp q1
    have d2 := e2.mp q2
    have c12 := own_bcBB (s := s1) (u := s2) (by omega) (by omega) (by omega)
    rw [if_pos (by omega)] at l1
    rw [if_pos (by omega)] at l2
    simp [q1, q2, own_dist, l1, l2, l3, c12, own_z_or, own_or_z]
  · exact absurd ((e2.mpr (by have := e1.mp q1; omega)) : own_w s2 = own_w s3) q2
  · rw [if_pos (by have := e2.mp q2; omega)] at l2
    simp [q1, q2, own_dist, l2, l3, c2, own_z_or, own_or_z, a2]
  · simp [q1, q2, own_dist, l3, own_bc0, own_z_or, own_or_z]
theorem own_numt {s1 s2 s3 t : Int32} (hs : own_hyp s1 s2 s3 t) (n : Int32) : own_num (own_addL (fun _ => (0 : Int64)) t) (own_addI (fun _ => (0 : Int64)) (fun _ => (0 : Int32)) t (n + (3 : Int32))) t = n + (3 : Int32) := by
  have hs' := hs
  unfold own_hyp at hs'
  unfold own_num
  rw [own_mainFt hs _ _ (own_wnn (by omega)), own_mainBt hs _ (own_wnn (by omega))]
  have l := own_low (s := t) (u := t) (by omega) (by omega)
  rw [if_neg (by omega)] at l
  unfold own_expF own_expB
  simp [own_dist, l, own_bc0, own_z_or, own_or_z]
end Num
theorem pn_0 : plainName "java/lang/Long" = true := by first | (simp [plainName, overriddenIn]; done) | decide +kernel
theorem d6_0 : decode jdk_35_method_50_code 0 = .ok (.lload_n 0, 1) := by decide +kernel
theorem d6_1 : decode jdk_35_method_50_code 1 = .ok (.lload_n 0, 1) := by decide +kernel
theorem d6_2 : decode jdk_35_method_50_code 2 = .ok (.iconst 1, 1) := by decide +kernel
theorem d6_3 : decode jdk_35_method_50_code 3 = .ok (.lushr, 1) := by decide +kernel
theorem d6_4 : decode jdk_35_method_50_code 4 = .ok (.ldc2_w 314, 3) := by decide +kernel
theorem d6_7 : decode jdk_35_method_50_code 7 = .ok (.land, 1) := by decide +kernel
theorem d6_8 : decode jdk_35_method_50_code 8 = .ok (.lsub, 1) := by decide +kernel
theorem d6_9 : decode jdk_35_method_50_code 9 = .ok (.lstore_n 0, 1) := by decide +kernel
theorem d6_10 : decode jdk_35_method_50_code 10 = .ok (.lload_n 0, 1) := by decide +kernel
theorem d6_11 : decode jdk_35_method_50_code 11 = .ok (.ldc2_w 316, 3) := by decide +kernel
theorem d6_14 : decode jdk_35_method_50_code 14 = .ok (.land, 1) := by decide +kernel
theorem d6_15 : decode jdk_35_method_50_code 15 = .ok (.lload_n 0, 1) := by decide +kernel
theorem d6_16 : decode jdk_35_method_50_code 16 = .ok (.iconst 2, 1) := by decide +kernel
theorem d6_17 : decode jdk_35_method_50_code 17 = .ok (.lushr, 1) := by decide +kernel
theorem d6_18 : decode jdk_35_method_50_code 18 = .ok (.ldc2_w 316, 3) := by decide +kernel
theorem d6_21 : decode jdk_35_method_50_code 21 = .ok (.land, 1) := by decide +kernel
theorem d6_22 : decode jdk_35_method_50_code 22 = .ok (.ladd, 1) := by decide +kernel
theorem d6_23 : decode jdk_35_method_50_code 23 = .ok (.lstore_n 0, 1) := by decide +kernel
theorem d6_24 : decode jdk_35_method_50_code 24 = .ok (.lload_n 0, 1) := by decide +kernel
theorem d6_25 : decode jdk_35_method_50_code 25 = .ok (.lload_n 0, 1) := by decide +kernel
theorem d6_26 : decode jdk_35_method_50_code 26 = .ok (.iconst 4, 1) := by decide +kernel
theorem d6_27 : decode jdk_35_method_50_code 27 = .ok (.lushr, 1) := by decide +kernel
theorem d6_28 : decode jdk_35_method_50_code 28 = .ok (.ladd, 1) := by decide +kernel
theorem d6_29 : decode jdk_35_method_50_code 29 = .ok (.ldc2_w 318, 3) := by decide +kernel
theorem d6_32 : decode jdk_35_method_50_code 32 = .ok (.land, 1) := by decide +kernel
theorem d6_33 : decode jdk_35_method_50_code 33 = .ok (.lstore_n 0, 1) := by decide +kernel
theorem d6_34 : decode jdk_35_method_50_code 34 = .ok (.lload_n 0, 1) := by decide +kernel
theorem d6_35 : decode jdk_35_method_50_code 35 = .ok (.lload_n 0, 1) := by decide +kernel
theorem d6_36 : decode jdk_35_method_50_code 36 = .ok (.bipush 8, 2) := by decide +kernel
theorem d6_38 : decode jdk_35_method_50_code 38 = .ok (.lushr, 1) := by decide +kernel
theorem d6_39 : decode jdk_35_method_50_code 39 = .ok (.ladd, 1) := by decide +kernel
theorem d6_40 : decode jdk_35_method_50_code 40 = .ok (.lstore_n 0, 1) := by decide +kernel
theorem d6_41 : decode jdk_35_method_50_code 41 = .ok (.lload_n 0, 1) := by decide +kernel
theorem d6_42 : decode jdk_35_method_50_code 42 = .ok (.lload_n 0, 1) := by decide +kernel
theorem d6_43 : decode jdk_35_method_50_code 43 = .ok (.bipush 16, 2) := by decide +kernel
theorem d6_45 : decode jdk_35_method_50_code 45 = .ok (.lushr, 1) := by decide +kernel
theorem d6_46 : decode jdk_35_method_50_code 46 = .ok (.ladd, 1) := by decide +kernel
theorem d6_47 : decode jdk_35_method_50_code 47 = .ok (.lstore_n 0, 1) := by decide +kernel
theorem d6_48 : decode jdk_35_method_50_code 48 = .ok (.lload_n 0, 1) := by decide +kernel
theorem d6_49 : decode jdk_35_method_50_code 49 = .ok (.lload_n 0, 1) := by decide +kernel
theorem d6_50 : decode jdk_35_method_50_code 50 = .ok (.bipush 32, 2) := by decide +kernel
theorem d6_52 : decode jdk_35_method_50_code 52 = .ok (.lushr, 1) := by decide +kernel
theorem d6_53 : decode jdk_35_method_50_code 53 = .ok (.ladd, 1) := by decide +kernel
theorem d6_54 : decode jdk_35_method_50_code 54 = .ok (.lstore_n 0, 1) := by decide +kernel
theorem d6_55 : decode jdk_35_method_50_code 55 = .ok (.lload_n 0, 1) := by decide +kernel
theorem d6_56 : decode jdk_35_method_50_code 56 = .ok (.l2i, 1) := by decide +kernel
theorem d6_57 : decode jdk_35_method_50_code 57 = .ok (.bipush 127, 2) := by decide +kernel
theorem d6_59 : decode jdk_35_method_50_code 59 = .ok (.iand, 1) := by decide +kernel
theorem d6_60 : decode jdk_35_method_50_code 60 = .ok (.ireturn, 1) := by decide +kernel
theorem ef_bitCount (m : MethodId) (xx : Int64) : entryFrame m #[(.long xx)] 2 = mkF m 0 #[.val (.long xx), .second] [] := by first | (simp [entryFrame, mkF, argsToLocals, Value.category]; done) | rfl
def Q_bitCount (Z : State) (xx : Int64) (h0 : Heap) (n0 : Nat) (v : Option Value) (h : Heap) (L : List Loc) : Prop := v = some (.int (own_bc xx)) ∧ Fr n0 L ∧ h = h0
set_option maxRecDepth 65536 in
set_option maxHeartbeats 40000000 in
theorem bitCount (l : Launch) (Z : State) (a0 : Array Value) (hw : ∀ d ∈ tables_1, d.before a0 Z = true) (ws : List Jvm.Cond) (xx : Int64) (h0 : Heap) (n0 : Nat) (O0 : Old Z n0 h0) :
    MetFree l (⟨"java/lang/Long", "bitCount", "(J)I"⟩ : MethodName) (head1 (Jvm.Cond.code (⟨"java/lang/Long", "bitCount", "(J)I"⟩ : MethodName) jdk_35_method_50_code 2 (some .int) :: ws) ({ frames := 0, cells := 0, slots := 0, locals := 0 } : Room)) (fun a U => a = #[(.long xx)] ∧ Z.Warmed39 U.vm ∧ U.heap = h0) (fun _ _ _ _ _ => True) (fun _ U o U' => ∃ v L, o = .returned v ∧ Q_bitCount Z xx h0 n0 v U'.heap L ∧ FrameEnd U o U' L ({ frames := 0, cells := 0, slots := 0, locals := 0 } : Room).cells ({ frames := 0, cells := 0, slots := 0, locals := 0 } : Room).slots) := by
  refine MetFree.of_bodySF (plainFor_of_name pn_0) hisR ?_
  intro p e s m args below meth c s₁ Bd hml0 hP hK
  obtain ⟨rfl, hZ, hh⟩ := hP
  have hx := Bd.exec
  have hby := Bd.bytes
  have hml : c.maxLocals = 2 := hml0
  have hown : s.vm.findClass "java/lang/Long" = some m.cls := findClass_of_methodNamed Bd.named
  have hnm := (name_of_methodNamed Bd.named Bd.method).1
  have hlk := BodyLoose.notSynchronized Bd
  have X0 : Stand p l e ({ frames := 0, cells := 0, slots := 0, locals := 0 } : Room) s m #[(.long xx)] below meth c s₁ [] 0 0 := Stand.of_body Bd
  have e0 : s₁.heap = h0 := by rw [← hh, Bd.state]; rfl
  have N0 := Fr.nil n0
  refine Go.start (P := fun o U' => ∃ v L, o = .returned v ∧ Q_bitCount Z xx h0 n0 v U'.heap L ∧ FrameEnd s o U' L ({ frames := 0, cells := 0, slots := 0, locals := 0 } : Room).cells ({ frames := 0, cells := 0, slots := 0, locals := 0 } : Room).slots) (ef_bitCount m xx) ?_
  show Go p e below _ (s₁.setTop (mkF m 0 #[.val (.long xx), .second] []))
  refine Go.by (fun t k => XS.lloadN X0.here hx rfl (hb hby d6_0) rfl k) ?_
  show Go p e below _ (s₁.setTop (mkF m 1 #[.val (.long xx), .second] [(.long xx)]))
  refine Go.by (fun t k => XS.lloadN X0.here hx rfl (hb hby d6_1) rfl k) ?_
  show Go p e below _ (s₁.setTop (mkF m 2 #[.val (.long xx), .second] [(.long xx), (.long xx)]))
  refine Go.by (fun t k => XS.iconst X0.here hx rfl (hb hby d6_2) k) ?_
  show Go p e below _ (s₁.setTop (mkF m 3 #[.val (.long xx), .second] [(.int (1 : Int32)), (.long xx), (.long xx)]))
  refine Go.by (fun t k => XS.lushr X0.here hx rfl (hb hby d6_3) rfl k) ?_
  show Go p e below _ (s₁.setTop (mkF m 4 #[.val (.long xx), .second] [(.long ((xx.toUInt64 >>> ((1 : Int32) &&& 0x3f).toInt64.toUInt64).toInt64)), (.long xx)]))
  refine Go.by (fun t k => X0.ldc2Long hx hown (mvT hZ (hw _ (List.mem_of_getElem? (i := 41) rfl))) (g := (mkF m 4 #[.val (.long xx), .second] [(.long ((xx.toUInt64 >>> ((1 : Int32) &&& 0x3f).toInt64.toUInt64).toInt64)), (.long xx)])) rfl (hb hby d6_4) t k) ?_
  show Go p e below _ (s₁.setTop (mkF m 7 #[.val (.long xx), .second] [(.long (6148914691236517205 : Int64)), (.long ((xx.toUInt64 >>> ((1 : Int32) &&& 0x3f).toInt64.toUInt64).toInt64)), (.long xx)]))
  refine Go.by (fun t k => XS.land X0.here hx rfl (hb hby d6_7) rfl k) ?_
  show Go p e below _ (s₁.setTop (mkF m 8 #[.val (.long xx), .second] [(.long (((xx.toUInt64 >>> ((1 : Int32) &&& 0x3f).toInt64.toUInt64).toInt64) &&& (6148914691236517205 : Int64))), (.long xx)]))
  refine Go.by (fun t k => XS.lsub X0.here hx rfl (hb hby d6_8) rfl k) ?_
  show Go p e below _ (s₁.setTop (mkF m 9 #[.val (.long xx), .second] [(.long (xx - (((xx.toUInt64 >>> ((1 : Int32) &&& 0x3f).toInt64.toUInt64).toInt64) &&& (6148914691236517205 : Int64))))]))
  refine Go.by (fun t k => XS.lstoreN X0.here hx rfl (hb hby d6_9) rfl (l' := #[.val (.long (xx - (((xx.toUInt64 >>> ((1 : Int32) &&& 0x3f).toInt64.toUInt64).toInt64) &&& (6148914691236517205 : Int64)))), .second]) rfl k) ?_
  show Go p e below _ (s₁.setTop (mkF m 10 #[.val (.long (xx - (((xx.toUInt64 >>> ((1 : Int32) &&& 0x3f).toInt64.toUInt64).toInt64) &&& (6148914691236517205 : Int64)))), .second] []))
  obtain ⟨y1, hyy1⟩ : ∃ y : Int64, y = (xx - (((xx.toUInt64 >>> ((1 : Int32) &&& 0x3f).toInt64.toUInt64).toInt64) &&& (6148914691236517205 : Int64))) := ⟨_, rfl⟩
  rw [← hyy1]
  show Go p e below _ (s₁.setTop (mkF m 10 #[.val (.long y1), .second] []))
  refine Go.by (fun t k => XS.lloadN X0.here hx rfl (hb hby d6_10) rfl k) ?_
  show Go p e below _ (s₁.setTop (mkF m 11 #[.val (.long y1), .second] [(.long y1)]))
  refine Go.by (fun t k => X0.ldc2Long hx hown (mvT hZ (hw _ (List.mem_of_getElem? (i := 42) rfl))) (g := (mkF m 11 #[.val (.long y1), .second] [(.long y1)])) rfl (hb hby d6_11) t k) ?_
  show Go p e below _ (s₁.setTop (mkF m 14 #[.val (.long y1), .second] [(.long (3689348814741910323 : Int64)), (.long y1)]))
  refine Go.by (fun t k => XS.land X0.here hx rfl (hb hby d6_14) rfl k) ?_
  show Go p e below _ (s₁.setTop (mkF m 15 #[.val (.long y1), .second] [(.long (y1 &&& (3689348814741910323 : Int64)))]))
  refine Go.by (fun t k => XS.lloadN X0.here hx rfl (hb hby d6_15) rfl k) ?_
  show Go p e below _ (s₁.setTop (mkF m 16 #[.val (.long y1), .second] [(.long y1), (.long (y1 &&& (3689348814741910323 : Int64)))]))
  refine Go.by (fun t k => XS.iconst X0.here hx rfl (hb hby d6_16) k) ?_
  show Go p e below _ (s₁.setTop (mkF m 17 #[.val (.long y1), .second] [(.int (2 : Int32)), (.long y1), (.long (y1 &&& (3689348814741910323 : Int64)))]))
  refine Go.by (fun t k => XS.lushr X0.here hx rfl (hb hby d6_17) rfl k) ?_
  show Go p e below _ (s₁.setTop (mkF m 18 #[.val (.long y1), .second] [(.long ((y1.toUInt64 >>> ((2 : Int32) &&& 0x3f).toInt64.toUInt64).toInt64)), (.long (y1 &&& (3689348814741910323 : Int64)))]))
  refine Go.by (fun t k => X0.ldc2Long hx hown (mvT hZ (hw _ (List.mem_of_getElem? (i := 42) rfl))) (g := (mkF m 18 #[.val (.long y1), .second] [(.long ((y1.toUInt64 >>> ((2 : Int32) &&& 0x3f).toInt64.toUInt64).toInt64)), (.long (y1 &&& (3689348814741910323 : Int64)))])) rfl (hb hby d6_18) t k) ?_
  show Go p e below _ (s₁.setTop (mkF m 21 #[.val (.long y1), .second] [(.long (3689348814741910323 : Int64)), (.long ((y1.toUInt64 >>> ((2 : Int32) &&& 0x3f).toInt64.toUInt64).toInt64)), (.long (y1 &&& (3689348814741910323 : Int64)))]))
  refine Go.by (fun t k => XS.land X0.here hx rfl (hb hby d6_21) rfl k) ?_
  show Go p e below _ (s₁.setTop (mkF m 22 #[.val (.long y1), .second] [(.long (((y1.toUInt64 >>> ((2 : Int32) &&& 0x3f).toInt64.toUInt64).toInt64) &&& (3689348814741910323 : Int64))), (.long (y1 &&& (3689348814741910323 : Int64)))]))
  refine Go.by (fun t k => XS.ladd X0.here hx rfl (hb hby d6_22) rfl k) ?_
  show Go p e below _ (s₁.setTop (mkF m 23 #[.val (.long y1), .second] [(.long ((y1 &&& (3689348814741910323 : Int64)) + (((y1.toUInt64 >>> ((2 : Int32) &&& 0x3f).toInt64.toUInt64).toInt64) &&& (3689348814741910323 : Int64))))]))
  refine Go.by (fun t k => XS.lstoreN X0.here hx rfl (hb hby d6_23) rfl (l' := #[.val (.long ((y1 &&& (3689348814741910323 : Int64)) + (((y1.toUInt64 >>> ((2 : Int32) &&& 0x3f).toInt64.toUInt64).toInt64) &&& (3689348814741910323 : Int64)))), .second]) rfl k) ?_
  show Go p e below _ (s₁.setTop (mkF m 24 #[.val (.long ((y1 &&& (3689348814741910323 : Int64)) + (((y1.toUInt64 >>> ((2 : Int32) &&& 0x3f).toInt64.toUInt64).toInt64) &&& (3689348814741910323 : Int64)))), .second] []))
  obtain ⟨y2, hyy2⟩ : ∃ y : Int64, y = ((y1 &&& (3689348814741910323 : Int64)) + (((y1.toUInt64 >>> ((2 : Int32) &&& 0x3f).toInt64.toUInt64).toInt64) &&& (3689348814741910323 : Int64))) := ⟨_, rfl⟩
  rw [← hyy2]
  show Go p e below _ (s₁.setTop (mkF m 24 #[.val (.long y2), .second] []))
  refine Go.by (fun t k => XS.lloadN X0.here hx rfl (hb hby d6_24) rfl k) ?_
  show Go p e below _ (s₁.setTop (mkF m 25 #[.val (.long y2), .second] [(.long y2)]))
  refine Go.by (fun t k => XS.lloadN X0.here hx rfl (hb hby d6_25) rfl k) ?_
  show Go p e below _ (s₁.setTop (mkF m 26 #[.val (.long y2), .second] [(.long y2), (.long y2)]))
  refine Go.by (fun t k => XS.iconst X0.here hx rfl (hb hby d6_26) k) ?_
  show Go p e below _ (s₁.setTop (mkF m 27 #[.val (.long y2), .second] [(.int (4 : Int32)), (.long y2), (.long y2)]))
  refine Go.by (fun t k => XS.lushr X0.here hx rfl (hb hby d6_27) rfl k) ?_
  show Go p e below _ (s₁.setTop (mkF m 28 #[.val (.long y2), .second] [(.long ((y2.toUInt64 >>> ((4 : Int32) &&& 0x3f).toInt64.toUInt64).toInt64)), (.long y2)]))
  refine Go.by (fun t k => XS.ladd X0.here hx rfl (hb hby d6_28) rfl k) ?_
  show Go p e below _ (s₁.setTop (mkF m 29 #[.val (.long y2), .second] [(.long (y2 + ((y2.toUInt64 >>> ((4 : Int32) &&& 0x3f).toInt64.toUInt64).toInt64)))]))
  refine Go.by (fun t k => X0.ldc2Long hx hown (mvT hZ (hw _ (List.mem_of_getElem? (i := 43) rfl))) (g := (mkF m 29 #[.val (.long y2), .second] [(.long (y2 + ((y2.toUInt64 >>> ((4 : Int32) &&& 0x3f).toInt64.toUInt64).toInt64)))])) rfl (hb hby d6_29) t k) ?_
  show Go p e below _ (s₁.setTop (mkF m 32 #[.val (.long y2), .second] [(.long (1085102592571150095 : Int64)), (.long (y2 + ((y2.toUInt64 >>> ((4 : Int32) &&& 0x3f).toInt64.toUInt64).toInt64)))]))
  refine Go.by (fun t k => XS.land X0.here hx rfl (hb hby d6_32) rfl k) ?_
  show Go p e below _ (s₁.setTop (mkF m 33 #[.val (.long y2), .second] [(.long ((y2 + ((y2.toUInt64 >>> ((4 : Int32) &&& 0x3f).toInt64.toUInt64).toInt64)) &&& (1085102592571150095 : Int64)))]))
  refine Go.by (fun t k => XS.lstoreN X0.here hx rfl (hb hby d6_33) rfl (l' := #[.val (.long ((y2 + ((y2.toUInt64 >>> ((4 : Int32) &&& 0x3f).toInt64.toUInt64).toInt64)) &&& (1085102592571150095 : Int64))), .second]) rfl k) ?_
  show Go p e below _ (s₁.setTop (mkF m 34 #[.val (.long ((y2 + ((y2.toUInt64 >>> ((4 : Int32) &&& 0x3f).toInt64.toUInt64).toInt64)) &&& (1085102592571150095 : Int64))), .second] []))
  obtain ⟨y3, hyy3⟩ : ∃ y : Int64, y = ((y2 + ((y2.toUInt64 >>> ((4 : Int32) &&& 0x3f).toInt64.toUInt64).toInt64)) &&& (1085102592571150095 : Int64)) := ⟨_, rfl⟩
  rw [← hyy3]
  show Go p e below _ (s₁.setTop (mkF m 34 #[.val (.long y3), .second] []))
  refine Go.by (fun t k => XS.lloadN X0.here hx rfl (hb hby d6_34) rfl k) ?_
  show Go p e below _ (s₁.setTop (mkF m 35 #[.val (.long y3), .second] [(.long y3)]))
  refine Go.by (fun t k => XS.lloadN X0.here hx rfl (hb hby d6_35) rfl k) ?_
  show Go p e below _ (s₁.setTop (mkF m 36 #[.val (.long y3), .second] [(.long y3), (.long y3)]))
  refine Go.by (fun t k => XS.bipush X0.here hx rfl (hb hby d6_36) k) ?_
  show Go p e below _ (s₁.setTop (mkF m 38 #[.val (.long y3), .second] [(.int (8 : Int32)), (.long y3), (.long y3)]))
  refine Go.by (fun t k => XS.lushr X0.here hx rfl (hb hby d6_38) rfl k) ?_
  show Go p e below _ (s₁.setTop (mkF m 39 #[.val (.long y3), .second] [(.long ((y3.toUInt64 >>> ((8 : Int32) &&& 0x3f).toInt64.toUInt64).toInt64)), (.long y3)]))
  refine Go.by (fun t k => XS.ladd X0.here hx rfl (hb hby d6_39) rfl k) ?_
  show Go p e below _ (s₁.setTop (mkF m 40 #[.val (.long y3), .second] [(.long (y3 + ((y3.toUInt64 >>> ((8 : Int32) &&& 0x3f).toInt64.toUInt64).toInt64)))]))
  refine Go.by (fun t k => XS.lstoreN X0.here hx rfl (hb hby d6_40) rfl (l' := #[.val (.long (y3 + ((y3.toUInt64 >>> ((8 : Int32) &&& 0x3f).toInt64.toUInt64).toInt64))), .second]) rfl k) ?_
  show Go p e below _ (s₁.setTop (mkF m 41 #[.val (.long (y3 + ((y3.toUInt64 >>> ((8 : Int32) &&& 0x3f).toInt64.toUInt64).toInt64))), .second] []))
  obtain ⟨y4, hyy4⟩ : ∃ y : Int64, y = (y3 + ((y3.toUInt64 >>> ((8 : Int32) &&& 0x3f).toInt64.toUInt64).toInt64)) := ⟨_, rfl⟩
  rw [← hyy4]
  show Go p e below _ (s₁.setTop (mkF m 41 #[.val (.long y4), .second] []))
  refine Go.by (fun t k => XS.lloadN X0.here hx rfl (hb hby d6_41) rfl k) ?_
  show Go p e below _ (s₁.setTop (mkF m 42 #[.val (.long y4), .second] [(.long y4)]))
  refine Go.by (fun t k => XS.lloadN X0.here hx rfl (hb hby d6_42) rfl k) ?_
  show Go p e below _ (s₁.setTop (mkF m 43 #[.val (.long y4), .second] [(.long y4), (.long y4)]))
  refine Go.by (fun t k => XS.bipush X0.here hx rfl (hb hby d6_43) k) ?_
  show Go p e below _ (s₁.setTop (mkF m 45 #[.val (.long y4), .second] [(.int (16 : Int32)), (.long y4), (.long y4)]))
  refine Go.by (fun t k => XS.lushr X0.here hx rfl (hb hby d6_45) rfl k) ?_
  show Go p e below _ (s₁.setTop (mkF m 46 #[.val (.long y4), .second] [(.long ((y4.toUInt64 >>> ((16 : Int32) &&& 0x3f).toInt64.toUInt64).toInt64)), (.long y4)]))
  refine Go.by (fun t k => XS.ladd X0.here hx rfl (hb hby d6_46) rfl k) ?_
  show Go p e below _ (s₁.setTop (mkF m 47 #[.val (.long y4), .second] [(.long (y4 + ((y4.toUInt64 >>> ((16 : Int32) &&& 0x3f).toInt64.toUInt64).toInt64)))]))
  refine Go.by (fun t k => XS.lstoreN X0.here hx rfl (hb hby d6_47) rfl (l' := #[.val (.long (y4 + ((y4.toUInt64 >>> ((16 : Int32) &&& 0x3f).toInt64.toUInt64).toInt64))), .second]) rfl k) ?_
  show Go p e below _ (s₁.setTop (mkF m 48 #[.val (.long (y4 + ((y4.toUInt64 >>> ((16 : Int32) &&& 0x3f).toInt64.toUInt64).toInt64))), .second] []))
  obtain ⟨y5, hyy5⟩ : ∃ y : Int64, y = (y4 + ((y4.toUInt64 >>> ((16 : Int32) &&& 0x3f).toInt64.toUInt64).toInt64)) := ⟨_, rfl⟩
  rw [← hyy5]
  show Go p e below _ (s₁.setTop (mkF m 48 #[.val (.long y5), .second] []))
  refine Go.by (fun t k => XS.lloadN X0.here hx rfl (hb hby d6_48) rfl k) ?_
  show Go p e below _ (s₁.setTop (mkF m 49 #[.val (.long y5), .second] [(.long y5)]))
  refine Go.by (fun t k => XS.lloadN X0.here hx rfl (hb hby d6_49) rfl k) ?_
  show Go p e below _ (s₁.setTop (mkF m 50 #[.val (.long y5), .second] [(.long y5), (.long y5)]))
  refine Go.by (fun t k => XS.bipush X0.here hx rfl (hb hby d6_50) k) ?_
  show Go p e below _ (s₁.setTop (mkF m 52 #[.val (.long y5), .second] [(.int (32 : Int32)), (.long y5), (.long y5)]))
  refine Go.by (fun t k => XS.lushr X0.here hx rfl (hb hby d6_52) rfl k) ?_
  show Go p e below _ (s₁.setTop (mkF m 53 #[.val (.long y5), .second] [(.long ((y5.toUInt64 >>> ((32 : Int32) &&& 0x3f).toInt64.toUInt64).toInt64)), (.long y5)]))
  refine Go.by (fun t k => XS.ladd X0.here hx rfl (hb hby d6_53) rfl k) ?_
  show Go p e below _ (s₁.setTop (mkF m 54 #[.val (.long y5), .second] [(.long (y5 + ((y5.toUInt64 >>> ((32 : Int32) &&& 0x3f).toInt64.toUInt64).toInt64)))]))
  refine Go.by (fun t k => XS.lstoreN X0.here hx rfl (hb hby d6_54) rfl (l' := #[.val (.long (y5 + ((y5.toUInt64 >>> ((32 : Int32) &&& 0x3f).toInt64.toUInt64).toInt64))), .second]) rfl k) ?_
  show Go p e below _ (s₁.setTop (mkF m 55 #[.val (.long (y5 + ((y5.toUInt64 >>> ((32 : Int32) &&& 0x3f).toInt64.toUInt64).toInt64))), .second] []))
  obtain ⟨y6, hyy6⟩ : ∃ y : Int64, y = (y5 + ((y5.toUInt64 >>> ((32 : Int32) &&& 0x3f).toInt64.toUInt64).toInt64)) := ⟨_, rfl⟩
  rw [← hyy6]
  show Go p e below _ (s₁.setTop (mkF m 55 #[.val (.long y6), .second] []))
  refine Go.by (fun t k => XS.lloadN X0.here hx rfl (hb hby d6_55) rfl k) ?_
  show Go p e below _ (s₁.setTop (mkF m 56 #[.val (.long y6), .second] [(.long y6)]))
  refine Go.by (fun t k => XS.l2i X0.here hx rfl (hb hby d6_56) rfl k) ?_
  show Go p e below _ (s₁.setTop (mkF m 57 #[.val (.long y6), .second] [(.int (y6.toInt32))]))
  refine Go.by (fun t k => XS.bipush X0.here hx rfl (hb hby d6_57) k) ?_
  show Go p e below _ (s₁.setTop (mkF m 59 #[.val (.long y6), .second] [(.int (127 : Int32)), (.int (y6.toInt32))]))
  refine Go.by (fun t k => XS.iand X0.here hx rfl (hb hby d6_59) rfl k) ?_
  show Go p e below _ (s₁.setTop (mkF m 60 #[.val (.long y6), .second] [(.int ((y6.toInt32) &&& (127 : Int32)))]))
  have hq : Q_bitCount Z xx h0 n0 (some (.int ((y6.toInt32) &&& (127 : Int32)))) h0 _ := ⟨(by rw [hyy6, hyy5, hyy4, hyy3, hyy2, hyy1]; rfl), N0, rfl⟩
  exact Go.retI X0 hx Bd.returns hlk (hb hby d6_60) (by decide) (by decide) (by rw [e0]; exact hq)
theorem pn_1 : plainName "com/example/wakepath/wakepath/automaton/NumberedStates" = true := by first | (simp [plainName, overriddenIn]; done) | decide +kernel
theorem d1_0 : decode prog_15_method_1_code 0 = .ok (.aload_n 0, 1) := by decide +kernel
theorem d1_1 : decode prog_15_method_1_code 1 = .ok (.invokespecial 1, 3) := by decide +kernel
theorem d1_4 : decode prog_15_method_1_code 4 = .ok (.aload_n 1, 1) := by decide +kernel
theorem d1_5 : decode prog_15_method_1_code 5 = .ok (.arraylength, 1) := by decide +kernel
theorem d1_6 : decode prog_15_method_1_code 6 = .ok (.iconst 1, 1) := by decide +kernel
theorem d1_7 : decode prog_15_method_1_code 7 = .ok (.isub, 1) := by decide +kernel
theorem d1_8 : decode prog_15_method_1_code 8 = .ok (.istore_n 3, 1) := by decide +kernel
theorem d1_9 : decode prog_15_method_1_code 9 = .ok (.aload_n 0, 1) := by decide +kernel
theorem d1_10 : decode prog_15_method_1_code 10 = .ok (.iload_n 3, 1) := by decide +kernel
theorem d1_11 : decode prog_15_method_1_code 11 = .ok (.anewarray 7, 3) := by decide +kernel
theorem d1_14 : decode prog_15_method_1_code 14 = .ok (.putfield 9, 3) := by decide +kernel
theorem d1_17 : decode prog_15_method_1_code 17 = .ok (.aload_n 0, 1) := by decide +kernel
theorem d1_18 : decode prog_15_method_1_code 18 = .ok (.iload_n 3, 1) := by decide +kernel
theorem d1_19 : decode prog_15_method_1_code 19 = .ok (.anewarray 15, 3) := by decide +kernel
theorem d1_22 : decode prog_15_method_1_code 22 = .ok (.putfield 17, 3) := by decide +kernel
theorem d1_25 : decode prog_15_method_1_code 25 = .ok (.iconst 0, 1) := by decide +kernel
theorem d1_26 : decode prog_15_method_1_code 26 = .ok (.istore 4, 2) := by decide +kernel
theorem d1_28 : decode prog_15_method_1_code 28 = .ok (.iload 4, 2) := by decide +kernel
theorem d1_30 : decode prog_15_method_1_code 30 = .ok (.iload_n 3, 1) := by decide +kernel
theorem d1_31 : decode prog_15_method_1_code 31 = .ok (.if_icmp .ge 59, 3) := by decide +kernel
theorem d1_34 : decode prog_15_method_1_code 34 = .ok (.aload_n 1, 1) := by decide +kernel
theorem d1_35 : decode prog_15_method_1_code 35 = .ok (.iload 4, 2) := by decide +kernel
theorem d1_37 : decode prog_15_method_1_code 37 = .ok (.iconst 1, 1) := by decide +kernel
theorem d1_38 : decode prog_15_method_1_code 38 = .ok (.iadd, 1) := by decide +kernel
theorem d1_39 : decode prog_15_method_1_code 39 = .ok (.iaload, 1) := by decide +kernel
theorem d1_40 : decode prog_15_method_1_code 40 = .ok (.aload_n 1, 1) := by decide +kernel
theorem d1_41 : decode prog_15_method_1_code 41 = .ok (.iload 4, 2) := by decide +kernel
theorem d1_43 : decode prog_15_method_1_code 43 = .ok (.iaload, 1) := by decide +kernel
theorem d1_44 : decode prog_15_method_1_code 44 = .ok (.if_icmp .ne 7, 3) := by decide +kernel
theorem d1_51 : decode prog_15_method_1_code 51 = .ok (.aload_n 2, 1) := by decide +kernel
theorem d1_52 : decode prog_15_method_1_code 52 = .ok (.iload 4, 2) := by decide +kernel
theorem d1_54 : decode prog_15_method_1_code 54 = .ok (.iaload, 1) := by decide +kernel
theorem d1_55 : decode prog_15_method_1_code 55 = .ok (.bipush 6, 2) := by decide +kernel
theorem d1_57 : decode prog_15_method_1_code 57 = .ok (.iushr, 1) := by decide +kernel
theorem d1_58 : decode prog_15_method_1_code 58 = .ok (.iconst 1, 1) := by decide +kernel
theorem d1_59 : decode prog_15_method_1_code 59 = .ok (.iadd, 1) := by decide +kernel
theorem d1_60 : decode prog_15_method_1_code 60 = .ok (.istore 5, 2) := by decide +kernel
theorem d1_62 : decode prog_15_method_1_code 62 = .ok (.aload_n 0, 1) := by decide +kernel
theorem d1_63 : decode prog_15_method_1_code 63 = .ok (.getfield 9, 3) := by decide +kernel
theorem d1_66 : decode prog_15_method_1_code 66 = .ok (.iload 4, 2) := by decide +kernel
theorem d1_68 : decode prog_15_method_1_code 68 = .ok (.iload 5, 2) := by decide +kernel
theorem d1_70 : decode prog_15_method_1_code 70 = .ok (.newarray .long, 2) := by decide +kernel
theorem d1_72 : decode prog_15_method_1_code 72 = .ok (.aastore, 1) := by decide +kernel
theorem d1_73 : decode prog_15_method_1_code 73 = .ok (.aload_n 0, 1) := by decide +kernel
theorem d1_74 : decode prog_15_method_1_code 74 = .ok (.getfield 17, 3) := by decide +kernel
theorem d1_77 : decode prog_15_method_1_code 77 = .ok (.iload 4, 2) := by decide +kernel
theorem d1_79 : decode prog_15_method_1_code 79 = .ok (.iload 5, 2) := by decide +kernel
theorem d1_81 : decode prog_15_method_1_code 81 = .ok (.newarray .int, 2) := by decide +kernel
theorem d1_83 : decode prog_15_method_1_code 83 = .ok (.aastore, 1) := by decide +kernel
theorem d1_84 : decode prog_15_method_1_code 84 = .ok (.iinc 4 1, 3) := by decide +kernel
theorem d1_87 : decode prog_15_method_1_code 87 = .ok (.goto (-59), 3) := by decide +kernel
theorem d1_90 : decode prog_15_method_1_code 90 = .ok (.return_, 1) := by decide +kernel
theorem ef_init (m : MethodId) (ob : Addr) (fi : Addr) (ls : Addr) : entryFrame m #[(.ref ob), (.ref fi), (.ref ls)] 6 = mkF m 0 #[.val (.ref ob), .val (.ref fi), .val (.ref ls), .unset, .unset, .unset] [] := by first | (simp [entryFrame, mkF, argsToLocals, Value.category]; done) | rfl
def Q_init (Z : State) (ob : Addr) (fi : Addr) (ls : Addr) (n0_ : Int32) (n1_ : Int32) (n2_ : Int32) (la : Int32) (lb : Int32) (kf : ClassId) (kl : ClassId) (h0 : Heap) (n0 : Nat) (v : Option Value) (h : Heap) (L : List Loc) : Prop := ∃ bb : Addr, ∃ gg : Addr, ∃ b0 : Addr, ∃ g0 : Addr, ∃ b1 : Addr, ∃ g1 : Addr, ∃ kb : ClassId, ∃ kg : ClassId, v = none ∧ Fr n0 L ∧ Keep h0 h [ob] ∧ h0.size ≤ bb ∧ h0.size ≤ gg ∧ h0.size ≤ b0 ∧ h0.size ≤ g0 ∧ h0.size ≤ b1 ∧ h0.size ≤ g1 ∧ Exa Z h ob "com/example/wakepath/wakepath/automaton/NumberedStates" ∧ Fld Z h ob "com/example/wakepath/wakepath/automaton/NumberedStates" "bits" "[[J" (.ref bb) ∧ Fld Z h ob "com/example/wakepath/wakepath/automaton/NumberedStates" "firstNumber" "[[I" (.ref gg) ∧ Arv Z h bb kb (.array .long) (2 : Int32) [(.ref b0), (.ref b1)] .null ∧ Arv Z h gg kg (.array .int) (2 : Int32) [(.ref g0), (.ref g1)] .null ∧ own_La Z h b0 (((la.toUInt32 >>> ((6 : Int32) &&& 31).toUInt32).toInt32) + (1 : Int32)) (fun _ => (0 : Int64)) ∧ own_Ia Z h g0 (((la.toUInt32 >>> ((6 : Int32) &&& 31).toUInt32).toInt32) + (1 : Int32)) (fun _ => (0 : Int32)) ∧ own_La Z h b1 (((lb.toUInt32 >>> ((6 : Int32) &&& 31).toUInt32).toInt32) + (1 : Int32)) (fun _ => (0 : Int64)) ∧ own_Ia Z h g1 (((lb.toUInt32 >>> ((6 : Int32) &&& 31).toUInt32).toInt32) + (1 : Int32)) (fun _ => (0 : Int32)) ∧ (bb ≠ gg) ∧ (bb ≠ b0) ∧ (bb ≠ g0) ∧ (bb ≠ b1) ∧ (bb ≠ g1) ∧ (gg ≠ b0) ∧ (gg ≠ g0) ∧ (gg ≠ b1) ∧ (gg ≠ g1) ∧ (b0 ≠ g0) ∧ (b0 ≠ b1) ∧ (b0 ≠ g1) ∧ (g0 ≠ b1) ∧ (g0 ≠ g1) ∧ (b1 ≠ g1)
set_option maxRecDepth 65536 in
set_option maxHeartbeats 40000000 in
theorem init (l : Launch) (Z : State) (a0 : Array Value) (hw : ∀ d ∈ tables_1, d.before a0 Z = true) (ws : List Jvm.Cond) (ob : Addr) (fi : Addr) (ls : Addr) (n0_ : Int32) (n1_ : Int32) (n2_ : Int32) (la : Int32) (lb : Int32) (kf : ClassId) (kl : ClassId) (h0 : Heap) (n0 : Nat) (O0 : Old Z n0 h0) (P0 : Exa Z h0 ob "com/example/wakepath/wakepath/automaton/NumberedStates") (P1 : Fld Z h0 ob "com/example/wakepath/wakepath/automaton/NumberedStates" "bits" "[[J" .null) (P2 : Fld Z h0 ob "com/example/wakepath/wakepath/automaton/NumberedStates" "firstNumber" "[[I" .null) (P3 : Arv Z h0 fi kf .int (3 : Int32) [(.int n0_), (.int n1_), (.int n2_)] (.int (0 : Int32))) (P4 : Arv Z h0 ls kl .int (2 : Int32) [(.int la), (.int lb)] (.int (0 : Int32))) (gob : n0 ≤ ob) (nof : fi ≠ ob) (nol : ls ≠ ob) (hd1 : ¬ n1_ = n0_) (hd2 : ¬ n2_ = n1_) (hla : 0 ≤ la.toInt ∧ la.toInt ≤ 255) (hlb : 0 ≤ lb.toInt ∧ lb.toInt ≤ 255) :
    MetFree l (⟨"com/example/wakepath/wakepath/automaton/NumberedStates", "<init>", "([I[I)V"⟩ : MethodName) (head1 (Jvm.Cond.code (⟨"com/example/wakepath/wakepath/automaton/NumberedStates", "<init>", "([I[I)V"⟩ : MethodName) prog_15_method_1_code 6 none :: ws) ({ frames := 1, cells := 6, slots := 20, locals := 12 } : Room)) (fun a U => a = #[(.ref ob), (.ref fi), (.ref ls)] ∧ Z.Warmed39 U.vm ∧ U.heap = h0) (fun _ _ _ _ _ => True) (fun _ U o U' => ∃ v L, o = .returned v ∧ Q_init Z ob fi ls n0_ n1_ n2_ la lb kf kl h0 n0 v U'.heap L ∧ FrameEnd U o U' L ({ frames := 1, cells := 6, slots := 20, locals := 12 } : Room).cells ({ frames := 1, cells := 6, slots := 20, locals := 12 } : Room).slots) := by
  refine MetFree.of_bodySF (plainFor_of_name pn_1) hisR ?_
  intro p e s m args below meth c s₁ Bd hml0 hP hK
  obtain ⟨rfl, hZ, hh⟩ := hP
  have hx := Bd.exec
  have hby := Bd.bytes
  have hml : c.maxLocals = 6 := hml0
  have hown : s.vm.findClass "com/example/wakepath/wakepath/automaton/NumberedStates" = some m.cls := findClass_of_methodNamed Bd.named
  have hnm := (name_of_methodNamed Bd.named Bd.method).1
  have hlk := BodyLoose.notSynchronized Bd
  have X0 : Stand p l e ({ frames := 1, cells := 6, slots := 20, locals := 12 } : Room) s m #[(.ref ob), (.ref fi), (.ref ls)] below meth c s₁ [] 0 0 := Stand.of_body Bd
  have e0 : s₁.heap = h0 := by rw [← hh, Bd.state]; rfl
  have N0 := Fr.nil n0
  refine Go.start (P := fun o U' => ∃ v L, o = .returned v ∧ Q_init Z ob fi ls n0_ n1_ n2_ la lb kf kl h0 n0 v U'.heap L ∧ FrameEnd s o U' L ({ frames := 1, cells := 6, slots := 20, locals := 12 } : Room).cells ({ frames := 1, cells := 6, slots := 20, locals := 12 } : Room).slots) (ef_init m ob fi ls) ?_
  show Go p e below _ (s₁.setTop (mkF m 0 #[.val (.ref ob), .val (.ref fi), .val (.ref ls), .unset, .unset, .unset] []))
  refine Go.by (fun t k => XS.aloadN X0.here hx rfl (hb hby d1_0) rfl rfl k) ?_
  show Go p e below _ (s₁.setTop (mkF m 1 #[.val (.ref ob), .val (.ref fi), .val (.ref ls), .unset, .unset, .unset] [(.ref ob)]))
  obtain ⟨T1, X1, e1, st1⟩ := initO X0 hx hZ hown (hw _ (List.mem_of_getElem? (i := 7) rfl)) (hw _ (List.mem_of_getElem? (i := 8) rfl)) (hw _ (List.mem_of_getElem? (i := 9) rfl)) e0 (g := (mkF m 1 #[.val (.ref ob), .val (.ref fi), .val (.ref ls), .unset, .unset, .unset] [(.ref ob)])) rfl (by rw [hml]; rfl) rfl (hb hby d1_1) (by decide) (W := 0) (by show 2 * 0 + _ ≤ _; exact Nat.le_of_eq rfl) (by decide)
  refine Go.by st1 ?_
  show Go p e below _ (T1.setTop (mkF m 4 #[.val (.ref ob), .val (.ref fi), .val (.ref ls), .unset, .unset, .unset] []))
  refine Go.by (fun t k => XS.aloadN X1.here hx rfl (hb hby d1_4) rfl rfl k) ?_
  show Go p e below _ (T1.setTop (mkF m 5 #[.val (.ref ob), .val (.ref fi), .val (.ref ls), .unset, .unset, .unset] [(.ref fi)]))
  obtain ⟨cl2, Ar2, qk2, sz2, nn2, Ha2, Gf2⟩ := id P3
  have hl2 : cl2.slots.size.toInt32 = (3 : Int32) := len_of sz2 nn2
  refine Go.by (fun t k => X1.arraylength hx (by rw [e1]; exact Ar2.1) (State.isArrayOf_alike hZ.alike Ar2.2.1) (g := (mkF m 5 #[.val (.ref ob), .val (.ref fi), .val (.ref ls), .unset, .unset, .unset] [(.ref fi)])) rfl rfl (hb hby d1_5) t (by rw [hl2]; exact k)) ?_
  show Go p e below _ (T1.setTop (mkF m 6 #[.val (.ref ob), .val (.ref fi), .val (.ref ls), .unset, .unset, .unset] [(.int (3 : Int32))]))
  refine Go.by (fun t k => XS.iconst X1.here hx rfl (hb hby d1_6) k) ?_
  show Go p e below _ (T1.setTop (mkF m 7 #[.val (.ref ob), .val (.ref fi), .val (.ref ls), .unset, .unset, .unset] [(.int (1 : Int32)), (.int (3 : Int32))]))
  refine Go.by (fun t k => XS.isub X1.here hx rfl (hb hby d1_7) rfl k) ?_
  show Go p e below _ (T1.setTop (mkF m 8 #[.val (.ref ob), .val (.ref fi), .val (.ref ls), .unset, .unset, .unset] [(.int (2 : Int32))]))
  refine Go.by (fun t k => XS.istoreN X1.here hx rfl (hb hby d1_8) rfl (l' := #[.val (.ref ob), .val (.ref fi), .val (.ref ls), .val (.int (2 : Int32)), .unset, .unset]) rfl k) ?_
  show Go p e below _ (T1.setTop (mkF m 9 #[.val (.ref ob), .val (.ref fi), .val (.ref ls), .val (.int (2 : Int32)), .unset, .unset] []))
  refine Go.by (fun t k => XS.aloadN X1.here hx rfl (hb hby d1_9) rfl rfl k) ?_
  show Go p e below _ (T1.setTop (mkF m 10 #[.val (.ref ob), .val (.ref fi), .val (.ref ls), .val (.int (2 : Int32)), .unset, .unset] [(.ref ob)]))
  refine Go.by (fun t k => XS.iloadN X1.here hx rfl (hb hby d1_10) rfl k) ?_
  show Go p e below _ (T1.setTop (mkF m 11 #[.val (.ref ob), .val (.ref fi), .val (.ref ls), .val (.int (2 : Int32)), .unset, .unset] [(.int (2 : Int32)), (.ref ob)]))
  obtain ⟨T3, h3, k3, X3, e3, E3, A3, Q3, O3, st3⟩ := newRA X1 hx hZ (ty := .long) hown (by decide) (hw _ (List.mem_of_getElem? (i := 10) rfl)) (hw _ (List.mem_of_getElem? (i := 11) rfl)) e1 (g := (mkF m 11 #[.val (.ref ob), .val (.ref fi), .val (.ref ls), .val (.int (2 : Int32)), .unset, .unset] [(.int (2 : Int32)), (.ref ob)])) rfl (hb hby d1_11) rfl (by decide) (cap := 2) (by decide) (by decide) (by decide) (by decide) (ad := "[[J") (by decide)
  obtain ⟨b3, g3⟩ : ∃ z, z = h0.size := ⟨_, rfl⟩
  rw [← g3] at A3 Q3 st3
  have gl3 : h0.size ≤ b3 := Nat.le_of_eq g3.symm
  have ge3 : n0 ≤ b3 := Nat.le_trans (own_old_size O0) gl3
  have sz3 : h0.size ≤ b3 := Nat.le_trans (Keep.refl h0 [ob]).1 gl3
  have ne4 : ob ≠ b3 := Nat.ne_of_lt (Nat.lt_of_lt_of_le P0.lt gl3)
  have ne5 : fi ≠ b3 := Nat.ne_of_lt (Nat.lt_of_lt_of_le P3.lt gl3)
  have ne6 : ls ≠ b3 := Nat.ne_of_lt (Nat.lt_of_lt_of_le P4.lt gl3)
  have F7 : Arv Z h3 b3 k3 (.array .long) (2 : Int32) [.null, .null] .null := (Arv.new A3 (by decide)).pad (pad_rep [] .null 2)
  refine Go.by st3 ?_
  show Go p e below _ (T3.setTop (mkF m 14 #[.val (.ref ob), .val (.ref fi), .val (.ref ls), .val (.int (2 : Int32)), .unset, .unset] [(.ref b3), (.ref ob)]))
  have F8 : Fld Z h3 ob "com/example/wakepath/wakepath/automaton/NumberedStates" "bits" "[[J" .null := (P1.ext E3)
  have F9 : Exa Z h3 ob "com/example/wakepath/wakepath/automaton/NumberedStates" := (P0.ext E3)
  obtain ⟨T10, h10, X10, e10, W10, st10⟩ := putF X3 hx hZ hown (host := "") (Or.inl (hw _ (List.mem_of_getElem? (i := 12) rfl))) Via.refl e3 F8 F9 (Or.inr ⟨(hw _ (List.mem_of_getElem? (i := 13) rfl)), rfl, hnm⟩) (hw _ (List.mem_of_getElem? (i := 2) rfl)) (ty := (.array (.array .long))) (by decide) rfl rfl (g := (mkF m 14 #[.val (.ref ob), .val (.ref fi), .val (.ref ls), .val (.int (2 : Int32)), .unset, .unset] [(.ref b3), (.ref ob)])) rfl rfl (hb hby d1_14)
  have N10 := Fr.snoc X10 N0 gob
  have F11 : Fld Z h10 ob "com/example/wakepath/wakepath/automaton/NumberedStates" "bits" "[[J" (.ref b3) := F8.same W10
  refine Go.by st10 ?_
  show Go p e below _ (T10.setTop (mkF m 17 #[.val (.ref ob), .val (.ref fi), .val (.ref ls), .val (.int (2 : Int32)), .unset, .unset] []))
  refine Go.by (fun t k => XS.aloadN X10.here hx rfl (hb hby d1_17) rfl rfl k) ?_
  show Go p e below _ (T10.setTop (mkF m 18 #[.val (.ref ob), .val (.ref fi), .val (.ref ls), .val (.int (2 : Int32)), .unset, .unset] [(.ref ob)]))
  refine Go.by (fun t k => XS.iloadN X10.here hx rfl (hb hby d1_18) rfl k) ?_
  show Go p e below _ (T10.setTop (mkF m 19 #[.val (.ref ob), .val (.ref fi), .val (.ref ls), .val (.int (2 : Int32)), .unset, .unset] [(.int (2 : Int32)), (.ref ob)]))
  have F12 : Exa Z h10 ob "com/example/wakepath/wakepath/automaton/NumberedStates" := (F9.wr W10)
  have F13 : Arv Z h10 fi kf .int (3 : Int32) [(.int n0_), (.int n1_), (.int n2_)] (.int (0 : Int32)) := ((P3.ext E3).other W10 nof)
  have F14 : Arv Z h10 ls kl .int (2 : Int32) [(.int la), (.int lb)] (.int (0 : Int32)) := ((P4.ext E3).other W10 nol)
  have F15 : Exa Z h10 b3 "[[J" := (Q3.wr W10)
  have F16 : Old Z n0 h10 := ((O0.ext E3).wr W10 gob)
  have F17 : Keep h0 h10 [ob] := (((Keep.refl h0 [ob]).ext E3).wr W10 (Or.inl (List.mem_of_getElem? (i := 0) rfl)))
  obtain ⟨T18, h18, k18, X18, e18, E18, A18, Q18, O18, st18⟩ := newRA X10 hx hZ (ty := .int) hown (by decide) (hw _ (List.mem_of_getElem? (i := 14) rfl)) (hw _ (List.mem_of_getElem? (i := 15) rfl)) e10 (g := (mkF m 19 #[.val (.ref ob), .val (.ref fi), .val (.ref ls), .val (.int (2 : Int32)), .unset, .unset] [(.int (2 : Int32)), (.ref ob)])) rfl (hb hby d1_19) rfl (by decide) (cap := 2) (by decide) (by decide) (by decide) (by decide) (ad := "[[I") (by decide)
  obtain ⟨b18, g18⟩ : ∃ z, z = h10.size := ⟨_, rfl⟩
  rw [← g18] at A18 Q18 st18
  have gl18 : h10.size ≤ b18 := Nat.le_of_eq g18.symm
  have ge18 : n0 ≤ b18 := Nat.le_trans (own_old_size F16) gl18
  have sz18 : h0.size ≤ b18 := Nat.le_trans F17.1 gl18
  have ne19 : ob ≠ b18 := Nat.ne_of_lt (Nat.lt_of_lt_of_le F12.lt gl18)
  have ne20 : fi ≠ b18 := Nat.ne_of_lt (Nat.lt_of_lt_of_le F13.lt gl18)
  have ne21 : ls ≠ b18 := Nat.ne_of_lt (Nat.lt_of_lt_of_le F14.lt gl18)
  have ne22 : b3 ≠ b18 := Nat.ne_of_lt (Nat.lt_of_lt_of_le F15.lt gl18)
  have F23 : Arv Z h18 b18 k18 (.array .int) (2 : Int32) [.null, .null] .null := (Arv.new A18 (by decide)).pad (pad_rep [] .null 2)
  refine Go.by st18 ?_
  show Go p e below _ (T18.setTop (mkF m 22 #[.val (.ref ob), .val (.ref fi), .val (.ref ls), .val (.int (2 : Int32)), .unset, .unset] [(.ref b18), (.ref ob)]))
  have F24 : Fld Z h18 ob "com/example/wakepath/wakepath/automaton/NumberedStates" "firstNumber" "[[I" .null := (((P2.ext E3).other W10 (Or.inr (slot_ne (Or.inr (hw _ (List.mem_of_getElem? (i := 17) rfl))) (Or.inr (hw _ (List.mem_of_getElem? (i := 13) rfl))) (by decide) (t := (.array (.array .int))) (t' := (.array (.array .long))) (by decide) (by decide)))).ext E18)
  have F25 : Exa Z h18 ob "com/example/wakepath/wakepath/automaton/NumberedStates" := (F12.ext E18)
  obtain ⟨T26, h26, X26, e26, W26, st26⟩ := putF X18 hx hZ hown (host := "") (Or.inl (hw _ (List.mem_of_getElem? (i := 16) rfl))) Via.refl e18 F24 F25 (Or.inr ⟨(hw _ (List.mem_of_getElem? (i := 17) rfl)), rfl, hnm⟩) (hw _ (List.mem_of_getElem? (i := 2) rfl)) (ty := (.array (.array .int))) (by decide) rfl rfl (g := (mkF m 22 #[.val (.ref ob), .val (.ref fi), .val (.ref ls), .val (.int (2 : Int32)), .unset, .unset] [(.ref b18), (.ref ob)])) rfl rfl (hb hby d1_22)
  have N26 := Fr.snoc X26 N10 gob
  have F27 : Fld Z h26 ob "com/example/wakepath/wakepath/automaton/NumberedStates" "firstNumber" "[[I" (.ref b18) := F24.same W26
  refine Go.by st26 ?_
  show Go p e below _ (T26.setTop (mkF m 25 #[.val (.ref ob), .val (.ref fi), .val (.ref ls), .val (.int (2 : Int32)), .unset, .unset] []))
  refine Go.by (fun t k => XS.iconst X26.here hx rfl (hb hby d1_25) k) ?_
  show Go p e below _ (T26.setTop (mkF m 26 #[.val (.ref ob), .val (.ref fi), .val (.ref ls), .val (.int (2 : Int32)), .unset, .unset] [(.int (0 : Int32))]))
  refine Go.by (fun t k => XS.istore X26.here hx rfl (hb hby d1_26) rfl (l' := #[.val (.ref ob), .val (.ref fi), .val (.ref ls), .val (.int (2 : Int32)), .val (.int (0 : Int32)), .unset]) rfl k) ?_
  show Go p e below _ (T26.setTop (mkF m 28 #[.val (.ref ob), .val (.ref fi), .val (.ref ls), .val (.int (2 : Int32)), .val (.int (0 : Int32)), .unset] []))
  refine Go.by (fun t k => XS.iload X26.here hx rfl (hb hby d1_28) rfl k) ?_
  show Go p e below _ (T26.setTop (mkF m 30 #[.val (.ref ob), .val (.ref fi), .val (.ref ls), .val (.int (2 : Int32)), .val (.int (0 : Int32)), .unset] [(.int (0 : Int32))]))
  refine Go.by (fun t k => XS.iloadN X26.here hx rfl (hb hby d1_30) rfl k) ?_
  show Go p e below _ (T26.setTop (mkF m 31 #[.val (.ref ob), .val (.ref fi), .val (.ref ls), .val (.int (2 : Int32)), .val (.int (0 : Int32)), .unset] [(.int (2 : Int32)), (.int (0 : Int32))]))
  refine Go.by (fun t k => XS.icmpNo X26.here hx rfl (hb hby d1_31) rfl (tlt (by decide : (0 : Int32) < (2 : Int32))).2.1 k) ?_
  show Go p e below _ (T26.setTop (mkF m 34 #[.val (.ref ob), .val (.ref fi), .val (.ref ls), .val (.int (2 : Int32)), .val (.int (0 : Int32)), .unset] []))
  refine Go.by (fun t k => XS.aloadN X26.here hx rfl (hb hby d1_34) rfl rfl k) ?_
  show Go p e below _ (T26.setTop (mkF m 35 #[.val (.ref ob), .val (.ref fi), .val (.ref ls), .val (.int (2 : Int32)), .val (.int (0 : Int32)), .unset] [(.ref fi)]))
  refine Go.by (fun t k => XS.iload X26.here hx rfl (hb hby d1_35) rfl k) ?_
  show Go p e below _ (T26.setTop (mkF m 37 #[.val (.ref ob), .val (.ref fi), .val (.ref ls), .val (.int (2 : Int32)), .val (.int (0 : Int32)), .unset] [(.int (0 : Int32)), (.ref fi)]))
  refine Go.by (fun t k => XS.iconst X26.here hx rfl (hb hby d1_37) k) ?_
  show Go p e below _ (T26.setTop (mkF m 38 #[.val (.ref ob), .val (.ref fi), .val (.ref ls), .val (.int (2 : Int32)), .val (.int (0 : Int32)), .unset] [(.int (1 : Int32)), (.int (0 : Int32)), (.ref fi)]))
  refine Go.by (fun t k => XS.iadd X26.here hx rfl (hb hby d1_38) rfl k) ?_
  show Go p e below _ (T26.setTop (mkF m 39 #[.val (.ref ob), .val (.ref fi), .val (.ref ls), .val (.int (2 : Int32)), .val (.int (0 : Int32)), .unset] [(.int (1 : Int32)), (.ref fi)]))
  have F28 : Arv Z h26 fi kf .int (3 : Int32) [(.int n0_), (.int n1_), (.int n2_)] (.int (0 : Int32)) := ((F13.ext E18).other W26 nof)
  obtain ⟨cl29, Ar29, qk29, sz29, nn29, Ha29, Gf29⟩ := id F28
  have hin30 : ¬ ((1 : Int32) < 0 ∨ cl29.slots.size ≤ ((1 : Int32)).toNatClampNeg) := inb_of sz29 ⟨by decide, by decide⟩
  have hat31 : cl29.slots[((1 : Int32)).toNatClampNeg]? = some (.int n1_) := Has.at Ha29 hin30 rfl
  refine Go.by (fun t k => X26.iaload hx (j := (1 : Int32)) (v := (.int n1_)) (by rw [e26]; exact Ar29.1) (State.isArrayOf_alike hZ.alike Ar29.2.1) Ar29.2.2 hin30 hat31 (g := (mkF m 39 #[.val (.ref ob), .val (.ref fi), .val (.ref ls), .val (.int (2 : Int32)), .val (.int (0 : Int32)), .unset] [(.int (1 : Int32)), (.ref fi)])) rfl rfl (hb hby d1_39) t k) ?_
  show Go p e below _ (T26.setTop (mkF m 40 #[.val (.ref ob), .val (.ref fi), .val (.ref ls), .val (.int (2 : Int32)), .val (.int (0 : Int32)), .unset] [(.int n1_)]))
  refine Go.by (fun t k => XS.aloadN X26.here hx rfl (hb hby d1_40) rfl rfl k) ?_
  show Go p e below _ (T26.setTop (mkF m 41 #[.val (.ref ob), .val (.ref fi), .val (.ref ls), .val (.int (2 : Int32)), .val (.int (0 : Int32)), .unset] [(.ref fi), (.int n1_)]))
  refine Go.by (fun t k => XS.iload X26.here hx rfl (hb hby d1_41) rfl k) ?_
  show Go p e below _ (T26.setTop (mkF m 43 #[.val (.ref ob), .val (.ref fi), .val (.ref ls), .val (.int (2 : Int32)), .val (.int (0 : Int32)), .unset] [(.int (0 : Int32)), (.ref fi), (.int n1_)]))
  obtain ⟨cl32, Ar32, qk32, sz32, nn32, Ha32, Gf32⟩ := id F28
  have hin33 : ¬ ((0 : Int32) < 0 ∨ cl32.slots.size ≤ ((0 : Int32)).toNatClampNeg) := inb_of sz32 ⟨by decide, by decide⟩
  have hat34 : cl32.slots[((0 : Int32)).toNatClampNeg]? = some (.int n0_) := Has.at Ha32 hin33 rfl
  refine Go.by (fun t k => X26.iaload hx (j := (0 : Int32)) (v := (.int n0_)) (by rw [e26]; exact Ar32.1) (State.isArrayOf_alike hZ.alike Ar32.2.1) Ar32.2.2 hin33 hat34 (g := (mkF m 43 #[.val (.ref ob), .val (.ref fi), .val (.ref ls), .val (.int (2 : Int32)), .val (.int (0 : Int32)), .unset] [(.int (0 : Int32)), (.ref fi), (.int n1_)])) rfl rfl (hb hby d1_43) t k) ?_
  show Go p e below _ (T26.setTop (mkF m 44 #[.val (.ref ob), .val (.ref fi), .val (.ref ls), .val (.int (2 : Int32)), .val (.int (0 : Int32)), .unset] [(.int n0_), (.int n1_)]))
  refine Go.by (fun t k => XS.icmpYes X26.here hx rfl (pc0 := 44) (pc' := 51) rfl (hb hby d1_44) rfl (feq hd1).2 (by decide) (by decide) k) ?_
  show Go p e below _ (T26.setTop (mkF m 51 #[.val (.ref ob), .val (.ref fi), .val (.ref ls), .val (.int (2 : Int32)), .val (.int (0 : Int32)), .unset] []))
  refine Go.by (fun t k => XS.aloadN X26.here hx rfl (hb hby d1_51) rfl rfl k) ?_
  show Go p e below _ (T26.setTop (mkF m 52 #[.val (.ref ob), .val (.ref fi), .val (.ref ls), .val (.int (2 : Int32)), .val (.int (0 : Int32)), .unset] [(.ref ls)]))
  refine Go.by (fun t k => XS.iload X26.here hx rfl (hb hby d1_52) rfl k) ?_
  show Go p e below _ (T26.setTop (mkF m 54 #[.val (.ref ob), .val (.ref fi), .val (.ref ls), .val (.int (2 : Int32)), .val (.int (0 : Int32)), .unset] [(.int (0 : Int32)), (.ref ls)]))
  have F35 : Arv Z h26 ls kl .int (2 : Int32) [(.int la), (.int lb)] (.int (0 : Int32)) := ((F14.ext E18).other W26 nol)
  obtain ⟨cl36, Ar36, qk36, sz36, nn36, Ha36, Gf36⟩ := id F35
  have hin37 : ¬ ((0 : Int32) < 0 ∨ cl36.slots.size ≤ ((0 : Int32)).toNatClampNeg) := inb_of sz36 ⟨by decide, by decide⟩
  have hat38 : cl36.slots[((0 : Int32)).toNatClampNeg]? = some (.int la) := Has.at Ha36 hin37 rfl
  refine Go.by (fun t k => X26.iaload hx (j := (0 : Int32)) (v := (.int la)) (by rw [e26]; exact Ar36.1) (State.isArrayOf_alike hZ.alike Ar36.2.1) Ar36.2.2 hin37 hat38 (g := (mkF m 54 #[.val (.ref ob), .val (.ref fi), .val (.ref ls), .val (.int (2 : Int32)), .val (.int (0 : Int32)), .unset] [(.int (0 : Int32)), (.ref ls)])) rfl rfl (hb hby d1_54) t k) ?_
  show Go p e below _ (T26.setTop (mkF m 55 #[.val (.ref ob), .val (.ref fi), .val (.ref ls), .val (.int (2 : Int32)), .val (.int (0 : Int32)), .unset] [(.int la)]))
  refine Go.by (fun t k => XS.bipush X26.here hx rfl (hb hby d1_55) k) ?_
  show Go p e below _ (T26.setTop (mkF m 57 #[.val (.ref ob), .val (.ref fi), .val (.ref ls), .val (.int (2 : Int32)), .val (.int (0 : Int32)), .unset] [(.int (6 : Int32)), (.int la)]))
  refine Go.by (fun t k => XS.iushr X26.here hx rfl (hb hby d1_57) rfl k) ?_
  show Go p e below _ (T26.setTop (mkF m 58 #[.val (.ref ob), .val (.ref fi), .val (.ref ls), .val (.int (2 : Int32)), .val (.int (0 : Int32)), .unset] [(.int ((la.toUInt32 >>> ((6 : Int32) &&& 31).toUInt32).toInt32))]))
  refine Go.by (fun t k => XS.iconst X26.here hx rfl (hb hby d1_58) k) ?_
  show Go p e below _ (T26.setTop (mkF m 59 #[.val (.ref ob), .val (.ref fi), .val (.ref ls), .val (.int (2 : Int32)), .val (.int (0 : Int32)), .unset] [(.int (1 : Int32)), (.int ((la.toUInt32 >>> ((6 : Int32) &&& 31).toUInt32).toInt32))]))
  refine Go.by (fun t k => XS.iadd X26.here hx rfl (hb hby d1_59) rfl k) ?_
  show Go p e below _ (T26.setTop (mkF m 60 #[.val (.ref ob), .val (.ref fi), .val (.ref ls), .val (.int (2 : Int32)), .val (.int (0 : Int32)), .unset] [(.int (((la.toUInt32 >>> ((6 : Int32) &&& 31).toUInt32).toInt32) + (1 : Int32)))]))
  refine Go.by (fun t k => XS.istore X26.here hx rfl (hb hby d1_60) rfl (l' := #[.val (.ref ob), .val (.ref fi), .val (.ref ls), .val (.int (2 : Int32)), .val (.int (0 : Int32)), .val (.int (((la.toUInt32 >>> ((6 : Int32) &&& 31).toUInt32).toInt32) + (1 : Int32)))]) rfl k) ?_
  show Go p e below _ (T26.setTop (mkF m 62 #[.val (.ref ob), .val (.ref fi), .val (.ref ls), .val (.int (2 : Int32)), .val (.int (0 : Int32)), .val (.int (((la.toUInt32 >>> ((6 : Int32) &&& 31).toUInt32).toInt32) + (1 : Int32)))] []))
  refine Go.by (fun t k => XS.aloadN X26.here hx rfl (hb hby d1_62) rfl rfl k) ?_
  show Go p e below _ (T26.setTop (mkF m 63 #[.val (.ref ob), .val (.ref fi), .val (.ref ls), .val (.int (2 : Int32)), .val (.int (0 : Int32)), .val (.int (((la.toUInt32 >>> ((6 : Int32) &&& 31).toUInt32).toInt32) + (1 : Int32)))] [(.ref ob)]))
  have F39 : Fld Z h26 ob "com/example/wakepath/wakepath/automaton/NumberedStates" "bits" "[[J" (.ref b3) := ((F11.ext E18).other W26 (Or.inr (slot_ne (Or.inr (hw _ (List.mem_of_getElem? (i := 13) rfl))) (Or.inr (hw _ (List.mem_of_getElem? (i := 17) rfl))) (by decide) (t := (.array (.array .long))) (t' := (.array (.array .int))) (by decide) (by decide))))
  obtain ⟨T40, X40, e40, st40⟩ := getF X26 hx hZ hown (host := "") (Or.inl (hw _ (List.mem_of_getElem? (i := 12) rfl))) Via.refl e26 F39 (g := (mkF m 63 #[.val (.ref ob), .val (.ref fi), .val (.ref ls), .val (.int (2 : Int32)), .val (.int (0 : Int32)), .val (.int (((la.toUInt32 >>> ((6 : Int32) &&& 31).toUInt32).toInt32) + (1 : Int32)))] [(.ref ob)])) rfl rfl (hb hby d1_63)
  refine Go.by st40 ?_
  show Go p e below _ (T40.setTop (mkF m 66 #[.val (.ref ob), .val (.ref fi), .val (.ref ls), .val (.int (2 : Int32)), .val (.int (0 : Int32)), .val (.int (((la.toUInt32 >>> ((6 : Int32) &&& 31).toUInt32).toInt32) + (1 : Int32)))] [(.ref b3)]))
  refine Go.by (fun t k => XS.iload X40.here hx rfl (hb hby d1_66) rfl k) ?_
  show Go p e below _ (T40.setTop (mkF m 68 #[.val (.ref ob), .val (.ref fi), .val (.ref ls), .val (.int (2 : Int32)), .val (.int (0 : Int32)), .val (.int (((la.toUInt32 >>> ((6 : Int32) &&& 31).toUInt32).toInt32) + (1 : Int32)))] [(.int (0 : Int32)), (.ref b3)]))
  refine Go.by (fun t k => XS.iload X40.here hx rfl (hb hby d1_68) rfl k) ?_
  show Go p e below _ (T40.setTop (mkF m 70 #[.val (.ref ob), .val (.ref fi), .val (.ref ls), .val (.int (2 : Int32)), .val (.int (0 : Int32)), .val (.int (((la.toUInt32 >>> ((6 : Int32) &&& 31).toUInt32).toInt32) + (1 : Int32)))] [(.int (((la.toUInt32 >>> ((6 : Int32) &&& 31).toUInt32).toInt32) + (1 : Int32))), (.int (0 : Int32)), (.ref b3)]))
  have F41 : Exa Z h26 ob "com/example/wakepath/wakepath/automaton/NumberedStates" := (F25.wr W26)
  have F42 : Exa Z h26 b3 "[[J" := ((F15.ext E18).wr W26)
  have F43 : Exa Z h26 b18 "[[I" := (Q18.wr W26)
  have F44 : Old Z n0 h26 := ((F16.ext E18).wr W26 gob)
  have F45 : Keep h0 h26 [ob] := ((F17.ext E18).wr W26 (Or.inl (List.mem_of_getElem? (i := 0) rfl)))
  obtain ⟨T46, h46, k46, X46, e46, E46, A46, Q46, st46⟩ := newPE X40 hx hZ (hw _ (List.mem_of_getElem? (i := 18) rfl)) e40 (g := (mkF m 70 #[.val (.ref ob), .val (.ref fi), .val (.ref ls), .val (.int (2 : Int32)), .val (.int (0 : Int32)), .val (.int (((la.toUInt32 >>> ((6 : Int32) &&& 31).toUInt32).toInt32) + (1 : Int32)))] [(.int (((la.toUInt32 >>> ((6 : Int32) &&& 31).toUInt32).toInt32) + (1 : Int32))), (.int (0 : Int32)), (.ref b3)])) rfl (hb hby d1_70) rfl (own_wd hla).1 (cap := 4) (own_wd hla).2 (by decide) (by decide) (by decide) (ad := "[J") (by decide)
  obtain ⟨b46, g46⟩ : ∃ z, z = h26.size := ⟨_, rfl⟩
  rw [← g46] at A46 Q46 st46
  have gl46 : h26.size ≤ b46 := Nat.le_of_eq g46.symm
  have ge46 : n0 ≤ b46 := Nat.le_trans (own_old_size F44) gl46
  have sz46 : h0.size ≤ b46 := Nat.le_trans F45.1 gl46
  have ne47 : ob ≠ b46 := Nat.ne_of_lt (Nat.lt_of_lt_of_le F41.lt gl46)
  have ne48 : fi ≠ b46 := Nat.ne_of_lt (Nat.lt_of_lt_of_le F28.lt gl46)
  have ne49 : ls ≠ b46 := Nat.ne_of_lt (Nat.lt_of_lt_of_le F35.lt gl46)
  have ne50 : b3 ≠ b46 := Nat.ne_of_lt (Nat.lt_of_lt_of_le F42.lt gl46)
  have ne51 : b18 ≠ b46 := Nat.ne_of_lt (Nat.lt_of_lt_of_le F43.lt gl46)
  have F52 : own_La Z h46 b46 (((la.toUInt32 >>> ((6 : Int32) &&& 31).toUInt32).toInt32) + (1 : Int32)) (fun _ => (0 : Int64)) := own_La.new A46 (own_wd hla).1
  refine Go.by st46 ?_
  show Go p e below _ (T46.setTop (mkF m 72 #[.val (.ref ob), .val (.ref fi), .val (.ref ls), .val (.int (2 : Int32)), .val (.int (0 : Int32)), .val (.int (((la.toUInt32 >>> ((6 : Int32) &&& 31).toUInt32).toInt32) + (1 : Int32)))] [(.ref b46), (.int (0 : Int32)), (.ref b3)]))
  have F53 : Arv Z h46 b3 k3 (.array .long) (2 : Int32) [.null, .null] .null := ((((F7.other W10 (Ne.symm ne4)).ext E18).other W26 (Ne.symm ne4)).ext E46)
  obtain ⟨cl54, Ar54, qk54, sz54, nn54, Ha54, Gf54⟩ := id F53
  have hin55 : ¬ ((0 : Int32) < 0 ∨ cl54.slots.size ≤ ((0 : Int32)).toNatClampNeg) := inb_of sz54 ⟨by decide, by decide⟩
  obtain ⟨T56, h56, X56, e56, W56, st56⟩ := stR X46 hx hZ e46 Ar54 (j := (0 : Int32)) hin55 rfl (Sto.ofVA Ar54 qk54 O3 (Ins.self Q46)) (g := (mkF m 72 #[.val (.ref ob), .val (.ref fi), .val (.ref ls), .val (.int (2 : Int32)), .val (.int (0 : Int32)), .val (.int (((la.toUInt32 >>> ((6 : Int32) &&& 31).toUInt32).toInt32) + (1 : Int32)))] [(.ref b46), (.int (0 : Int32)), (.ref b3)])) rfl rfl (hb hby d1_72)
  have N56 := Fr.snoc X56 N26 ge3
  have F57 : Arv Z h56 b3 k3 (.array .long) (2 : Int32) [(.ref b46), .null] .null := Arv.set Ar54 qk54 sz54 nn54 Ha54 Gf54 rfl W56 0 rfl (Nat.le_of_ble_eq_true rfl)
  refine Go.by st56 ?_
  show Go p e below _ (T56.setTop (mkF m 73 #[.val (.ref ob), .val (.ref fi), .val (.ref ls), .val (.int (2 : Int32)), .val (.int (0 : Int32)), .val (.int (((la.toUInt32 >>> ((6 : Int32) &&& 31).toUInt32).toInt32) + (1 : Int32)))] []))
  refine Go.by (fun t k => XS.aloadN X56.here hx rfl (hb hby d1_73) rfl rfl k) ?_
  show Go p e below _ (T56.setTop (mkF m 74 #[.val (.ref ob), .val (.ref fi), .val (.ref ls), .val (.int (2 : Int32)), .val (.int (0 : Int32)), .val (.int (((la.toUInt32 >>> ((6 : Int32) &&& 31).toUInt32).toInt32) + (1 : Int32)))] [(.ref ob)]))
  have F58 : Fld Z h56 ob "com/example/wakepath/wakepath/automaton/NumberedStates" "firstNumber" "[[I" (.ref b18) := ((F27.ext E46).other W56 (Or.inl ne4))
  obtain ⟨T59, X59, e59, st59⟩ := getF X56 hx hZ hown (host := "") (Or.inl (hw _ (List.mem_of_getElem? (i := 16) rfl))) Via.refl e56 F58 (g := (mkF m 74 #[.val (.ref ob), .val (.ref fi), .val (.ref ls), .val (.int (2 : Int32)), .val (.int (0 : Int32)), .val (.int (((la.toUInt32 >>> ((6 : Int32) &&& 31).toUInt32).toInt32) + (1 : Int32)))] [(.ref ob)])) rfl rfl (hb hby d1_74)
  refine Go.by st59 ?_
  show Go p e below _ (T59.setTop (mkF m 77 #[.val (.ref ob), .val (.ref fi), .val (.ref ls), .val (.int (2 : Int32)), .val (.int (0 : Int32)), .val (.int (((la.toUInt32 >>> ((6 : Int32) &&& 31).toUInt32).toInt32) + (1 : Int32)))] [(.ref b18)]))
  refine Go.by (fun t k => XS.iload X59.here hx rfl (hb hby d1_77) rfl k) ?_
  show Go p e below _ (T59.setTop (mkF m 79 #[.val (.ref ob), .val (.ref fi), .val (.ref ls), .val (.int (2 : Int32)), .val (.int (0 : Int32)), .val (.int (((la.toUInt32 >>> ((6 : Int32) &&& 31).toUInt32).toInt32) + (1 : Int32)))] [(.int (0 : Int32)), (.ref b18)]))
  refine Go.by (fun t k => XS.iload X59.here hx rfl (hb hby d1_79) rfl k) ?_
  show Go p e below _ (T59.setTop (mkF m 81 #[.val (.ref ob), .val (.ref fi), .val (.ref ls), .val (.int (2 : Int32)), .val (.int (0 : Int32)), .val (.int (((la.toUInt32 >>> ((6 : Int32) &&& 31).toUInt32).toInt32) + (1 : Int32)))] [(.int (((la.toUInt32 >>> ((6 : Int32) &&& 31).toUInt32).toInt32) + (1 : Int32))), (.int (0 : Int32)), (.ref b18)]))
  have F60 : Exa Z h56 ob "com/example/wakepath/wakepath/automaton/NumberedStates" := ((F41.ext E46).wr W56)
  have F61 : Arv Z h56 fi kf .int (3 : Int32) [(.int n0_), (.int n1_), (.int n2_)] (.int (0 : Int32)) := ((F28.ext E46).other W56 ne5)
  have F62 : Arv Z h56 ls kl .int (2 : Int32) [(.int la), (.int lb)] (.int (0 : Int32)) := ((F35.ext E46).other W56 ne6)
  have F63 : Exa Z h56 b3 "[[J" := ((F42.ext E46).wr W56)
  have F64 : Exa Z h56 b18 "[[I" := ((F43.ext E46).wr W56)
  have F65 : Exa Z h56 b46 "[J" := (Q46.wr W56)
  have F66 : Old Z n0 h56 := ((F44.ext E46).wr W56 ge3)
  have F67 : Keep h0 h56 [ob] := ((F45.ext E46).wr W56 (Or.inr sz3))
  obtain ⟨T68, h68, k68, X68, e68, E68, A68, Q68, st68⟩ := newPE X59 hx hZ (hw _ (List.mem_of_getElem? (i := 0) rfl)) e59 (g := (mkF m 81 #[.val (.ref ob), .val (.ref fi), .val (.ref ls), .val (.int (2 : Int32)), .val (.int (0 : Int32)), .val (.int (((la.toUInt32 >>> ((6 : Int32) &&& 31).toUInt32).toInt32) + (1 : Int32)))] [(.int (((la.toUInt32 >>> ((6 : Int32) &&& 31).toUInt32).toInt32) + (1 : Int32))), (.int (0 : Int32)), (.ref b18)])) rfl (hb hby d1_81) rfl (own_wd hla).1 (cap := 4) (own_wd hla).2 (by decide) (by decide) (by decide) (ad := "[I") (by decide)
  obtain ⟨b68, g68⟩ : ∃ z, z = h56.size := ⟨_, rfl⟩
  rw [← g68] at A68 Q68 st68
  have gl68 : h56.size ≤ b68 := Nat.le_of_eq g68.symm
  have ge68 : n0 ≤ b68 := Nat.le_trans (own_old_size F66) gl68
  have sz68 : h0.size ≤ b68 := Nat.le_trans F67.1 gl68
  have ne69 : ob ≠ b68 := Nat.ne_of_lt (Nat.lt_of_lt_of_le F60.lt gl68)
  have ne70 : fi ≠ b68 := Nat.ne_of_lt (Nat.lt_of_lt_of_le F61.lt gl68)
  have ne71 : ls ≠ b68 := Nat.ne_of_lt (Nat.lt_of_lt_of_le F62.lt gl68)
  have ne72 : b3 ≠ b68 := Nat.ne_of_lt (Nat.lt_of_lt_of_le F63.lt gl68)
  have ne73 : b18 ≠ b68 := Nat.ne_of_lt (Nat.lt_of_lt_of_le F64.lt gl68)
  have ne74 : b46 ≠ b68 := Nat.ne_of_lt (Nat.lt_of_lt_of_le F65.lt gl68)
  have F75 : own_Ia Z h68 b68 (((la.toUInt32 >>> ((6 : Int32) &&& 31).toUInt32).toInt32) + (1 : Int32)) (fun _ => (0 : Int32)) := own_Ia.new A68 (own_wd hla).1
  refine Go.by st68 ?_
  show Go p e below _ (T68.setTop (mkF m 83 #[.val (.ref ob), .val (.ref fi), .val (.ref ls), .val (.int (2 : Int32)), .val (.int (0 : Int32)), .val (.int (((la.toUInt32 >>> ((6 : Int32) &&& 31).toUInt32).toInt32) + (1 : Int32)))] [(.ref b68), (.int (0 : Int32)), (.ref b18)]))
  have F76 : Arv Z h68 b18 k18 (.array .int) (2 : Int32) [.null, .null] .null := ((((F23.other W26 (Ne.symm ne19)).ext E46).other W56 (Ne.symm ne22)).ext E68)
  obtain ⟨cl77, Ar77, qk77, sz77, nn77, Ha77, Gf77⟩ := id F76
  have hin78 : ¬ ((0 : Int32) < 0 ∨ cl77.slots.size ≤ ((0 : Int32)).toNatClampNeg) := inb_of sz77 ⟨by decide, by decide⟩
  obtain ⟨T79, h79, X79, e79, W79, st79⟩ := stR X68 hx hZ e68 Ar77 (j := (0 : Int32)) hin78 rfl (Sto.ofVA Ar77 qk77 O18 (Ins.self Q68)) (g := (mkF m 83 #[.val (.ref ob), .val (.ref fi), .val (.ref ls), .val (.int (2 : Int32)), .val (.int (0 : Int32)), .val (.int (((la.toUInt32 >>> ((6 : Int32) &&& 31).toUInt32).toInt32) + (1 : Int32)))] [(.ref b68), (.int (0 : Int32)), (.ref b18)])) rfl rfl (hb hby d1_83)
  have N79 := Fr.snoc X79 N56 ge18
  have F80 : Arv Z h79 b18 k18 (.array .int) (2 : Int32) [(.ref b68), .null] .null := Arv.set Ar77 qk77 sz77 nn77 Ha77 Gf77 rfl W79 0 rfl (Nat.le_of_ble_eq_true rfl)
  refine Go.by st79 ?_
  show Go p e below _ (T79.setTop (mkF m 84 #[.val (.ref ob), .val (.ref fi), .val (.ref ls), .val (.int (2 : Int32)), .val (.int (0 : Int32)), .val (.int (((la.toUInt32 >>> ((6 : Int32) &&& 31).toUInt32).toInt32) + (1 : Int32)))] []))
  refine Go.by (fun t k => XS.iinc X79.here hx rfl (hb hby d1_84) rfl (l' := #[.val (.ref ob), .val (.ref fi), .val (.ref ls), .val (.int (2 : Int32)), .val (.int (1 : Int32)), .val (.int (((la.toUInt32 >>> ((6 : Int32) &&& 31).toUInt32).toInt32) + (1 : Int32)))]) rfl k) ?_
  show Go p e below _ (T79.setTop (mkF m 87 #[.val (.ref ob), .val (.ref fi), .val (.ref ls), .val (.int (2 : Int32)), .val (.int (1 : Int32)), .val (.int (((la.toUInt32 >>> ((6 : Int32) &&& 31).toUInt32).toInt32) + (1 : Int32)))] []))
  refine Go.by (fun t k => XS.goto X79.here hx rfl (pc0 := 87) (pc' := 28) rfl (hb hby d1_87) (by decide) (by decide) k) ?_
  show Go p e below _ (T79.setTop (mkF m 28 #[.val (.ref ob), .val (.ref fi), .val (.ref ls), .val (.int (2 : Int32)), .val (.int (1 : Int32)), .val (.int (((la.toUInt32 >>> ((6 : Int32) &&& 31).toUInt32).toInt32) + (1 : Int32)))] []))
  refine Go.by (fun t k => XS.iload X79.here hx rfl (hb hby d1_28) rfl k) ?_
  show Go p e below _ (T79.setTop (mkF m 30 #[.val (.ref ob), .val (.ref fi), .val (.ref ls), .val (.int (2 : Int32)), .val (.int (1 : Int32)), .val (.int (((la.toUInt32 >>> ((6 : Int32) &&& 31).toUInt32).toInt32) + (1 : Int32)))] [(.int (1 : Int32))]))
  refine Go.by (fun t k => XS.iloadN X79.here hx rfl (hb hby d1_30) rfl k) ?_
  show Go p e below _ (T79.setTop (mkF m 31 #[.val (.ref ob), .val (.ref fi), .val (.ref ls), .val (.int (2 : Int32)), .val (.int (1 : Int32)), .val (.int (((la.toUInt32 >>> ((6 : Int32) &&& 31).toUInt32).toInt32) + (1 : Int32)))] [(.int (2 : Int32)), (.int (1 : Int32))]))
  refine Go.by (fun t k => XS.icmpNo X79.here hx rfl (hb hby d1_31) rfl (tlt (by decide : (1 : Int32) < (2 : Int32))).2.1 k) ?_
  show Go p e below _ (T79.setTop (mkF m 34 #[.val (.ref ob), .val (.ref fi), .val (.ref ls), .val (.int (2 : Int32)), .val (.int (1 : Int32)), .val (.int (((la.toUInt32 >>> ((6 : Int32) &&& 31).toUInt32).toInt32) + (1 : Int32)))] []))
  refine Go.by (fun t k => XS.aloadN X79.here hx rfl (hb hby d1_34) rfl rfl k) ?_
  show Go p e below _ (T79.setTop (mkF m 35 #[.val (.ref ob), .val (.ref fi), .val (.ref ls), .val (.int (2 : Int32)), .val (.int (1 : Int32)), .val (.int (((la.toUInt32 >>> ((6 : Int32) &&& 31).toUInt32).toInt32) + (1 : Int32)))] [(.ref fi)]))
  refine Go.by (fun t k => XS.iload X79.here hx rfl (hb hby d1_35) rfl k) ?_
  show Go p e below _ (T79.setTop (mkF m 37 #[.val (.ref ob), .val (.ref fi), .val (.ref ls), .val (.int (2 : Int32)), .val (.int (1 : Int32)), .val (.int (((la.toUInt32 >>> ((6 : Int32) &&& 31).toUInt32).toInt32) + (1 : Int32)))] [(.int (1 : Int32)), (.ref fi)]))
  refine Go.by (fun t k => XS.iconst X79.here hx rfl (hb hby d1_37) k) ?_
  show Go p e below _ (T79.setTop (mkF m 38 #[.val (.ref ob), .val (.ref fi), .val (.ref ls), .val (.int (2 : Int32)), .val (.int (1 : Int32)), .val (.int (((la.toUInt32 >>> ((6 : Int32) &&& 31).toUInt32).toInt32) + (1 : Int32)))] [(.int (1 : Int32)), (.int (1 : Int32)), (.ref fi)]))
  refine Go.by (fun t k => XS.iadd X79.here hx rfl (hb hby d1_38) rfl k) ?_
  show Go p e below _ (T79.setTop (mkF m 39 #[.val (.ref ob), .val (.ref fi), .val (.ref ls), .val (.int (2 : Int32)), .val (.int (1 : Int32)), .val (.int (((la.toUInt32 >>> ((6 : Int32) &&& 31).toUInt32).toInt32) + (1 : Int32)))] [(.int (2 : Int32)), (.ref fi)]))
  have F81 : Arv Z h79 fi kf .int (3 : Int32) [(.int n0_), (.int n1_), (.int n2_)] (.int (0 : Int32)) := ((F61.ext E68).other W79 ne20)
  obtain ⟨cl82, Ar82, qk82, sz82, nn82, Ha82, Gf82⟩ := id F81
  have hin83 : ¬ ((2 : Int32) < 0 ∨ cl82.slots.size ≤ ((2 : Int32)).toNatClampNeg) := inb_of sz82 ⟨by decide, by decide⟩
  have hat84 : cl82.slots[((2 : Int32)).toNatClampNeg]? = some (.int n2_) := Has.at Ha82 hin83 rfl
  refine Go.by (fun t k => X79.iaload hx (j := (2 : Int32)) (v := (.int n2_)) (by rw [e79]; exact Ar82.1) (State.isArrayOf_alike hZ.alike Ar82.2.1) Ar82.2.2 hin83 hat84 (g := (mkF m 39 #[.val (.ref ob), .val (.ref fi), .val (.ref ls), .val (.int (2 : Int32)), .val (.int (1 : Int32)), .val (.int (((la.toUInt32 >>> ((6 : Int32) &&& 31).toUInt32).toInt32) + (1 : Int32)))] [(.int (2 : Int32)), (.ref fi)])) rfl rfl (hb hby d1_39) t k) ?_
  show Go p e below _ (T79.setTop (mkF m 40 #[.val (.ref ob), .val (.ref fi), .val (.ref ls), .val (.int (2 : Int32)), .val (.int (1 : Int32)), .val (.int (((la.toUInt32 >>> ((6 : Int32) &&& 31).toUInt32).toInt32) + (1 : Int32)))] [(.int n2_)]))
  refine Go.by (fun t k => XS.aloadN X79.here hx rfl (hb hby d1_40) rfl rfl k) ?_
  show Go p e below _ (T79.setTop (mkF m 41 #[.val (.ref ob), .val (.ref fi), .val (.ref ls), .val (.int (2 : Int32)), .val (.int (1 : Int32)), .val (.int (((la.toUInt32 >>> ((6 : Int32) &&& 31).toUInt32).toInt32) + (1 : Int32)))] [(.ref fi), (.int n2_)]))
  refine Go.by (fun t k => XS.iload X79.here hx rfl (hb hby d1_41) rfl k) ?_
  show Go p e below _ (T79.setTop (mkF m 43 #[.val (.ref ob), .val (.ref fi), .val (.ref ls), .val (.int (2 : Int32)), .val (.int (1 : Int32)), .val (.int (((la.toUInt32 >>> ((6 : Int32) &&& 31).toUInt32).toInt32) + (1 : Int32)))] [(.int (1 : Int32)), (.ref fi), (.int n2_)]))
  obtain ⟨cl85, Ar85, qk85, sz85, nn85, Ha85, Gf85⟩ := id F81
  have hin86 : ¬ ((1 : Int32) < 0 ∨ cl85.slots.size ≤ ((1 : Int32)).toNatClampNeg) := inb_of sz85 ⟨by decide, by decide⟩
  have hat87 : cl85.slots[((1 : Int32)).toNatClampNeg]? = some (.int n1_) := Has.at Ha85 hin86 rfl
  refine Go.by (fun t k => X79.iaload hx (j := (1 : Int32)) (v := (.int n1_)) (by rw [e79]; exact Ar85.1) (State.isArrayOf_alike hZ.alike Ar85.2.1) Ar85.2.2 hin86 hat87 (g := (mkF m 43 #[.val (.ref ob), .val (.ref fi), .val (.ref ls), .val (.int (2 : Int32)), .val (.int (1 : Int32)), .val (.int (((la.toUInt32 >>> ((6 : Int32) &&& 31).toUInt32).toInt32) + (1 : Int32)))] [(.int (1 : Int32)), (.ref fi), (.int n2_)])) rfl rfl (hb hby d1_43) t k) ?_
  show Go p e below _ (T79.setTop (mkF m 44 #[.val (.ref ob), .val (.ref fi), .val (.ref ls), .val (.int (2 : Int32)), .val (.int (1 : Int32)), .val (.int (((la.toUInt32 >>> ((6 : Int32) &&& 31).toUInt32).toInt32) + (1 : Int32)))] [(.int n1_), (.int n2_)]))
  refine Go.by (fun t k => XS.icmpYes X79.here hx rfl (pc0 := 44) (pc' := 51) rfl (hb hby d1_44) rfl (feq hd2).2 (by decide) (by decide) k) ?_
  show Go p e below _ (T79.setTop (mkF m 51 #[.val (.ref ob), .val (.ref fi), .val (.ref ls), .val (.int (2 : Int32)), .val (.int (1 : Int32)), .val (.int (((la.toUInt32 >>> ((6 : Int32) &&& 31).toUInt32).toInt32) + (1 : Int32)))] []))
  refine Go.by (fun t k => XS.aloadN X79.here hx rfl (hb hby d1_51) rfl rfl k) ?_
  show Go p e below _ (T79.setTop (mkF m 52 #[.val (.ref ob), .val (.ref fi), .val (.ref ls), .val (.int (2 : Int32)), .val (.int (1 : Int32)), .val (.int (((la.toUInt32 >>> ((6 : Int32) &&& 31).toUInt32).toInt32) + (1 : Int32)))] [(.ref ls)]))
  refine Go.by (fun t k => XS.iload X79.here hx rfl (hb hby d1_52) rfl k) ?_
  show Go p e below _ (T79.setTop (mkF m 54 #[.val (.ref ob), .val (.ref fi), .val (.ref ls), .val (.int (2 : Int32)), .val (.int (1 : Int32)), .val (.int (((la.toUInt32 >>> ((6 : Int32) &&& 31).toUInt32).toInt32) + (1 : Int32)))] [(.int (1 : Int32)), (.ref ls)]))
  have F88 : Arv Z h79 ls kl .int (2 : Int32) [(.int la), (.int lb)] (.int (0 : Int32)) := ((F62.ext E68).other W79 ne21)
  obtain ⟨cl89, Ar89, qk89, sz89, nn89, Ha89, Gf89⟩ := id F88
  have hin90 : ¬ ((1 : Int32) < 0 ∨ cl89.slots.size ≤ ((1 : Int32)).toNatClampNeg) := inb_of sz89 ⟨by decide, by decide⟩
  have hat91 : cl89.slots[((1 : Int32)).toNatClampNeg]? = some (.int lb) := Has.at Ha89 hin90 rfl
  refine Go.by (fun t k => X79.iaload hx (j := (1 : Int32)) (v := (.int lb)) (by rw [e79]; exact Ar89.1) (State.isArrayOf_alike hZ.alike Ar89.2.1) Ar89.2.2 hin90 hat91 (g := (mkF m 54 #[.val (.ref ob), .val (.ref fi), .val (.ref ls), .val (.int (2 : Int32)), .val (.int (1 : Int32)), .val (.int (((la.toUInt32 >>> ((6 : Int32) &&& 31).toUInt32).toInt32) + (1 : Int32)))] [(.int (1 : Int32)), (.ref ls)])) rfl rfl (hb hby d1_54) t k) ?_
  show Go p e below _ (T79.setTop (mkF m 55 #[.val (.ref ob), .val (.ref fi), .val (.ref ls), .val (.int (2 : Int32)), .val (.int (1 : Int32)), .val (.int (((la.toUInt32 >>> ((6 : Int32) &&& 31).toUInt32).toInt32) + (1 : Int32)))] [(.int lb)]))
  refine Go.by (fun t k => XS.bipush X79.here hx rfl (hb hby d1_55) k) ?_
  show Go p e below _ (T79.setTop (mkF m 57 #[.val (.ref ob), .val (.ref fi), .val (.ref ls), .val (.int (2 : Int32)), .val (.int (1 : Int32)), .val (.int (((la.toUInt32 >>> ((6 : Int32) &&& 31).toUInt32).toInt32) + (1 : Int32)))] [(.int (6 : Int32)), (.int lb)]))
  refine Go.by (fun t k => XS.iushr X79.here hx rfl (hb hby d1_57) rfl k) ?_
  show Go p e below _ (T79.setTop (mkF m 58 #[.val (.ref ob), .val (.ref fi), .val (.ref ls), .val (.int (2 : Int32)), .val (.int (1 : Int32)), .val (.int (((la.toUInt32 >>> ((6 : Int32) &&& 31).toUInt32).toInt32) + (1 : Int32)))] [(.int ((lb.toUInt32 >>> ((6 : Int32) &&& 31).toUInt32).toInt32))]))
  refine Go.by (fun t k => XS.iconst X79.here hx rfl (hb hby d1_58) k) ?_
  show Go p e below _ (T79.setTop (mkF m 59 #[.val (.ref ob), .val (.ref fi), .val (.ref ls), .val (.int (2 : Int32)), .val (.int (1 : Int32)), .val (.int (((la.toUInt32 >>> ((6 : Int32) &&& 31).toUInt32).toInt32) + (1 : Int32)))] [(.int (1 : Int32)), (.int ((lb.toUInt32 >>> ((6 : Int32) &&& 31).toUInt32).toInt32))]))
  refine Go.by (fun t k => XS.iadd X79.here hx rfl (hb hby d1_59) rfl k) ?_
  show Go p e below _ (T79.setTop (mkF m 60 #[.val (.ref ob), .val (.ref fi), .val (.ref ls), .val (.int (2 : Int32)), .val (.int (1 : Int32)), .val (.int (((la.toUInt32 >>> ((6 : Int32) &&& 31).toUInt32).toInt32) + (1 : Int32)))] [(.int (((lb.toUInt32 >>> ((6 : Int32) &&& 31).toUInt32).toInt32) + (1 : Int32)))]))
  refine Go.by (fun t k => XS.istore X79.here hx rfl (hb hby d1_60) rfl (l' := #[.val (.ref ob), .val (.ref fi), .val (.ref ls), .val (.int (2 : Int32)), .val (.int (1 : Int32)), .val (.int (((lb.toUInt32 >>> ((6 : Int32) &&& 31).toUInt32).toInt32) + (1 : Int32)))]) rfl k) ?_
  show Go p e below _ (T79.setTop (mkF m 62 #[.val (.ref ob), .val (.ref fi), .val (.ref ls), .val (.int (2 : Int32)), .val (.int (1 : Int32)), .val (.int (((lb.toUInt32 >>> ((6 : Int32) &&& 31).toUInt32).toInt32) + (1 : Int32)))] []))
  refine Go.by (fun t k => XS.aloadN X79.here hx rfl (hb hby d1_62) rfl rfl k) ?_
  show Go p e below _ (T79.setTop (mkF m 63 #[.val (.ref ob), .val (.ref fi), .val (.ref ls), .val (.int (2 : Int32)), .val (.int (1 : Int32)), .val (.int (((lb.toUInt32 >>> ((6 : Int32) &&& 31).toUInt32).toInt32) + (1 : Int32)))] [(.ref ob)]))
  have F92 : Fld Z h79 ob "com/example/wakepath/wakepath/automaton/NumberedStates" "bits" "[[J" (.ref b3) := ((((F39.ext E46).other W56 (Or.inl ne4)).ext E68).other W79 (Or.inl ne19))
  obtain ⟨T93, X93, e93, st93⟩ := getF X79 hx hZ hown (host := "") (Or.inl (hw _ (List.mem_of_getElem? (i := 12) rfl))) Via.refl e79 F92 (g := (mkF m 63 #[.val (.ref ob), .val (.ref fi), .val (.ref ls), .val (.int (2 : Int32)), .val (.int (1 : Int32)), .val (.int (((lb.toUInt32 >>> ((6 : Int32) &&& 31).toUInt32).toInt32) + (1 : Int32)))] [(.ref ob)])) rfl rfl (hb hby d1_63)
  refine Go.by st93 ?_
  show Go p e below _ (T93.setTop (mkF m 66 #[.val (.ref ob), .val (.ref fi), .val (.ref ls), .val (.int (2 : Int32)), .val (.int (1 : Int32)), .val (.int (((lb.toUInt32 >>> ((6 : Int32) &&& 31).toUInt32).toInt32) + (1 : Int32)))] [(.ref b3)]))
  refine Go.by (fun t k => XS.iload X93.here hx rfl (hb hby d1_66) rfl k) ?_
  show Go p e below _ (T93.setTop (mkF m 68 #[.val (.ref ob), .val (.ref fi), .val (.ref ls), .val (.int (2 : Int32)), .val (.int (1 : Int32)), .val (.int (((lb.toUInt32 >>> ((6 : Int32) &&& 31).toUInt32).toInt32) + (1 : Int32)))] [(.int (1 : Int32)), (.ref b3)]))
  refine Go.by (fun t k => XS.iload X93.here hx rfl (hb hby d1_68) rfl k) ?_
  show Go p e below _ (T93.setTop (mkF m 70 #[.val (.ref ob), .val (.ref fi), .val (.ref ls), .val (.int (2 : Int32)), .val (.int (1 : Int32)), .val (.int (((lb.toUInt32 >>> ((6 : Int32) &&& 31).toUInt32).toInt32) + (1 : Int32)))] [(.int (((lb.toUInt32 >>> ((6 : Int32) &&& 31).toUInt32).toInt32) + (1 : Int32))), (.int (1 : Int32)), (.ref b3)]))
  have F94 : Exa Z h79 ob "com/example/wakepath/wakepath/automaton/NumberedStates" := ((F60.ext E68).wr W79)
  have F95 : Exa Z h79 b3 "[[J" := ((F63.ext E68).wr W79)
  have F96 : Exa Z h79 b18 "[[I" := ((F64.ext E68).wr W79)
  have F97 : Exa Z h79 b46 "[J" := ((F65.ext E68).wr W79)
  have F98 : Exa Z h79 b68 "[I" := (Q68.wr W79)
  have F99 : Old Z n0 h79 := ((F66.ext E68).wr W79 ge18)
  have F100 : Keep h0 h79 [ob] := ((F67.ext E68).wr W79 (Or.inr sz18))
  obtain ⟨T101, h101, k101, X101, e101, E101, A101, Q101, st101⟩ := newPE X93 hx hZ (hw _ (List.mem_of_getElem? (i := 18) rfl)) e93 (g := (mkF m 70 #[.val (.ref ob), .val (.ref fi), .val (.ref ls), .val (.int (2 : Int32)), .val (.int (1 : Int32)), .val (.int (((lb.toUInt32 >>> ((6 : Int32) &&& 31).toUInt32).toInt32) + (1 : Int32)))] [(.int (((lb.toUInt32 >>> ((6 : Int32) &&& 31).toUInt32).toInt32) + (1 : Int32))), (.int (1 : Int32)), (.ref b3)])) rfl (hb hby d1_70) rfl (own_wd hlb).1 (cap := 4) (own_wd hlb).2 (by decide) (by decide) (by decide) (ad := "[J") (by decide)
  obtain ⟨b101, g101⟩ : ∃ z, z = h79.size := ⟨_, rfl⟩
  rw [← g101] at A101 Q101 st101
  have gl101 : h79.size ≤ b101 := Nat.le_of_eq g101.symm
  have ge101 : n0 ≤ b101 := Nat.le_trans (own_old_size F99) gl101
  have sz101 : h0.size ≤ b101 := Nat.le_trans F100.1 gl101
  have ne102 : ob ≠ b101 := Nat.ne_of_lt (Nat.lt_of_lt_of_le F94.lt gl101)
  have ne103 : fi ≠ b101 := Nat.ne_of_lt (Nat.lt_of_lt_of_le F81.lt gl101)
  have ne104 : ls ≠ b101 := Nat.ne_of_lt (Nat.lt_of_lt_of_le F88.lt gl101)
  have ne105 : b3 ≠ b101 := Nat.ne_of_lt (Nat.lt_of_lt_of_le F95.lt gl101)
  have ne106 : b18 ≠ b101 := Nat.ne_of_lt (Nat.lt_of_lt_of_le F96.lt gl101)
  have ne107 : b46 ≠ b101 := Nat.ne_of_lt (Nat.lt_of_lt_of_le F97.lt gl101)
  have ne108 : b68 ≠ b101 := Nat.ne_of_lt (Nat.lt_of_lt_of_le F98.lt gl101)
  have F109 : own_La Z h101 b101 (((lb.toUInt32 >>> ((6 : Int32) &&& 31).toUInt32).toInt32) + (1 : Int32)) (fun _ => (0 : Int64)) := own_La.new A101 (own_wd hlb).1
  refine Go.by st101 ?_
  show Go p e below _ (T101.setTop (mkF m 72 #[.val (.ref ob), .val (.ref fi), .val (.ref ls), .val (.int (2 : Int32)), .val (.int (1 : Int32)), .val (.int (((lb.toUInt32 >>> ((6 : Int32) &&& 31).toUInt32).toInt32) + (1 : Int32)))] [(.ref b101), (.int (1 : Int32)), (.ref b3)]))
  have F110 : Arv Z h101 b3 k3 (.array .long) (2 : Int32) [(.ref b46), .null] .null := (((F57.ext E68).other W79 ne22).ext E101)
  obtain ⟨cl111, Ar111, qk111, sz111, nn111, Ha111, Gf111⟩ := id F110
  have hin112 : ¬ ((1 : Int32) < 0 ∨ cl111.slots.size ≤ ((1 : Int32)).toNatClampNeg) := inb_of sz111 ⟨by decide, by decide⟩
  obtain ⟨T113, h113, X113, e113, W113, st113⟩ := stR X101 hx hZ e101 Ar111 (j := (1 : Int32)) hin112 rfl (Sto.ofVA Ar111 qk111 O3 (Ins.self Q101)) (g := (mkF m 72 #[.val (.ref ob), .val (.ref fi), .val (.ref ls), .val (.int (2 : Int32)), .val (.int (1 : Int32)), .val (.int (((lb.toUInt32 >>> ((6 : Int32) &&& 31).toUInt32).toInt32) + (1 : Int32)))] [(.ref b101), (.int (1 : Int32)), (.ref b3)])) rfl rfl (hb hby d1_72)
  have N113 := Fr.snoc X113 N79 ge3
  have F114 : Arv Z h113 b3 k3 (.array .long) (2 : Int32) [(.ref b46), (.ref b101)] .null := Arv.set Ar111 qk111 sz111 nn111 Ha111 Gf111 rfl W113 1 rfl (Nat.le_of_ble_eq_true rfl)
  refine Go.by st113 ?_
  show Go p e below _ (T113.setTop (mkF m 73 #[.val (.ref ob), .val (.ref fi), .val (.ref ls), .val (.int (2 : Int32)), .val (.int (1 : Int32)), .val (.int (((lb.toUInt32 >>> ((6 : Int32) &&& 31).toUInt32).toInt32) + (1 : Int32)))] []))
  refine Go.by (fun t k => XS.aloadN X113.here hx rfl (hb hby d1_73) rfl rfl k) ?_
  show Go p e below _ (T113.setTop (mkF m 74 #[.val (.ref ob), .val (.ref fi), .val (.ref ls), .val (.int (2 : Int32)), .val (.int (1 : Int32)), .val (.int (((lb.toUInt32 >>> ((6 : Int32) &&& 31).toUInt32).toInt32) + (1 : Int32)))] [(.ref ob)]))
  have F115 : Fld Z h113 ob "com/example/wakepath/wakepath/automaton/NumberedStates" "firstNumber" "[[I" (.ref b18) := ((((F58.ext E68).other W79 (Or.inl ne19)).ext E101).other W113 (Or.inl ne4))
  obtain ⟨T116, X116, e116, st116⟩ := getF X113 hx hZ hown (host := "") (Or.inl (hw _ (List.mem_of_getElem? (i := 16) rfl))) Via.refl e113 F115 (g := (mkF m 74 #[.val (.ref ob), .val (.ref fi), .val (.ref ls), .val (.int (2 : Int32)), .val (.int (1 : Int32)), .val (.int (((lb.toUInt32 >>> ((6 : Int32) &&& 31).toUInt32).toInt32) + (1 : Int32)))] [(.ref ob)])) rfl rfl (hb hby d1_74)
  refine Go.by st116 ?_
  show Go p e below _ (T116.setTop (mkF m 77 #[.val (.ref ob), .val (.ref fi), .val (.ref ls), .val (.int (2 : Int32)), .val (.int (1 : Int32)), .val (.int (((lb.toUInt32 >>> ((6 : Int32) &&& 31).toUInt32).toInt32) + (1 : Int32)))] [(.ref b18)]))
  refine Go.by (fun t k => XS.iload X116.here hx rfl (hb hby d1_77) rfl k) ?_
  show Go p e below _ (T116.setTop (mkF m 79 #[.val (.ref ob), .val (.ref fi), .val (.ref ls), .val (.int (2 : Int32)), .val (.int (1 : Int32)), .val (.int (((lb.toUInt32 >>> ((6 : Int32) &&& 31).toUInt32).toInt32) + (1 : Int32)))] [(.int (1 : Int32)), (.ref b18)]))
  refine Go.by (fun t k => XS.iload X116.here hx rfl (hb hby d1_79) rfl k) ?_
  show Go p e below _ (T116.setTop (mkF m 81 #[.val (.ref ob), .val (.ref fi), .val (.ref ls), .val (.int (2 : Int32)), .val (.int (1 : Int32)), .val (.int (((lb.toUInt32 >>> ((6 : Int32) &&& 31).toUInt32).toInt32) + (1 : Int32)))] [(.int (((lb.toUInt32 >>> ((6 : Int32) &&& 31).toUInt32).toInt32) + (1 : Int32))), (.int (1 : Int32)), (.ref b18)]))
  have F117 : Exa Z h113 ob "com/example/wakepath/wakepath/automaton/NumberedStates" := ((F94.ext E101).wr W113)
  have F118 : Arv Z h113 fi kf .int (3 : Int32) [(.int n0_), (.int n1_), (.int n2_)] (.int (0 : Int32)) := ((F81.ext E101).other W113 ne5)
  have F119 : Arv Z h113 ls kl .int (2 : Int32) [(.int la), (.int lb)] (.int (0 : Int32)) := ((F88.ext E101).other W113 ne6)
  have F120 : Exa Z h113 b3 "[[J" := ((F95.ext E101).wr W113)
  have F121 : Exa Z h113 b18 "[[I" := ((F96.ext E101).wr W113)
  have F122 : Exa Z h113 b46 "[J" := ((F97.ext E101).wr W113)
  have F123 : Exa Z h113 b68 "[I" := ((F98.ext E101).wr W113)
  have F124 : Exa Z h113 b101 "[J" := (Q101.wr W113)
  have F125 : Old Z n0 h113 := ((F99.ext E101).wr W113 ge3)
  have F126 : Keep h0 h113 [ob] := ((F100.ext E101).wr W113 (Or.inr sz3))
  obtain ⟨T127, h127, k127, X127, e127, E127, A127, Q127, st127⟩ := newPE X116 hx hZ (hw _ (List.mem_of_getElem? (i := 0) rfl)) e116 (g := (mkF m 81 #[.val (.ref ob), .val (.ref fi), .val (.ref ls), .val (.int (2 : Int32)), .val (.int (1 : Int32)), .val (.int (((lb.toUInt32 >>> ((6 : Int32) &&& 31).toUInt32).toInt32) + (1 : Int32)))] [(.int (((lb.toUInt32 >>> ((6 : Int32) &&& 31).toUInt32).toInt32) + (1 : Int32))), (.int (1 : Int32)), (.ref b18)])) rfl (hb hby d1_81) rfl (own_wd hlb).1 (cap := 4) (own_wd hlb).2 (by decide) (by decide) (by decide) (ad := "[I") (by decide)
  obtain ⟨b127, g127⟩ : ∃ z, z = h113.size := ⟨_, rfl⟩
  rw [← g127] at A127 Q127 st127
  have gl127 : h113.size ≤ b127 := Nat.le_of_eq g127.symm
  have ge127 : n0 ≤ b127 := Nat.le_trans (own_old_size F125) gl127
  have sz127 : h0.size ≤ b127 := Nat.le_trans F126.1 gl127
  have ne128 : ob ≠ b127 := Nat.ne_of_lt (Nat.lt_of_lt_of_le F117.lt gl127)
  have ne129 : fi ≠ b127 := Nat.ne_of_lt (Nat.lt_of_lt_of_le F118.lt gl127)
  have ne130 : ls ≠ b127 := Nat.ne_of_lt (Nat.lt_of_lt_of_le F119.lt gl127)
  have ne131 : b3 ≠ b127 := Nat.ne_of_lt (Nat.lt_of_lt_of_le F120.lt gl127)
  have ne132 : b18 ≠ b127 := Nat.ne_of_lt (Nat.lt_of_lt_of_le F121.lt gl127)
  have ne133 : b46 ≠ b127 := Nat.ne_of_lt (Nat.lt_of_lt_of_le F122.lt gl127)
  have ne134 : b68 ≠ b127 := Nat.ne_of_lt (Nat.lt_of_lt_of_le F123.lt gl127)
  have ne135 : b101 ≠ b127 := Nat.ne_of_lt (Nat.lt_of_lt_of_le F124.lt gl127)
  have F136 : own_Ia Z h127 b127 (((lb.toUInt32 >>> ((6 : Int32) &&& 31).toUInt32).toInt32) + (1 : Int32)) (fun _ => (0 : Int32)) := own_Ia.new A127 (own_wd hlb).1
  refine Go.by st127 ?_
  show Go p e below _ (T127.setTop (mkF m 83 #[.val (.ref ob), .val (.ref fi), .val (.ref ls), .val (.int (2 : Int32)), .val (.int (1 : Int32)), .val (.int (((lb.toUInt32 >>> ((6 : Int32) &&& 31).toUInt32).toInt32) + (1 : Int32)))] [(.ref b127), (.int (1 : Int32)), (.ref b18)]))
  have F137 : Arv Z h127 b18 k18 (.array .int) (2 : Int32) [(.ref b68), .null] .null := (((F80.ext E101).other W113 (Ne.symm ne22)).ext E127)
  obtain ⟨cl138, Ar138, qk138, sz138, nn138, Ha138, Gf138⟩ := id F137
  have hin139 : ¬ ((1 : Int32) < 0 ∨ cl138.slots.size ≤ ((1 : Int32)).toNatClampNeg) := inb_of sz138 ⟨by decide, by decide⟩
  obtain ⟨T140, h140, X140, e140, W140, st140⟩ := stR X127 hx hZ e127 Ar138 (j := (1 : Int32)) hin139 rfl (Sto.ofVA Ar138 qk138 O18 (Ins.self Q127)) (g := (mkF m 83 #[.val (.ref ob), .val (.ref fi), .val (.ref ls), .val (.int (2 : Int32)), .val (.int (1 : Int32)), .val (.int (((lb.toUInt32 >>> ((6 : Int32) &&& 31).toUInt32).toInt32) + (1 : Int32)))] [(.ref b127), (.int (1 : Int32)), (.ref b18)])) rfl rfl (hb hby d1_83)
  have N140 := Fr.snoc X140 N113 ge18
  have F141 : Arv Z h140 b18 k18 (.array .int) (2 : Int32) [(.ref b68), (.ref b127)] .null := Arv.set Ar138 qk138 sz138 nn138 Ha138 Gf138 rfl W140 1 rfl (Nat.le_of_ble_eq_true rfl)
  refine Go.by st140 ?_
  show Go p e below _ (T140.setTop (mkF m 84 #[.val (.ref ob), .val (.ref fi), .val (.ref ls), .val (.int (2 : Int32)), .val (.int (1 : Int32)), .val (.int (((lb.toUInt32 >>> ((6 : Int32) &&& 31).toUInt32).toInt32) + (1 : Int32)))] []))
  refine Go.by (fun t k => XS.iinc X140.here hx rfl (hb hby d1_84) rfl (l' := #[.val (.ref ob), .val (.ref fi), .val (.ref ls), .val (.int (2 : Int32)), .val (.int (2 : Int32)), .val (.int (((lb.toUInt32 >>> ((6 : Int32) &&& 31).toUInt32).toInt32) + (1 : Int32)))]) rfl k) ?_
  show Go p e below _ (T140.setTop (mkF m 87 #[.val (.ref ob), .val (.ref fi), .val (.ref ls), .val (.int (2 : Int32)), .val (.int (2 : Int32)), .val (.int (((lb.toUInt32 >>> ((6 : Int32) &&& 31).toUInt32).toInt32) + (1 : Int32)))] []))
  refine Go.by (fun t k => XS.goto X140.here hx rfl (pc0 := 87) (pc' := 28) rfl (hb hby d1_87) (by decide) (by decide) k) ?_
  show Go p e below _ (T140.setTop (mkF m 28 #[.val (.ref ob), .val (.ref fi), .val (.ref ls), .val (.int (2 : Int32)), .val (.int (2 : Int32)), .val (.int (((lb.toUInt32 >>> ((6 : Int32) &&& 31).toUInt32).toInt32) + (1 : Int32)))] []))
  refine Go.by (fun t k => XS.iload X140.here hx rfl (hb hby d1_28) rfl k) ?_
  show Go p e below _ (T140.setTop (mkF m 30 #[.val (.ref ob), .val (.ref fi), .val (.ref ls), .val (.int (2 : Int32)), .val (.int (2 : Int32)), .val (.int (((lb.toUInt32 >>> ((6 : Int32) &&& 31).toUInt32).toInt32) + (1 : Int32)))] [(.int (2 : Int32))]))
  refine Go.by (fun t k => XS.iloadN X140.here hx rfl (hb hby d1_30) rfl k) ?_
  show Go p e below _ (T140.setTop (mkF m 31 #[.val (.ref ob), .val (.ref fi), .val (.ref ls), .val (.int (2 : Int32)), .val (.int (2 : Int32)), .val (.int (((lb.toUInt32 >>> ((6 : Int32) &&& 31).toUInt32).toInt32) + (1 : Int32)))] [(.int (2 : Int32)), (.int (2 : Int32))]))
  refine Go.by (fun t k => XS.icmpYes X140.here hx rfl (pc0 := 31) (pc' := 90) rfl (hb hby d1_31) rfl (flt Int32.lt_irrefl).2.1 (by decide) (by decide) k) ?_
  show Go p e below _ (T140.setTop (mkF m 90 #[.val (.ref ob), .val (.ref fi), .val (.ref ls), .val (.int (2 : Int32)), .val (.int (2 : Int32)), .val (.int (((lb.toUInt32 >>> ((6 : Int32) &&& 31).toUInt32).toInt32) + (1 : Int32)))] []))
  have F142 : Keep h0 h140 [ob] := ((F126.ext E127).wr W140 (Or.inr sz18))
  have F143 : Exa Z h140 ob "com/example/wakepath/wakepath/automaton/NumberedStates" := ((F117.ext E127).wr W140)
  have F144 : Fld Z h140 ob "com/example/wakepath/wakepath/automaton/NumberedStates" "bits" "[[J" (.ref b3) := ((((F92.ext E101).other W113 (Or.inl ne4)).ext E127).other W140 (Or.inl ne19))
  have F145 : Fld Z h140 ob "com/example/wakepath/wakepath/automaton/NumberedStates" "firstNumber" "[[I" (.ref b18) := ((F115.ext E127).other W140 (Or.inl ne19))
  have F146 : Arv Z h140 b3 k3 (.array .long) (2 : Int32) [(.ref b46), (.ref b101)] .null := ((F114.ext E127).other W140 ne22)
  have F147 : own_La Z h140 b46 (((la.toUInt32 >>> ((6 : Int32) &&& 31).toUInt32).toInt32) + (1 : Int32)) (fun _ => (0 : Int64)) := (((((((F52.other W56 (Ne.symm ne50)).ext E68).other W79 (Ne.symm ne51)).ext E101).other W113 (Ne.symm ne50)).ext E127).other W140 (Ne.symm ne51))
  have F148 : own_Ia Z h140 b68 (((la.toUInt32 >>> ((6 : Int32) &&& 31).toUInt32).toInt32) + (1 : Int32)) (fun _ => (0 : Int32)) := (((((F75.other W79 (Ne.symm ne73)).ext E101).other W113 (Ne.symm ne72)).ext E127).other W140 (Ne.symm ne73))
  have F149 : own_La Z h140 b101 (((lb.toUInt32 >>> ((6 : Int32) &&& 31).toUInt32).toInt32) + (1 : Int32)) (fun _ => (0 : Int64)) := (((F109.other W113 (Ne.symm ne105)).ext E127).other W140 (Ne.symm ne106))
  have F150 : own_Ia Z h140 b127 (((lb.toUInt32 >>> ((6 : Int32) &&& 31).toUInt32).toInt32) + (1 : Int32)) (fun _ => (0 : Int32)) := (F136.other W140 (Ne.symm ne132))
  have hq : Q_init Z ob fi ls n0_ n1_ n2_ la lb kf kl h0 n0 none h140 _ := ⟨b3, b18, b46, b68, b101, b127, k3, k18, rfl, N140, F142, sz3, sz18, sz46, sz68, sz101, sz127, F143, F144, F145, F146, F141, F147, F148, F149, F150, ne22, ne50, ne72, ne105, ne131, ne51, ne73, ne106, ne132, ne74, ne107, ne133, ne108, ne134, ne135⟩
  exact Go.ret0 X140 hx Bd.returns hlk (hb hby d1_90) (by decide) (by decide) (by rw [e140]; exact hq)
theorem d3_0 : decode prog_15_method_2_code 0 = .ok (.iload_n 2, 1) := by decide +kernel
theorem d3_1 : decode prog_15_method_2_code 1 = .ok (.bipush 6, 2) := by decide +kernel
theorem d3_3 : decode prog_15_method_2_code 3 = .ok (.iushr, 1) := by decide +kernel
theorem d3_4 : decode prog_15_method_2_code 4 = .ok (.istore 4, 2) := by decide +kernel
theorem d3_6 : decode prog_15_method_2_code 6 = .ok (.aload_n 0, 1) := by decide +kernel
theorem d3_7 : decode prog_15_method_2_code 7 = .ok (.getfield 9, 3) := by decide +kernel
theorem d3_10 : decode prog_15_method_2_code 10 = .ok (.iload_n 1, 1) := by decide +kernel
theorem d3_11 : decode prog_15_method_2_code 11 = .ok (.aaload, 1) := by decide +kernel
theorem d3_12 : decode prog_15_method_2_code 12 = .ok (.iload 4, 2) := by decide +kernel
theorem d3_14 : decode prog_15_method_2_code 14 = .ok (.laload, 1) := by decide +kernel
theorem d3_15 : decode prog_15_method_2_code 15 = .ok (.lconst 0, 1) := by decide +kernel
theorem d3_16 : decode prog_15_method_2_code 16 = .ok (.lcmp, 1) := by decide +kernel
theorem d3_17 : decode prog_15_method_2_code 17 = .ok (.ifCond .ne 13, 3) := by decide +kernel
theorem d3_20 : decode prog_15_method_2_code 20 = .ok (.aload_n 0, 1) := by decide +kernel
theorem d3_21 : decode prog_15_method_2_code 21 = .ok (.getfield 17, 3) := by decide +kernel
theorem d3_24 : decode prog_15_method_2_code 24 = .ok (.iload_n 1, 1) := by decide +kernel
theorem d3_25 : decode prog_15_method_2_code 25 = .ok (.aaload, 1) := by decide +kernel
theorem d3_26 : decode prog_15_method_2_code 26 = .ok (.iload 4, 2) := by decide +kernel
theorem d3_28 : decode prog_15_method_2_code 28 = .ok (.iload_n 3, 1) := by decide +kernel
theorem d3_29 : decode prog_15_method_2_code 29 = .ok (.iastore, 1) := by decide +kernel
theorem d3_30 : decode prog_15_method_2_code 30 = .ok (.aload_n 0, 1) := by decide +kernel
theorem d3_31 : decode prog_15_method_2_code 31 = .ok (.getfield 9, 3) := by decide +kernel
theorem d3_34 : decode prog_15_method_2_code 34 = .ok (.iload_n 1, 1) := by decide +kernel
theorem d3_35 : decode prog_15_method_2_code 35 = .ok (.aaload, 1) := by decide +kernel
theorem d3_36 : decode prog_15_method_2_code 36 = .ok (.iload 4, 2) := by decide +kernel
theorem d3_38 : decode prog_15_method_2_code 38 = .ok (.dup2, 1) := by decide +kernel
theorem d3_39 : decode prog_15_method_2_code 39 = .ok (.laload, 1) := by decide +kernel
theorem d3_40 : decode prog_15_method_2_code 40 = .ok (.lconst 1, 1) := by decide +kernel
theorem d3_41 : decode prog_15_method_2_code 41 = .ok (.iload_n 2, 1) := by decide +kernel
theorem d3_42 : decode prog_15_method_2_code 42 = .ok (.lshl, 1) := by decide +kernel
theorem d3_43 : decode prog_15_method_2_code 43 = .ok (.lor, 1) := by decide +kernel
theorem d3_44 : decode prog_15_method_2_code 44 = .ok (.lastore, 1) := by decide +kernel
theorem d3_45 : decode prog_15_method_2_code 45 = .ok (.return_, 1) := by decide +kernel
theorem ef_add_0 (m : MethodId) (ob : Addr) (st_ : Int32) (nu : Int32) : entryFrame m #[(.ref ob), (.int (0 : Int32)), (.int st_), (.int nu)] 5 = mkF m 0 #[.val (.ref ob), .val (.int (0 : Int32)), .val (.int st_), .val (.int nu), .unset] [] := by first | (simp [entryFrame, mkF, argsToLocals, Value.category]; done) | rfl
def Q_add_0 (Z : State) (ob : Addr) (st_ : Int32) (nu : Int32) (bb : Addr) (gg : Addr) (b0 : Addr) (g0 : Addr) (b1 : Addr) (g1 : Addr) (kb : ClassId) (kg : ClassId) (zz : Int32) (fu : Nat → Int64) (gu : Nat → Int32) (h0 : Heap) (n0 : Nat) (v : Option Value) (h : Heap) (L : List Loc) : Prop := v = none ∧ Fr n0 L ∧ Keep h0 h [b0, g0] ∧ own_La Z h b0 zz (own_addL fu st_) ∧ own_Ia Z h g0 zz (own_addI fu gu st_ nu)
set_option maxRecDepth 65536 in
set_option maxHeartbeats 40000000 in
theorem add_0 (l : Launch) (Z : State) (a0 : Array Value) (hw : ∀ d ∈ tables_1, d.before a0 Z = true) (ws : List Jvm.Cond) (ob : Addr) (st_ : Int32) (nu : Int32) (bb : Addr) (gg : Addr) (b0 : Addr) (g0 : Addr) (b1 : Addr) (g1 : Addr) (kb : ClassId) (kg : ClassId) (zz : Int32) (fu : Nat → Int64) (gu : Nat → Int32) (h0 : Heap) (n0 : Nat) (O0 : Old Z n0 h0) (P0 : Fld Z h0 ob "com/example/wakepath/wakepath/automaton/NumberedStates" "bits" "[[J" (.ref bb)) (P1 : Fld Z h0 ob "com/example/wakepath/wakepath/automaton/NumberedStates" "firstNumber" "[[I" (.ref gg)) (P2 : Arv Z h0 bb kb (.array .long) (2 : Int32) [(.ref b0), (.ref b1)] .null) (P3 : Arv Z h0 gg kg (.array .int) (2 : Int32) [(.ref g0), (.ref g1)] .null) (P4 : own_La Z h0 b0 zz fu) (P5 : own_Ia Z h0 g0 zz gu) (gb : n0 ≤ b0) (gg_ : n0 ≤ g0) (nbg : b0 ≠ g0) (nb1 : ob ≠ b0) (nb2 : ob ≠ g0) (nb3 : bb ≠ b0) (nb4 : bb ≠ g0) (nb5 : gg ≠ b0) (nb6 : gg ≠ g0) (hin : ¬ ((st_.toUInt32 >>> ((6 : Int32) &&& 31).toUInt32).toInt32) < 0 ∧ ((st_.toUInt32 >>> ((6 : Int32) &&& 31).toUInt32).toInt32) < zz) :
    MetFree l (⟨"com/example/wakepath/wakepath/automaton/NumberedStates", "add", "(III)V"⟩ : MethodName) (head1 (Jvm.Cond.code (⟨"com/example/wakepath/wakepath/automaton/NumberedStates", "add", "(III)V"⟩ : MethodName) prog_15_method_2_code 5 none :: ws) ({ frames := 0, cells := 0, slots := 0, locals := 0 } : Room)) (fun a U => a = #[(.ref ob), (.int (0 : Int32)), (.int st_), (.int nu)] ∧ Z.Warmed39 U.vm ∧ U.heap = h0) (fun _ _ _ _ _ => True) (fun _ U o U' => ∃ v L, o = .returned v ∧ Q_add_0 Z ob st_ nu bb gg b0 g0 b1 g1 kb kg zz fu gu h0 n0 v U'.heap L ∧ FrameEnd U o U' L ({ frames := 0, cells := 0, slots := 0, locals := 0 } : Room).cells ({ frames := 0, cells := 0, slots := 0, locals := 0 } : Room).slots) := by
  refine MetFree.of_bodySF (plainFor_of_name pn_1) hisR ?_
  intro p e s m args below meth c s₁ Bd hml0 hP hK
  obtain ⟨rfl, hZ, hh⟩ := hP
  have hx := Bd.exec
  have hby := Bd.bytes
  have hml : c.maxLocals = 5 := hml0
  have hown : s.vm.findClass "com/example/wakepath/wakepath/automaton/NumberedStates" = some m.cls := findClass_of_methodNamed Bd.named
  have hnm := (name_of_methodNamed Bd.named Bd.method).1
  have hlk := BodyLoose.notSynchronized Bd
  have X0 : Stand p l e ({ frames := 0, cells := 0, slots := 0, locals := 0 } : Room) s m #[(.ref ob), (.int (0 : Int32)), (.int st_), (.int nu)] below meth c s₁ [] 0 0 := Stand.of_body Bd
  have e0 : s₁.heap = h0 := by rw [← hh, Bd.state]; rfl
  have N0 := Fr.nil n0
  refine Go.start (P := fun o U' => ∃ v L, o = .returned v ∧ Q_add_0 Z ob st_ nu bb gg b0 g0 b1 g1 kb kg zz fu gu h0 n0 v U'.heap L ∧ FrameEnd s o U' L ({ frames := 0, cells := 0, slots := 0, locals := 0 } : Room).cells ({ frames := 0, cells := 0, slots := 0, locals := 0 } : Room).slots) (ef_add_0 m ob st_ nu) ?_
  show Go p e below _ (s₁.setTop (mkF m 0 #[.val (.ref ob), .val (.int (0 : Int32)), .val (.int st_), .val (.int nu), .unset] []))
  refine Go.by (fun t k => XS.iloadN X0.here hx rfl (hb hby d3_0) rfl k) ?_
  show Go p e below _ (s₁.setTop (mkF m 1 #[.val (.ref ob), .val (.int (0 : Int32)), .val (.int st_), .val (.int nu), .unset] [(.int st_)]))
  refine Go.by (fun t k => XS.bipush X0.here hx rfl (hb hby d3_1) k) ?_
  show Go p e below _ (s₁.setTop (mkF m 3 #[.val (.ref ob), .val (.int (0 : Int32)), .val (.int st_), .val (.int nu), .unset] [(.int (6 : Int32)), (.int st_)]))
  refine Go.by (fun t k => XS.iushr X0.here hx rfl (hb hby d3_3) rfl k) ?_
  show Go p e below _ (s₁.setTop (mkF m 4 #[.val (.ref ob), .val (.int (0 : Int32)), .val (.int st_), .val (.int nu), .unset] [(.int ((st_.toUInt32 >>> ((6 : Int32) &&& 31).toUInt32).toInt32))]))
  refine Go.by (fun t k => XS.istore X0.here hx rfl (hb hby d3_4) rfl (l' := #[.val (.ref ob), .val (.int (0 : Int32)), .val (.int st_), .val (.int nu), .val (.int ((st_.toUInt32 >>> ((6 : Int32) &&& 31).toUInt32).toInt32))]) rfl k) ?_
  show Go p e below _ (s₁.setTop (mkF m 6 #[.val (.ref ob), .val (.int (0 : Int32)), .val (.int st_), .val (.int nu), .val (.int ((st_.toUInt32 >>> ((6 : Int32) &&& 31).toUInt32).toInt32))] []))
  refine Go.by (fun t k => XS.aloadN X0.here hx rfl (hb hby d3_6) rfl rfl k) ?_
  show Go p e below _ (s₁.setTop (mkF m 7 #[.val (.ref ob), .val (.int (0 : Int32)), .val (.int st_), .val (.int nu), .val (.int ((st_.toUInt32 >>> ((6 : Int32) &&& 31).toUInt32).toInt32))] [(.ref ob)]))
  obtain ⟨T1, X1, e1, st1⟩ := getF X0 hx hZ hown (host := "") (Or.inl (hw _ (List.mem_of_getElem? (i := 12) rfl))) Via.refl e0 P0 (g := (mkF m 7 #[.val (.ref ob), .val (.int (0 : Int32)), .val (.int st_), .val (.int nu), .val (.int ((st_.toUInt32 >>> ((6 : Int32) &&& 31).toUInt32).toInt32))] [(.ref ob)])) rfl rfl (hb hby d3_7)
  refine Go.by st1 ?_
  show Go p e below _ (T1.setTop (mkF m 10 #[.val (.ref ob), .val (.int (0 : Int32)), .val (.int st_), .val (.int nu), .val (.int ((st_.toUInt32 >>> ((6 : Int32) &&& 31).toUInt32).toInt32))] [(.ref bb)]))
  refine Go.by (fun t k => XS.iloadN X1.here hx rfl (hb hby d3_10) rfl k) ?_
  show Go p e below _ (T1.setTop (mkF m 11 #[.val (.ref ob), .val (.int (0 : Int32)), .val (.int st_), .val (.int nu), .val (.int ((st_.toUInt32 >>> ((6 : Int32) &&& 31).toUInt32).toInt32))] [(.int (0 : Int32)), (.ref bb)]))
  obtain ⟨cl2, Ar2, qk2, sz2, nn2, Ha2, Gf2⟩ := id P2
  have hin3 : ¬ ((0 : Int32) < 0 ∨ cl2.slots.size ≤ ((0 : Int32)).toNatClampNeg) := inb_of sz2 ⟨by decide, by decide⟩
  have hat4 : cl2.slots[((0 : Int32)).toNatClampNeg]? = some (.ref b0) := Has.at Ha2 hin3 rfl
  refine Go.by (fun t k => X1.aaload hx (j := (0 : Int32)) (v := (.ref b0)) (by rw [e1]; exact Ar2.1) (State.isArrayOf_alike hZ.alike Ar2.2.1) rfl Ar2.2.2 hin3 hat4 (g := (mkF m 11 #[.val (.ref ob), .val (.int (0 : Int32)), .val (.int st_), .val (.int nu), .val (.int ((st_.toUInt32 >>> ((6 : Int32) &&& 31).toUInt32).toInt32))] [(.int (0 : Int32)), (.ref bb)])) rfl rfl (hb hby d3_11) t k) ?_
  show Go p e below _ (T1.setTop (mkF m 12 #[.val (.ref ob), .val (.int (0 : Int32)), .val (.int st_), .val (.int nu), .val (.int ((st_.toUInt32 >>> ((6 : Int32) &&& 31).toUInt32).toInt32))] [(.ref b0)]))
  refine Go.by (fun t k => XS.iload X1.here hx rfl (hb hby d3_12) rfl k) ?_
  show Go p e below _ (T1.setTop (mkF m 14 #[.val (.ref ob), .val (.int (0 : Int32)), .val (.int st_), .val (.int nu), .val (.int ((st_.toUInt32 >>> ((6 : Int32) &&& 31).toUInt32).toInt32))] [(.int ((st_.toUInt32 >>> ((6 : Int32) &&& 31).toUInt32).toInt32)), (.ref b0)]))
  obtain ⟨_, vs5, ⟨cl5, Ar5, qk5, sz5, nn5, Ha5, Gf5⟩, ln5, fn5⟩ := id P4
  have hin6 : ¬ (((st_.toUInt32 >>> ((6 : Int32) &&& 31).toUInt32).toInt32) < 0 ∨ cl5.slots.size ≤ (((st_.toUInt32 >>> ((6 : Int32) &&& 31).toUInt32).toInt32)).toNatClampNeg) := inb_of sz5 hin
  have hat7 : cl5.slots[(((st_.toUInt32 >>> ((6 : Int32) &&& 31).toUInt32).toInt32)).toNatClampNeg]? = some (.long (fu (((st_.toUInt32 >>> ((6 : Int32) &&& 31).toUInt32).toInt32)).toNatClampNeg)) := Has.at Ha5 hin6 (fn5 _ (by have q := hin6; have := sz5; omega))
  refine Go.by (fun t k => X1.laload hx (j := ((st_.toUInt32 >>> ((6 : Int32) &&& 31).toUInt32).toInt32)) (v := (.long (fu (((st_.toUInt32 >>> ((6 : Int32) &&& 31).toUInt32).toInt32)).toNatClampNeg))) (by rw [e1]; exact Ar5.1) (State.isArrayOf_alike hZ.alike Ar5.2.1) Ar5.2.2 hin6 hat7 (g := (mkF m 14 #[.val (.ref ob), .val (.int (0 : Int32)), .val (.int st_), .val (.int nu), .val (.int ((st_.toUInt32 >>> ((6 : Int32) &&& 31).toUInt32).toInt32))] [(.int ((st_.toUInt32 >>> ((6 : Int32) &&& 31).toUInt32).toInt32)), (.ref b0)])) rfl rfl (hb hby d3_14) t k) ?_
  show Go p e below _ (T1.setTop (mkF m 15 #[.val (.ref ob), .val (.int (0 : Int32)), .val (.int st_), .val (.int nu), .val (.int ((st_.toUInt32 >>> ((6 : Int32) &&& 31).toUInt32).toInt32))] [(.long (fu (((st_.toUInt32 >>> ((6 : Int32) &&& 31).toUInt32).toInt32)).toNatClampNeg))]))
  refine Go.by (fun t k => XS.lconst X1.here hx rfl (hb hby d3_15) k) ?_
  show Go p e below _ (T1.setTop (mkF m 16 #[.val (.ref ob), .val (.int (0 : Int32)), .val (.int st_), .val (.int nu), .val (.int ((st_.toUInt32 >>> ((6 : Int32) &&& 31).toUInt32).toInt32))] [(.long (0 : Int64)), (.long (fu (((st_.toUInt32 >>> ((6 : Int32) &&& 31).toUInt32).toInt32)).toNatClampNeg))]))
  refine Go.by (fun t k => XS.lcmp X1.here hx rfl (hb hby d3_16) rfl k) ?_
  show Go p e below _ (T1.setTop (mkF m 17 #[.val (.ref ob), .val (.int (0 : Int32)), .val (.int st_), .val (.int nu), .val (.int ((st_.toUInt32 >>> ((6 : Int32) &&& 31).toUInt32).toInt32))] [(.int (lcmpW (fu (((st_.toUInt32 >>> ((6 : Int32) &&& 31).toUInt32).toInt32)).toNatClampNeg) (0 : Int64)))]))
  by_cases hc8 : (fu (((st_.toUInt32 >>> ((6 : Int32) &&& 31).toUInt32).toInt32)).toNatClampNeg) = (0 : Int64)
  · skip
    refine Go.by (fun t k => XS.ifNo X1.here hx rfl (hb hby d3_17) rfl ((if0 _ _).trans (teq ((lw_eq (fu (((st_.toUInt32 >>> ((6 : Int32) &&& 31).toUInt32).toInt32)).toNatClampNeg) (0 : Int64)).mpr hc8)).2) k) ?_
    show Go p e below _ (T1.setTop (mkF m 20 #[.val (.ref ob), .val (.int (0 : Int32)), .val (.int st_), .val (.int nu), .val (.int ((st_.toUInt32 >>> ((6 : Int32) &&& 31).toUInt32).toInt32))] []))
    refine Go.by (fun t k => XS.aloadN X1.here hx rfl (hb hby d3_20) rfl rfl k) ?_
    show Go p e below _ (T1.setTop (mkF m 21 #[.val (.ref ob), .val (.int (0 : Int32)), .val (.int st_), .val (.int nu), .val (.int ((st_.toUInt32 >>> ((6 : Int32) &&& 31).toUInt32).toInt32))] [(.ref ob)]))
    obtain ⟨T9, X9, e9, st9⟩ := getF X1 hx hZ hown (host := "") (Or.inl (hw _ (List.mem_of_getElem? (i := 16) rfl))) Via.refl e1 P1 (g := (mkF m 21 #[.val (.ref ob), .val (.int (0 : Int32)), .val (.int st_), .val (.int nu), .val (.int ((st_.toUInt32 >>> ((6 : Int32) &&& 31).toUInt32).toInt32))] [(.ref ob)])) rfl rfl (hb hby d3_21)
    refine Go.by st9 ?_
    show Go p e below _ (T9.setTop (mkF m 24 #[.val (.ref ob), .val (.int (0 : Int32)), .val (.int st_), .val (.int nu), .val (.int ((st_.toUInt32 >>> ((6 : Int32) &&& 31).toUInt32).toInt32))] [(.ref gg)]))
    refine Go.by (fun t k => XS.iloadN X9.here hx rfl (hb hby d3_24) rfl k) ?_
    show Go p e below _ (T9.setTop (mkF m 25 #[.val (.ref ob), .val (.int (0 : Int32)), .val (.int st_), .val (.int nu), .val (.int ((st_.toUInt32 >>> ((6 : Int32) &&& 31).toUInt32).toInt32))] [(.int (0 : Int32)), (.ref gg)]))
    obtain ⟨cl10, Ar10, qk10, sz10, nn10, Ha10, Gf10⟩ := id P3
    have hin11 : ¬ ((0 : Int32) < 0 ∨ cl10.slots.size ≤ ((0 : Int32)).toNatClampNeg) := inb_of sz10 ⟨by decide, by decide⟩
    have hat12 : cl10.slots[((0 : Int32)).toNatClampNeg]? = some (.ref g0) := Has.at Ha10 hin11 rfl
    refine Go.by (fun t k => X9.aaload hx (j := (0 : Int32)) (v := (.ref g0)) (by rw [e9]; exact Ar10.1) (State.isArrayOf_alike hZ.alike Ar10.2.1) rfl Ar10.2.2 hin11 hat12 (g := (mkF m 25 #[.val (.ref ob), .val (.int (0 : Int32)), .val (.int st_), .val (.int nu), .val (.int ((st_.toUInt32 >>> ((6 : Int32) &&& 31).toUInt32).toInt32))] [(.int (0 : Int32)), (.ref gg)])) rfl rfl (hb hby d3_25) t k) ?_
    show Go p e below _ (T9.setTop (mkF m 26 #[.val (.ref ob), .val (.int (0 : Int32)), .val (.int st_), .val (.int nu), .val (.int ((st_.toUInt32 >>> ((6 : Int32) &&& 31).toUInt32).toInt32))] [(.ref g0)]))
    refine Go.by (fun t k => XS.iload X9.here hx rfl (hb hby d3_26) rfl k) ?_
    show Go p e below _ (T9.setTop (mkF m 28 #[.val (.ref ob), .val (.int (0 : Int32)), .val (.int st_), .val (.int nu), .val (.int ((st_.toUInt32 >>> ((6 : Int32) &&& 31).toUInt32).toInt32))] [(.int ((st_.toUInt32 >>> ((6 : Int32) &&& 31).toUInt32).toInt32)), (.ref g0)]))
    refine Go.by (fun t k => XS.iloadN X9.here hx rfl (hb hby d3_28) rfl k) ?_
    show Go p e below _ (T9.setTop (mkF m 29 #[.val (.ref ob), .val (.int (0 : Int32)), .val (.int st_), .val (.int nu), .val (.int ((st_.toUInt32 >>> ((6 : Int32) &&& 31).toUInt32).toInt32))] [(.int nu), (.int ((st_.toUInt32 >>> ((6 : Int32) &&& 31).toUInt32).toInt32)), (.ref g0)]))
    obtain ⟨_, vs13, ⟨cl13, Ar13, qk13, sz13, nn13, Ha13, Gf13⟩, ln13, fn13⟩ := id P5
    have hin14 : ¬ (((st_.toUInt32 >>> ((6 : Int32) &&& 31).toUInt32).toInt32) < 0 ∨ cl13.slots.size ≤ (((st_.toUInt32 >>> ((6 : Int32) &&& 31).toUInt32).toInt32)).toNatClampNeg) := inb_of sz13 hin
    obtain ⟨T15, h15, X15, e15, W15, st15⟩ := stI X9 hx hZ e9 Ar13 (j := ((st_.toUInt32 >>> ((6 : Int32) &&& 31).toUInt32).toInt32)) hin14 (g := (mkF m 29 #[.val (.ref ob), .val (.int (0 : Int32)), .val (.int st_), .val (.int nu), .val (.int ((st_.toUInt32 >>> ((6 : Int32) &&& 31).toUInt32).toInt32))] [(.int nu), (.int ((st_.toUInt32 >>> ((6 : Int32) &&& 31).toUInt32).toInt32)), (.ref g0)])) rfl rfl (hb hby d3_29)
    have N15 := Fr.snoc X15 N0 gg_
    have F16 : own_Ia Z h15 g0 zz (own_up gu (((st_.toUInt32 >>> ((6 : Int32) &&& 31).toUInt32).toInt32)).toNatClampNeg nu) := own_Ia.set Ar13 qk13 sz13 nn13 Ha13 Gf13 ln13 fn13 W15 (by have q := hin14; have := sz13; omega)
    refine Go.by st15 ?_
    show Go p e below _ (T15.setTop (mkF m 30 #[.val (.ref ob), .val (.int (0 : Int32)), .val (.int st_), .val (.int nu), .val (.int ((st_.toUInt32 >>> ((6 : Int32) &&& 31).toUInt32).toInt32))] []))
    refine Go.by (fun t k => XS.aloadN X15.here hx rfl (hb hby d3_30) rfl rfl k) ?_
    show Go p e below _ (T15.setTop (mkF m 31 #[.val (.ref ob), .val (.int (0 : Int32)), .val (.int st_), .val (.int nu), .val (.int ((st_.toUInt32 >>> ((6 : Int32) &&& 31).toUInt32).toInt32))] [(.ref ob)]))
    have F17 : Fld Z h15 ob "com/example/wakepath/wakepath/automaton/NumberedStates" "bits" "[[J" (.ref bb) := (P0.other W15 (Or.inl nb2))
    obtain ⟨T18, X18, e18, st18⟩ := getF X15 hx hZ hown (host := "") (Or.inl (hw _ (List.mem_of_getElem? (i := 12) rfl))) Via.refl e15 F17 (g := (mkF m 31 #[.val (.ref ob), .val (.int (0 : Int32)), .val (.int st_), .val (.int nu), .val (.int ((st_.toUInt32 >>> ((6 : Int32) &&& 31).toUInt32).toInt32))] [(.ref ob)])) rfl rfl (hb hby d3_31)
    refine Go.by st18 ?_
    show Go p e below _ (T18.setTop (mkF m 34 #[.val (.ref ob), .val (.int (0 : Int32)), .val (.int st_), .val (.int nu), .val (.int ((st_.toUInt32 >>> ((6 : Int32) &&& 31).toUInt32).toInt32))] [(.ref bb)]))
    refine Go.by (fun t k => XS.iloadN X18.here hx rfl (hb hby d3_34) rfl k) ?_
    show Go p e below _ (T18.setTop (mkF m 35 #[.val (.ref ob), .val (.int (0 : Int32)), .val (.int st_), .val (.int nu), .val (.int ((st_.toUInt32 >>> ((6 : Int32) &&& 31).toUInt32).toInt32))] [(.int (0 : Int32)), (.ref bb)]))
    have F19 : Arv Z h15 bb kb (.array .long) (2 : Int32) [(.ref b0), (.ref b1)] .null := (P2.other W15 nb4)
    obtain ⟨cl20, Ar20, qk20, sz20, nn20, Ha20, Gf20⟩ := id F19
    have hin21 : ¬ ((0 : Int32) < 0 ∨ cl20.slots.size ≤ ((0 : Int32)).toNatClampNeg) := inb_of sz20 ⟨by decide, by decide⟩
    have hat22 : cl20.slots[((0 : Int32)).toNatClampNeg]? = some (.ref b0) := Has.at Ha20 hin21 rfl
    refine Go.by (fun t k => X18.aaload hx (j := (0 : Int32)) (v := (.ref b0)) (by rw [e18]; exact Ar20.1) (State.isArrayOf_alike hZ.alike Ar20.2.1) rfl Ar20.2.2 hin21 hat22 (g := (mkF m 35 #[.val (.ref ob), .val (.int (0 : Int32)), .val (.int st_), .val (.int nu), .val (.int ((st_.toUInt32 >>> ((6 : Int32) &&& 31).toUInt32).toInt32))] [(.int (0 : Int32)), (.ref bb)])) rfl rfl (hb hby d3_35) t k) ?_
    show Go p e below _ (T18.setTop (mkF m 36 #[.val (.ref ob), .val (.int (0 : Int32)), .val (.int st_), .val (.int nu), .val (.int ((st_.toUInt32 >>> ((6 : Int32) &&& 31).toUInt32).toInt32))] [(.ref b0)]))
    refine Go.by (fun t k => XS.iload X18.here hx rfl (hb hby d3_36) rfl k) ?_
    show Go p e below _ (T18.setTop (mkF m 38 #[.val (.ref ob), .val (.int (0 : Int32)), .val (.int st_), .val (.int nu), .val (.int ((st_.toUInt32 >>> ((6 : Int32) &&& 31).toUInt32).toInt32))] [(.int ((st_.toUInt32 >>> ((6 : Int32) &&& 31).toUInt32).toInt32)), (.ref b0)]))
    refine Go.by (fun t k => ?_) (B := T18.setTop (mkF m 39 #[.val (.ref ob), .val (.int (0 : Int32)), .val (.int st_), .val (.int nu), .val (.int ((st_.toUInt32 >>> ((6 : Int32) &&& 31).toUInt32).toInt32))] [(.int ((st_.toUInt32 >>> ((6 : Int32) &&& 31).toUInt32).toInt32)), (.ref b0), (.int ((st_.toUInt32 >>> ((6 : Int32) &&& 31).toUInt32).toInt32)), (.ref b0)])) ?_
    · jvm_step X18.here [X18.here.top, hx, (hb hby d3_38), Value.category]
      exact k
    show Go p e below _ (T18.setTop (mkF m 39 #[.val (.ref ob), .val (.int (0 : Int32)), .val (.int st_), .val (.int nu), .val (.int ((st_.toUInt32 >>> ((6 : Int32) &&& 31).toUInt32).toInt32))] [(.int ((st_.toUInt32 >>> ((6 : Int32) &&& 31).toUInt32).toInt32)), (.ref b0), (.int ((st_.toUInt32 >>> ((6 : Int32) &&& 31).toUInt32).toInt32)), (.ref b0)]))
    have F23 : own_La Z h15 b0 zz fu := (P4.other W15 nbg)
    obtain ⟨_, vs24, ⟨cl24, Ar24, qk24, sz24, nn24, Ha24, Gf24⟩, ln24, fn24⟩ := id F23
    have hin25 : ¬ (((st_.toUInt32 >>> ((6 : Int32) &&& 31).toUInt32).toInt32) < 0 ∨ cl24.slots.size ≤ (((st_.toUInt32 >>> ((6 : Int32) &&& 31).toUInt32).toInt32)).toNatClampNeg) := inb_of sz24 hin
    have hat26 : cl24.slots[(((st_.toUInt32 >>> ((6 : Int32) &&& 31).toUInt32).toInt32)).toNatClampNeg]? = some (.long (fu (((st_.toUInt32 >>> ((6 : Int32) &&& 31).toUInt32).toInt32)).toNatClampNeg)) := Has.at Ha24 hin25 (fn24 _ (by have q := hin25; have := sz24; omega))
    refine Go.by (fun t k => X18.laload hx (j := ((st_.toUInt32 >>> ((6 : Int32) &&& 31).toUInt32).toInt32)) (v := (.long (fu (((st_.toUInt32 >>> ((6 : Int32) &&& 31).toUInt32).toInt32)).toNatClampNeg))) (by rw [e18]; exact Ar24.1) (State.isArrayOf_alike hZ.alike Ar24.2.1) Ar24.2.2 hin25 hat26 (g := (mkF m 39 #[.val (.ref ob), .val (.int (0 : Int32)), .val (.int st_), .val (.int nu), .val (.int ((st_.toUInt32 >>> ((6 : Int32) &&& 31).toUInt32).toInt32))] [(.int ((st_.toUInt32 >>> ((6 : Int32) &&& 31).toUInt32).toInt32)), (.ref b0), (.int ((st_.toUInt32 >>> ((6 : Int32) &&& 31).toUInt32).toInt32)), (.ref b0)])) rfl rfl (hb hby d3_39) t k) ?_
    show Go p e below _ (T18.setTop (mkF m 40 #[.val (.ref ob), .val (.int (0 : Int32)), .val (.int st_), .val (.int nu), .val (.int ((st_.toUInt32 >>> ((6 : Int32) &&& 31).toUInt32).toInt32))] [(.long (fu (((st_.toUInt32 >>> ((6 : Int32) &&& 31).toUInt32).toInt32)).toNatClampNeg)), (.int ((st_.toUInt32 >>> ((6 : Int32) &&& 31).toUInt32).toInt32)), (.ref b0)]))
    refine Go.by (fun t k => XS.lconst X18.here hx rfl (hb hby d3_40) k) ?_
    show Go p e below _ (T18.setTop (mkF m 41 #[.val (.ref ob), .val (.int (0 : Int32)), .val (.int st_), .val (.int nu), .val (.int ((st_.toUInt32 >>> ((6 : Int32) &&& 31).toUInt32).toInt32))] [(.long (1 : Int64)), (.long (fu (((st_.toUInt32 >>> ((6 : Int32) &&& 31).toUInt32).toInt32)).toNatClampNeg)), (.int ((st_.toUInt32 >>> ((6 : Int32) &&& 31).toUInt32).toInt32)), (.ref b0)]))
    refine Go.by (fun t k => XS.iloadN X18.here hx rfl (hb hby d3_41) rfl k) ?_
    show Go p e below _ (T18.setTop (mkF m 42 #[.val (.ref ob), .val (.int (0 : Int32)), .val (.int st_), .val (.int nu), .val (.int ((st_.toUInt32 >>> ((6 : Int32) &&& 31).toUInt32).toInt32))] [(.int st_), (.long (1 : Int64)), (.long (fu (((st_.toUInt32 >>> ((6 : Int32) &&& 31).toUInt32).toInt32)).toNatClampNeg)), (.int ((st_.toUInt32 >>> ((6 : Int32) &&& 31).toUInt32).toInt32)), (.ref b0)]))
    refine Go.by (fun t k => XS.lshl X18.here hx rfl (hb hby d3_42) rfl k) ?_
    show Go p e below _ (T18.setTop (mkF m 43 #[.val (.ref ob), .val (.int (0 : Int32)), .val (.int st_), .val (.int nu), .val (.int ((st_.toUInt32 >>> ((6 : Int32) &&& 31).toUInt32).toInt32))] [(.long ((1 : Int64) <<< (st_ &&& 0x3f).toInt64)), (.long (fu (((st_.toUInt32 >>> ((6 : Int32) &&& 31).toUInt32).toInt32)).toNatClampNeg)), (.int ((st_.toUInt32 >>> ((6 : Int32) &&& 31).toUInt32).toInt32)), (.ref b0)]))
    refine Go.by (fun t k => XS.lor X18.here hx rfl (hb hby d3_43) rfl k) ?_
    show Go p e below _ (T18.setTop (mkF m 44 #[.val (.ref ob), .val (.int (0 : Int32)), .val (.int st_), .val (.int nu), .val (.int ((st_.toUInt32 >>> ((6 : Int32) &&& 31).toUInt32).toInt32))] [(.long ((fu (((st_.toUInt32 >>> ((6 : Int32) &&& 31).toUInt32).toInt32)).toNatClampNeg) ||| ((1 : Int64) <<< (st_ &&& 0x3f).toInt64))), (.int ((st_.toUInt32 >>> ((6 : Int32) &&& 31).toUInt32).toInt32)), (.ref b0)]))
    obtain ⟨_, vs27, ⟨cl27, Ar27, qk27, sz27, nn27, Ha27, Gf27⟩, ln27, fn27⟩ := id F23
    have hin28 : ¬ (((st_.toUInt32 >>> ((6 : Int32) &&& 31).toUInt32).toInt32) < 0 ∨ cl27.slots.size ≤ (((st_.toUInt32 >>> ((6 : Int32) &&& 31).toUInt32).toInt32)).toNatClampNeg) := inb_of sz27 hin
    obtain ⟨T29, h29, X29, e29, W29, st29⟩ := stJ X18 hx hZ e18 Ar27 (j := ((st_.toUInt32 >>> ((6 : Int32) &&& 31).toUInt32).toInt32)) hin28 (g := (mkF m 44 #[.val (.ref ob), .val (.int (0 : Int32)), .val (.int st_), .val (.int nu), .val (.int ((st_.toUInt32 >>> ((6 : Int32) &&& 31).toUInt32).toInt32))] [(.long ((fu (((st_.toUInt32 >>> ((6 : Int32) &&& 31).toUInt32).toInt32)).toNatClampNeg) ||| ((1 : Int64) <<< (st_ &&& 0x3f).toInt64))), (.int ((st_.toUInt32 >>> ((6 : Int32) &&& 31).toUInt32).toInt32)), (.ref b0)])) rfl rfl (hb hby d3_44)
    have N29 := Fr.snoc X29 N15 gb
    have F30 : own_La Z h29 b0 zz (own_up fu (((st_.toUInt32 >>> ((6 : Int32) &&& 31).toUInt32).toInt32)).toNatClampNeg ((fu (((st_.toUInt32 >>> ((6 : Int32) &&& 31).toUInt32).toInt32)).toNatClampNeg) ||| ((1 : Int64) <<< (st_ &&& 0x3f).toInt64))) := own_La.set Ar27 qk27 sz27 nn27 Ha27 Gf27 ln27 fn27 W29 (by have q := hin28; have := sz27; omega)
    refine Go.by st29 ?_
    show Go p e below _ (T29.setTop (mkF m 45 #[.val (.ref ob), .val (.int (0 : Int32)), .val (.int st_), .val (.int nu), .val (.int ((st_.toUInt32 >>> ((6 : Int32) &&& 31).toUInt32).toInt32))] []))
    have F31 : Keep h0 h29 [b0, g0] := (((Keep.refl h0 [b0, g0]).wr W15 (Or.inl (List.mem_of_getElem? (i := 1) rfl))).wr W29 (Or.inl (List.mem_of_getElem? (i := 0) rfl)))
    have F32 : own_Ia Z h29 g0 zz (own_up gu (((st_.toUInt32 >>> ((6 : Int32) &&& 31).toUInt32).toInt32)).toNatClampNeg nu) := (F16.other W29 (Ne.symm nbg))
    have hq : Q_add_0 Z ob st_ nu bb gg b0 g0 b1 g1 kb kg zz fu gu h0 n0 none h29 _ := ⟨rfl, N29, F31, F30, (by rw [show own_addI fu gu st_ nu = _ from if_pos hc8]; exact F32)⟩
    exact Go.ret0 X29 hx Bd.returns hlk (hb hby d3_45) (by decide) (by decide) (by rw [e29]; exact hq)
  · skip
    refine Go.by (fun t k => XS.ifYes X1.here hx rfl (pc0 := 17) (pc' := 30) rfl (hb hby d3_17) rfl ((if0 _ _).trans (feq (fun q => hc8 ((lw_eq (fu (((st_.toUInt32 >>> ((6 : Int32) &&& 31).toUInt32).toInt32)).toNatClampNeg) (0 : Int64)).mp q))).2) (by decide) (by decide) k) ?_
    show Go p e below _ (T1.setTop (mkF m 30 #[.val (.ref ob), .val (.int (0 : Int32)), .val (.int st_), .val (.int nu), .val (.int ((st_.toUInt32 >>> ((6 : Int32) &&& 31).toUInt32).toInt32))] []))
    refine Go.by (fun t k => XS.aloadN X1.here hx rfl (hb hby d3_30) rfl rfl k) ?_
    show Go p e below _ (T1.setTop (mkF m 31 #[.val (.ref ob), .val (.int (0 : Int32)), .val (.int st_), .val (.int nu), .val (.int ((st_.toUInt32 >>> ((6 : Int32) &&& 31).toUInt32).toInt32))] [(.ref ob)]))
    obtain ⟨T33, X33, e33, st33⟩ := getF X1 hx hZ hown (host := "") (Or.inl (hw _ (List.mem_of_getElem? (i := 12) rfl))) Via.refl e1 P0 (g := (mkF m 31 #[.val (.ref ob), .val (.int (0 : Int32)), .val (.int st_), .val (.int nu), .val (.int ((st_.toUInt32 >>> ((6 : Int32) &&& 31).toUInt32).toInt32))] [(.ref ob)])) rfl rfl (hb hby d3_31)
    refine Go.by st33 ?_
    show Go p e below _ (T33.setTop (mkF m 34 #[.val (.ref ob), .val (.int (0 : Int32)), .val (.int st_), .val (.int nu), .val (.int ((st_.toUInt32 >>> ((6 : Int32) &&& 31).toUInt32).toInt32))] [(.ref bb)]))
    refine Go.by (fun t k => XS.iloadN X33.here hx rfl (hb hby d3_34) rfl k) ?_
    show Go p e below _ (T33.setTop (mkF m 35 #[.val (.ref ob), .val (.int (0 : Int32)), .val (.int st_), .val (.int nu), .val (.int ((st_.toUInt32 >>> ((6 : Int32) &&& 31).toUInt32).toInt32))] [(.int (0 : Int32)), (.ref bb)]))
    obtain ⟨cl34, Ar34, qk34, sz34, nn34, Ha34, Gf34⟩ := id P2
    have hin35 : ¬ ((0 : Int32) < 0 ∨ cl34.slots.size ≤ ((0 : Int32)).toNatClampNeg) := inb_of sz34 ⟨by decide, by decide⟩
    have hat36 : cl34.slots[((0 : Int32)).toNatClampNeg]? = some (.ref b0) := Has.at Ha34 hin35 rfl
    refine Go.by (fun t k => X33.aaload hx (j := (0 : Int32)) (v := (.ref b0)) (by rw [e33]; exact Ar34.1) (State.isArrayOf_alike hZ.alike Ar34.2.1) rfl Ar34.2.2 hin35 hat36 (g := (mkF m 35 #[.val (.ref ob), .val (.int (0 : Int32)), .val (.int st_), .val (.int nu), .val (.int ((st_.toUInt32 >>> ((6 : Int32) &&& 31).toUInt32).toInt32))] [(.int (0 : Int32)), (.ref bb)])) rfl rfl (hb hby d3_35) t k) ?_
    show Go p e below _ (T33.setTop (mkF m 36 #[.val (.ref ob), .val (.int (0 : Int32)), .val (.int st_), .val (.int nu), .val (.int ((st_.toUInt32 >>> ((6 : Int32) &&& 31).toUInt32).toInt32))] [(.ref b0)]))
    refine Go.by (fun t k => XS.iload X33.here hx rfl (hb hby d3_36) rfl k) ?_
    show Go p e below _ (T33.setTop (mkF m 38 #[.val (.ref ob), .val (.int (0 : Int32)), .val (.int st_), .val (.int nu), .val (.int ((st_.toUInt32 >>> ((6 : Int32) &&& 31).toUInt32).toInt32))] [(.int ((st_.toUInt32 >>> ((6 : Int32) &&& 31).toUInt32).toInt32)), (.ref b0)]))
    refine Go.by (fun t k => ?_) (B := T33.setTop (mkF m 39 #[.val (.ref ob), .val (.int (0 : Int32)), .val (.int st_), .val (.int nu), .val (.int ((st_.toUInt32 >>> ((6 : Int32) &&& 31).toUInt32).toInt32))] [(.int ((st_.toUInt32 >>> ((6 : Int32) &&& 31).toUInt32).toInt32)), (.ref b0), (.int ((st_.toUInt32 >>> ((6 : Int32) &&& 31).toUInt32).toInt32)), (.ref b0)])) ?_
    · jvm_step X33.here [X33.here.top, hx, (hb hby d3_38), Value.category]
      exact k
    show Go p e below _ (T33.setTop (mkF m 39 #[.val (.ref ob), .val (.int (0 : Int32)), .val (.int st_), .val (.int nu), .val (.int ((st_.toUInt32 >>> ((6 : Int32) &&& 31).toUInt32).toInt32))] [(.int ((st_.toUInt32 >>> ((6 : Int32) &&& 31).toUInt32).toInt32)), (.ref b0), (.int ((st_.toUInt32 >>> ((6 : Int32) &&& 31).toUInt32).toInt32)), (.ref b0)]))
    obtain ⟨_, vs37, ⟨cl37, Ar37, qk37, sz37, nn37, Ha37, Gf37⟩, ln37, fn37⟩ := id P4
    have hin38 : ¬ (((st_.toUInt32 >>> ((6 : Int32) &&& 31).toUInt32).toInt32) < 0 ∨ cl37.slots.size ≤ (((st_.toUInt32 >>> ((6 : Int32) &&& 31).toUInt32).toInt32)).toNatClampNeg) := inb_of sz37 hin
    have hat39 : cl37.slots[(((st_.toUInt32 >>> ((6 : Int32) &&& 31).toUInt32).toInt32)).toNatClampNeg]? = some (.long (fu (((st_.toUInt32 >>> ((6 : Int32) &&& 31).toUInt32).toInt32)).toNatClampNeg)) := Has.at Ha37 hin38 (fn37 _ (by have q := hin38; have := sz37; omega))
    refine Go.by (fun t k => X33.laload hx (j := ((st_.toUInt32 >>> ((6 : Int32) &&& 31).toUInt32).toInt32)) (v := (.long (fu (((st_.toUInt32 >>> ((6 : Int32) &&& 31).toUInt32).toInt32)).toNatClampNeg))) (by rw [e33]; exact Ar37.1) (State.isArrayOf_alike hZ.alike Ar37.2.1) Ar37.2.2 hin38 hat39 (g := (mkF m 39 #[.val (.ref ob), .val (.int (0 : Int32)), .val (.int st_), .val (.int nu), .val (.int ((st_.toUInt32 >>> ((6 : Int32) &&& 31).toUInt32).toInt32))] [(.int ((st_.toUInt32 >>> ((6 : Int32) &&& 31).toUInt32).toInt32)), (.ref b0), (.int ((st_.toUInt32 >>> ((6 : Int32) &&& 31).toUInt32).toInt32)), (.ref b0)])) rfl rfl (hb hby d3_39) t k) ?_
    show Go p e below _ (T33.setTop (mkF m 40 #[.val (.ref ob), .val (.int (0 : Int32)), .val (.int st_), .val (.int nu), .val (.int ((st_.toUInt32 >>> ((6 : Int32) &&& 31).toUInt32).toInt32))] [(.long (fu (((st_.toUInt32 >>> ((6 : Int32) &&& 31).toUInt32).toInt32)).toNatClampNeg)), (.int ((st_.toUInt32 >>> ((6 : Int32) &&& 31).toUInt32).toInt32)), (.ref b0)]))
    refine Go.by (fun t k => XS.lconst X33.here hx rfl (hb hby d3_40) k) ?_
    show Go p e below _ (T33.setTop (mkF m 41 #[.val (.ref ob), .val (.int (0 : Int32)), .val (.int st_), .val (.int nu), .val (.int ((st_.toUInt32 >>> ((6 : Int32) &&& 31).toUInt32).toInt32))] [(.long (1 : Int64)), (.long (fu (((st_.toUInt32 >>> ((6 : Int32) &&& 31).toUInt32).toInt32)).toNatClampNeg)), (.int ((st_.toUInt32 >>> ((6 : Int32) &&& 31).toUInt32).toInt32)), (.ref b0)]))
    refine Go.by (fun t k => XS.iloadN X33.here hx rfl (hb hby d3_41) rfl k) ?_
    show Go p e below _ (T33.setTop (mkF m 42 #[.val (.ref ob), .val (.int (0 : Int32)), .val (.int st_), .val (.int nu), .val (.int ((st_.toUInt32 >>> ((6 : Int32) &&& 31).toUInt32).toInt32))] [(.int st_), (.long (1 : Int64)), (.long (fu (((st_.toUInt32 >>> ((6 : Int32) &&& 31).toUInt32).toInt32)).toNatClampNeg)), (.int ((st_.toUInt32 >>> ((6 : Int32) &&& 31).toUInt32).toInt32)), (.ref b0)]))
    refine Go.by (fun t k => XS.lshl X33.here hx rfl (hb hby d3_42) rfl k) ?_
    show Go p e below _ (T33.setTop (mkF m 43 #[.val (.ref ob), .val (.int (0 : Int32)), .val (.int st_), .val (.int nu), .val (.int ((st_.toUInt32 >>> ((6 : Int32) &&& 31).toUInt32).toInt32))] [(.long ((1 : Int64) <<< (st_ &&& 0x3f).toInt64)), (.long (fu (((st_.toUInt32 >>> ((6 : Int32) &&& 31).toUInt32).toInt32)).toNatClampNeg)), (.int ((st_.toUInt32 >>> ((6 : Int32) &&& 31).toUInt32).toInt32)), (.ref b0)]))
    refine Go.by (fun t k => XS.lor X33.here hx rfl (hb hby d3_43) rfl k) ?_
    show Go p e below _ (T33.setTop (mkF m 44 #[.val (.ref ob), .val (.int (0 : Int32)), .val (.int st_), .val (.int nu), .val (.int ((st_.toUInt32 >>> ((6 : Int32) &&& 31).toUInt32).toInt32))] [(.long ((fu (((st_.toUInt32 >>> ((6 : Int32) &&& 31).toUInt32).toInt32)).toNatClampNeg) ||| ((1 : Int64) <<< (st_ &&& 0x3f).toInt64))), (.int ((st_.toUInt32 >>> ((6 : Int32) &&& 31).toUInt32).toInt32)), (.ref b0)]))
    obtain ⟨_, vs40, ⟨cl40, Ar40, qk40, sz40, nn40, Ha40, Gf40⟩, ln40, fn40⟩ := id P4
    have hin41 : ¬ (((st_.toUInt32 >>> ((6 : Int32) &&& 31).toUInt32).toInt32) < 0 ∨ cl40.slots.size ≤ (((st_.toUInt32 >>> ((6 : Int32) &&& 31).toUInt32).toInt32)).toNatClampNeg) := inb_of sz40 hin
    obtain ⟨T42, h42, X42, e42, W42, st42⟩ := stJ X33 hx hZ e33 Ar40 (j := ((st_.toUInt32 >>> ((6 : Int32) &&& 31).toUInt32).toInt32)) hin41 (g := (mkF m 44 #[.val (.ref ob), .val (.int (0 : Int32)), .val (.int st_), .val (.int nu), .val (.int ((st_.toUInt32 >>> ((6 : Int32) &&& 31).toUInt32).toInt32))] [(.long ((fu (((st_.toUInt32 >>> ((6 : Int32) &&& 31).toUInt32).toInt32)).toNatClampNeg) ||| ((1 : Int64) <<< (st_ &&& 0x3f).toInt64))), (.int ((st_.toUInt32 >>> ((6 : Int32) &&& 31).toUInt32).toInt32)), (.ref b0)])) rfl rfl (hb hby d3_44)
    have N42 := Fr.snoc X42 N0 gb
    have F43 : own_La Z h42 b0 zz (own_up fu (((st_.toUInt32 >>> ((6 : Int32) &&& 31).toUInt32).toInt32)).toNatClampNeg ((fu (((st_.toUInt32 >>> ((6 : Int32) &&& 31).toUInt32).toInt32)).toNatClampNeg) ||| ((1 : Int64) <<< (st_ &&& 0x3f).toInt64))) := own_La.set Ar40 qk40 sz40 nn40 Ha40 Gf40 ln40 fn40 W42 (by have q := hin41; have := sz40; omega)
    refine Go.by st42 ?_
    show Go p e below _ (T42.setTop (mkF m 45 #[.val (.ref ob), .val (.int (0 : Int32)), .val (.int st_), .val (.int nu), .val (.int ((st_.toUInt32 >>> ((6 : Int32) &&& 31).toUInt32).toInt32))] []))
    have F44 : Keep h0 h42 [b0, g0] := ((Keep.refl h0 [b0, g0]).wr W42 (Or.inl (List.mem_of_getElem? (i := 0) rfl)))
    have F45 : own_Ia Z h42 g0 zz gu := (P5.other W42 (Ne.symm nbg))
    have hq : Q_add_0 Z ob st_ nu bb gg b0 g0 b1 g1 kb kg zz fu gu h0 n0 none h42 _ := ⟨rfl, N42, F44, F43, (by rw [show own_addI fu gu st_ nu = _ from if_neg hc8]; exact F45)⟩
    exact Go.ret0 X42 hx Bd.returns hlk (hb hby d3_45) (by decide) (by decide) (by rw [e42]; exact hq)
theorem ef_add_1 (m : MethodId) (ob : Addr) (st_ : Int32) (nu : Int32) : entryFrame m #[(.ref ob), (.int (1 : Int32)), (.int st_), (.int nu)] 5 = mkF m 0 #[.val (.ref ob), .val (.int (1 : Int32)), .val (.int st_), .val (.int nu), .unset] [] := by first | (simp [entryFrame, mkF, argsToLocals, Value.category]; done) | rfl
def Q_add_1 (Z : State) (ob : Addr) (st_ : Int32) (nu : Int32) (bb : Addr) (gg : Addr) (b0 : Addr) (g0 : Addr) (b1 : Addr) (g1 : Addr) (kb : ClassId) (kg : ClassId) (zz : Int32) (fu : Nat → Int64) (gu : Nat → Int32) (h0 : Heap) (n0 : Nat) (v : Option Value) (h : Heap) (L : List Loc) : Prop := v = none ∧ Fr n0 L ∧ Keep h0 h [b1, g1] ∧ own_La Z h b1 zz (own_addL fu st_) ∧ own_Ia Z h g1 zz (own_addI fu gu st_ nu)
set_option maxRecDepth 65536 in
set_option maxHeartbeats 40000000 in
theorem add_1 (l : Launch) (Z : State) (a0 : Array Value) (hw : ∀ d ∈ tables_1, d.before a0 Z = true) (ws : List Jvm.Cond) (ob : Addr) (st_ : Int32) (nu : Int32) (bb : Addr) (gg : Addr) (b0 : Addr) (g0 : Addr) (b1 : Addr) (g1 : Addr) (kb : ClassId) (kg : ClassId) (zz : Int32) (fu : Nat → Int64) (gu : Nat → Int32) (h0 : Heap) (n0 : Nat) (O0 : Old Z n0 h0) (P0 : Fld Z h0 ob "com/example/wakepath/wakepath/automaton/NumberedStates" "bits" "[[J" (.ref bb)) (P1 : Fld Z h0 ob "com/example/wakepath/wakepath/automaton/NumberedStates" "firstNumber" "[[I" (.ref gg)) (P2 : Arv Z h0 bb kb (.array .long) (2 : Int32) [(.ref b0), (.ref b1)] .null) (P3 : Arv Z h0 gg kg (.array .int) (2 : Int32) [(.ref g0), (.ref g1)] .null) (P4 : own_La Z h0 b1 zz fu) (P5 : own_Ia Z h0 g1 zz gu) (gb : n0 ≤ b1) (gg_ : n0 ≤ g1) (nbg : b1 ≠ g1) (nb1 : ob ≠ b1) (nb2 : ob ≠ g1) (nb3 : bb ≠ b1) (nb4 : bb ≠ g1) (nb5 : gg ≠ b1) (nb6 : gg ≠ g1) (hin : ¬ ((st_.toUInt32 >>> ((6 : Int32) &&& 31).toUInt32).toInt32) < 0 ∧ ((st_.toUInt32 >>> ((6 : Int32) &&& 31).toUInt32).toInt32) < zz) :
    MetFree l (⟨"com/example/wakepath/wakepath/automaton/NumberedStates", "add", "(III)V"⟩ : MethodName) (head1 (Jvm.Cond.code (⟨"com/example/wakepath/wakepath/automaton/NumberedStates", "add", "(III)V"⟩ : MethodName) prog_15_method_2_code 5 none :: ws) ({ frames := 0, cells := 0, slots := 0, locals := 0 } : Room)) (fun a U => a = #[(.ref ob), (.int (1 : Int32)), (.int st_), (.int nu)] ∧ Z.Warmed39 U.vm ∧ U.heap = h0) (fun _ _ _ _ _ => True) (fun _ U o U' => ∃ v L, o = .returned v ∧ Q_add_1 Z ob st_ nu bb gg b0 g0 b1 g1 kb kg zz fu gu h0 n0 v U'.heap L ∧ FrameEnd U o U' L ({ frames := 0, cells := 0, slots := 0, locals := 0 } : Room).cells ({ frames := 0, cells := 0, slots := 0, locals := 0 } : Room).slots) := by
  refine MetFree.of_bodySF (plainFor_of_name pn_1) hisR ?_
  intro p e s m args below meth c s₁ Bd hml0 hP hK
  obtain ⟨rfl, hZ, hh⟩ := hP
  have hx := Bd.exec
  have hby := Bd.bytes
  have hml : c.maxLocals = 5 := hml0
  have hown : s.vm.findClass "com/example/wakepath/wakepath/automaton/NumberedStates" = some m.cls := findClass_of_methodNamed Bd.named
  have hnm := (name_of_methodNamed Bd.named Bd.method).1
  have hlk := BodyLoose.notSynchronized Bd
  have X0 : Stand p l e ({ frames := 0, cells := 0, slots := 0, locals := 0 } : Room) s m #[(.ref ob), (.int (1 : Int32)), (.int st_), (.int nu)] below meth c s₁ [] 0 0 := Stand.of_body Bd
  have e0 : s₁.heap = h0 := by rw [← hh, Bd.state]; rfl
  have N0 := Fr.nil n0
  refine Go.start (P := fun o U' => ∃ v L, o = .returned v ∧ Q_add_1 Z ob st_ nu bb gg b0 g0 b1 g1 kb kg zz fu gu h0 n0 v U'.heap L ∧ FrameEnd s o U' L ({ frames := 0, cells := 0, slots := 0, locals := 0 } : Room).cells ({ frames := 0, cells := 0, slots := 0, locals := 0 } : Room).slots) (ef_add_1 m ob st_ nu) ?_
  show Go p e below _ (s₁.setTop (mkF m 0 #[.val (.ref ob), .val (.int (1 : Int32)), .val (.int st_), .val (.int nu), .unset] []))
  refine Go.by (fun t k => XS.iloadN X0.here hx rfl (hb hby d3_0) rfl k) ?_
  show Go p e below _ (s₁.setTop (mkF m 1 #[.val (.ref ob), .val (.int (1 : Int32)), .val (.int st_), .val (.int nu), .unset] [(.int st_)]))
  refine Go.by (fun t k => XS.bipush X0.here hx rfl (hb hby d3_1) k) ?_
  show Go p e below _ (s₁.setTop (mkF m 3 #[.val (.ref ob), .val (.int (1 : Int32)), .val (.int st_), .val (.int nu), .unset] [(.int (6 : Int32)), (.int st_)]))
  refine Go.by (fun t k => XS.iushr X0.here hx rfl (hb hby d3_3) rfl k) ?_
  show Go p e below _ (s₁.setTop (mkF m 4 #[.val (.ref ob), .val (.int (1 : Int32)), .val (.int st_), .val (.int nu), .unset] [(.int ((st_.toUInt32 >>> ((6 : Int32) &&& 31).toUInt32).toInt32))]))
  refine Go.by (fun t k => XS.istore X0.here hx rfl (hb hby d3_4) rfl (l' := #[.val (.ref ob), .val (.int (1 : Int32)), .val (.int st_), .val (.int nu), .val (.int ((st_.toUInt32 >>> ((6 : Int32) &&& 31).toUInt32).toInt32))]) rfl k) ?_
  show Go p e below _ (s₁.setTop (mkF m 6 #[.val (.ref ob), .val (.int (1 : Int32)), .val (.int st_), .val (.int nu), .val (.int ((st_.toUInt32 >>> ((6 : Int32) &&& 31).toUInt32).toInt32))] []))
  refine Go.by (fun t k => XS.aloadN X0.here hx rfl (hb hby d3_6) rfl rfl k) ?_
  show Go p e below _ (s₁.setTop (mkF m 7 #[.val (.ref ob), .val (.int (1 : Int32)), .val (.int st_), .val (.int nu), .val (.int ((st_.toUInt32 >>> ((6 : Int32) &&& 31).toUInt32).toInt32))] [(.ref ob)]))
  obtain ⟨T1, X1, e1, st1⟩ := getF X0 hx hZ hown (host := "") (Or.inl (hw _ (List.mem_of_getElem? (i := 12) rfl))) Via.refl e0 P0 (g := (mkF m 7 #[.val (.ref ob), .val (.int (1 : Int32)), .val (.int st_), .val (.int nu), .val (.int ((st_.toUInt32 >>> ((6 : Int32) &&& 31).toUInt32).toInt32))] [(.ref ob)])) rfl rfl (hb hby d3_7)
  refine Go.by st1 ?_
  show Go p e below _ (T1.setTop (mkF m 10 #[.val (.ref ob), .val (.int (1 : Int32)), .val (.int st_), .val (.int nu), .val (.int ((st_.toUInt32 >>> ((6 : Int32) &&& 31).toUInt32).toInt32))] [(.ref bb)]))
  refine Go.by (fun t k => XS.iloadN X1.here hx rfl (hb hby d3_10) rfl k) ?_
  show Go p e below _ (T1.setTop (mkF m 11 #[.val (.ref ob), .val (.int (1 : Int32)), .val (.int st_), .val (.int nu), .val (.int ((st_.toUInt32 >>> ((6 : Int32) &&& 31).toUInt32).toInt32))] [(.int (1 : Int32)), (.ref bb)]))
  obtain ⟨cl2, Ar2, qk2, sz2, nn2, Ha2, Gf2⟩ := id P2
  have hin3 : ¬ ((1 : Int32) < 0 ∨ cl2.slots.size ≤ ((1 : Int32)).toNatClampNeg) := inb_of sz2 ⟨by decide, by decide⟩
  have hat4 : cl2.slots[((1 : Int32)).toNatClampNeg]? = some (.ref b1) := Has.at Ha2 hin3 rfl
  refine Go.by (fun t k => X1.aaload hx (j := (1 : Int32)) (v := (.ref b1)) (by rw [e1]; exact Ar2.1) (State.isArrayOf_alike hZ.alike Ar2.2.1) rfl Ar2.2.2 hin3 hat4 (g := (mkF m 11 #[.val (.ref ob), .val (.int (1 : Int32)), .val (.int st_), .val (.int nu), .val (.int ((st_.toUInt32 >>> ((6 : Int32) &&& 31).toUInt32).toInt32))] [(.int (1 : Int32)), (.ref bb)])) rfl rfl (hb hby d3_11) t k) ?_
  show Go p e below _ (T1.setTop (mkF m 12 #[.val (.ref ob), .val (.int (1 : Int32)), .val (.int st_), .val (.int nu), .val (.int ((st_.toUInt32 >>> ((6 : Int32) &&& 31).toUInt32).toInt32))] [(.ref b1)]))
  refine Go.by (fun t k => XS.iload X1.here hx rfl (hb hby d3_12) rfl k) ?_
  show Go p e below _ (T1.setTop (mkF m 14 #[.val (.ref ob), .val (.int (1 : Int32)), .val (.int st_), .val (.int nu), .val (.int ((st_.toUInt32 >>> ((6 : Int32) &&& 31).toUInt32).toInt32))] [(.int ((st_.toUInt32 >>> ((6 : Int32) &&& 31).toUInt32).toInt32)), (.ref b1)]))
  obtain ⟨_, vs5, ⟨cl5, Ar5, qk5, sz5, nn5, Ha5, Gf5⟩, ln5, fn5⟩ := id P4
  have hin6 : ¬ (((st_.toUInt32 >>> ((6 : Int32) &&& 31).toUInt32).toInt32) < 0 ∨ cl5.slots.size ≤ (((st_.toUInt32 >>> ((6 : Int32) &&& 31).toUInt32).toInt32)).toNatClampNeg) := inb_of sz5 hin
  have hat7 : cl5.slots[(((st_.toUInt32 >>> ((6 : Int32) &&& 31).toUInt32).toInt32)).toNatClampNeg]? = some (.long (fu (((st_.toUInt32 >>> ((6 : Int32) &&& 31).toUInt32).toInt32)).toNatClampNeg)) := Has.at Ha5 hin6 (fn5 _ (by have q := hin6; have := sz5; omega))
  refine Go.by (fun t k => X1.laload hx (j := ((st_.toUInt32 >>> ((6 : Int32) &&& 31).toUInt32).toInt32)) (v := (.long (fu (((st_.toUInt32 >>> ((6 : Int32) &&& 31).toUInt32).toInt32)).toNatClampNeg))) (by rw [e1]; exact Ar5.1) (State.isArrayOf_alike hZ.alike Ar5.2.1) Ar5.2.2 hin6 hat7 (g := (mkF m 14 #[.val (.ref ob), .val (.int (1 : Int32)), .val (.int st_), .val (.int nu), .val (.int ((st_.toUInt32 >>> ((6 : Int32) &&& 31).toUInt32).toInt32))] [(.int ((st_.toUInt32 >>> ((6 : Int32) &&& 31).toUInt32).toInt32)), (.ref b1)])) rfl rfl (hb hby d3_14) t k) ?_
  show Go p e below _ (T1.setTop (mkF m 15 #[.val (.ref ob), .val (.int (1 : Int32)), .val (.int st_), .val (.int nu), .val (.int ((st_.toUInt32 >>> ((6 : Int32) &&& 31).toUInt32).toInt32))] [(.long (fu (((st_.toUInt32 >>> ((6 : Int32) &&& 31).toUInt32).toInt32)).toNatClampNeg))]))
  refine Go.by (fun t k => XS.lconst X1.here hx rfl (hb hby d3_15) k) ?_
  show Go p e below _ (T1.setTop (mkF m 16 #[.val (.ref ob), .val (.int (1 : Int32)), .val (.int st_), .val (.int nu), .val (.int ((st_.toUInt32 >>> ((6 : Int32) &&& 31).toUInt32).toInt32))] [(.long (0 : Int64)), (.long (fu (((st_.toUInt32 >>> ((6 : Int32) &&& 31).toUInt32).toInt32)).toNatClampNeg))]))
  refine Go.by (fun t k => XS.lcmp X1.here hx rfl (hb hby d3_16) rfl k) ?_
  show Go p e below _ (T1.setTop (mkF m 17 #[.val (.ref ob), .val (.int (1 : Int32)), .val (.int st_), .val (.int nu), .val (.int ((st_.toUInt32 >>> ((6 : Int32) &&& 31).toUInt32).toInt32))] [(.int (lcmpW (fu (((st_.toUInt32 >>> ((6 : Int32) &&& 31).toUInt32).toInt32)).toNatClampNeg) (0 : Int64)))]))
  by_cases hc8 : (fu (((st_.toUInt32 >>> ((6 : Int32) &&& 31).toUInt32).toInt32)).toNatClampNeg) = (0 : Int64)
  · skip
    refine Go.by (fun t k => XS.ifNo X1.here hx rfl (hb hby d3_17) rfl ((if0 _ _).trans (teq ((lw_eq (fu (((st_.toUInt32 >>> ((6 : Int32) &&& 31).toUInt32).toInt32)).toNatClampNeg) (0 : Int64)).mpr hc8)).2) k) ?_
    show Go p e below _ (T1.setTop (mkF m 20 #[.val (.ref ob), .val (.int (1 : Int32)), .val (.int st_), .val (.int nu), .val (.int ((st_.toUInt32 >>> ((6 : Int32) &&& 31).toUInt32).toInt32))] []))
    refine Go.by (fun t k => XS.aloadN X1.here hx rfl (hb hby d3_20) rfl rfl k) ?_
    show Go p e below _ (T1.setTop (mkF m 21 #[.val (.ref ob), .val (.int (1 : Int32)), .val (.int st_), .val (.int nu), .val (.int ((st_.toUInt32 >>> ((6 : Int32) &&& 31).toUInt32).toInt32))] [(.ref ob)]))
    obtain ⟨T9, X9, e9, st9⟩ := getF X1 hx hZ hown (host := "") (Or.inl (hw _ (List.mem_of_getElem? (i := 16) rfl))) Via.refl e1 P1 (g := (mkF m 21 #[.val (.ref ob), .val (.int (1 : Int32)), .val (.int st_), .val (.int nu), .val (.int ((st_.toUInt32 >>> ((6 : Int32) &&& 31).toUInt32).toInt32))] [(.ref ob)])) rfl rfl (hb hby d3_21)
    refine Go.by st9 ?_
    show Go p e below _ (T9.setTop (mkF m 24 #[.val (.ref ob), .val (.int (1 : Int32)), .val (.int st_), .val (.int nu), .val (.int ((st_.toUInt32 >>> ((6 : Int32) &&& 31).toUInt32).toInt32))] [(.ref gg)]))
    refine Go.by (fun t k => XS.iloadN X9.here hx rfl (hb hby d3_24) rfl k) ?_
    show Go p e below _ (T9.setTop (mkF m 25 #[.val (.ref ob), .val (.int (1 : Int32)), .val (.int st_), .val (.int nu), .val (.int ((st_.toUInt32 >>> ((6 : Int32) &&& 31).toUInt32).toInt32))] [(.int (1 : Int32)), (.ref gg)]))
    obtain ⟨cl10, Ar10, qk10, sz10, nn10, Ha10, Gf10⟩ := id P3
    have hin11 : ¬ ((1 : Int32) < 0 ∨ cl10.slots.size ≤ ((1 : Int32)).toNatClampNeg) := inb_of sz10 ⟨by decide, by decide⟩
    have hat12 : cl10.slots[((1 : Int32)).toNatClampNeg]? = some (.ref g1) := Has.at Ha10 hin11 rfl
    refine Go.by (fun t k => X9.aaload hx (j := (1 : Int32)) (v := (.ref g1)) (by rw [e9]; exact Ar10.1) (State.isArrayOf_alike hZ.alike Ar10.2.1) rfl Ar10.2.2 hin11 hat12 (g := (mkF m 25 #[.val (.ref ob), .val (.int (1 : Int32)), .val (.int st_), .val (.int nu), .val (.int ((st_.toUInt32 >>> ((6 : Int32) &&& 31).toUInt32).toInt32))] [(.int (1 : Int32)), (.ref gg)])) rfl rfl (hb hby d3_25) t k) ?_
    show Go p e below _ (T9.setTop (mkF m 26 #[.val (.ref ob), .val (.int (1 : Int32)), .val (.int st_), .val (.int nu), .val (.int ((st_.toUInt32 >>> ((6 : Int32) &&& 31).toUInt32).toInt32))] [(.ref g1)]))
    refine Go.by (fun t k => XS.iload X9.here hx rfl (hb hby d3_26) rfl k) ?_
    show Go p e below _ (T9.setTop (mkF m 28 #[.val (.ref ob), .val (.int (1 : Int32)), .val (.int st_), .val (.int nu), .val (.int ((st_.toUInt32 >>> ((6 : Int32) &&& 31).toUInt32).toInt32))] [(.int ((st_.toUInt32 >>> ((6 : Int32) &&& 31).toUInt32).toInt32)), (.ref g1)]))
    refine Go.by (fun t k => XS.iloadN X9.here hx rfl (hb hby d3_28) rfl k) ?_
    show Go p e below _ (T9.setTop (mkF m 29 #[.val (.ref ob), .val (.int (1 : Int32)), .val (.int st_), .val (.int nu), .val (.int ((st_.toUInt32 >>> ((6 : Int32) &&& 31).toUInt32).toInt32))] [(.int nu), (.int ((st_.toUInt32 >>> ((6 : Int32) &&& 31).toUInt32).toInt32)), (.ref g1)]))
    obtain ⟨_, vs13, ⟨cl13, Ar13, qk13, sz13, nn13, Ha13, Gf13⟩, ln13, fn13⟩ := id P5
    have hin14 : ¬ (((st_.toUInt32 >>> ((6 : Int32) &&& 31).toUInt32).toInt32) < 0 ∨ cl13.slots.size ≤ (((st_.toUInt32 >>> ((6 : Int32) &&& 31).toUInt32).toInt32)).toNatClampNeg) := inb_of sz13 hin
    obtain ⟨T15, h15, X15, e15, W15, st15⟩ := stI X9 hx hZ e9 Ar13 (j := ((st_.toUInt32 >>> ((6 : Int32) &&& 31).toUInt32).toInt32)) hin14 (g := (mkF m 29 #[.val (.ref ob), .val (.int (1 : Int32)), .val (.int st_), .val (.int nu), .val (.int ((st_.toUInt32 >>> ((6 : Int32) &&& 31).toUInt32).toInt32))] [(.int nu), (.int ((st_.toUInt32 >>> ((6 : Int32) &&& 31).toUInt32).toInt32)), (.ref g1)])) rfl rfl (hb hby d3_29)
    have N15 := Fr.snoc X15 N0 gg_
    have F16 : own_Ia Z h15 g1 zz (own_up gu (((st_.toUInt32 >>> ((6 : Int32) &&& 31).toUInt32).toInt32)).toNatClampNeg nu) := own_Ia.set Ar13 qk13 sz13 nn13 Ha13 Gf13 ln13 fn13 W15 (by have q := hin14; have := sz13; omega)
    refine Go.by st15 ?_
    show Go p e below _ (T15.setTop (mkF m 30 #[.val (.ref ob), .val (.int (1 : Int32)), .val (.int st_), .val (.int nu), .val (.int ((st_.toUInt32 >>> ((6 : Int32) &&& 31).toUInt32).toInt32))] []))
    refine Go.by (fun t k => XS.aloadN X15.here hx rfl (hb hby d3_30) rfl rfl k) ?_
    show Go p e below _ (T15.setTop (mkF m 31 #[.val (.ref ob), .val (.int (1 : Int32)), .val (.int st_), .val (.int nu), .val (.int ((st_.toUInt32 >>> ((6 : Int32) &&& 31).toUInt32).toInt32))] [(.ref ob)]))
    have F17 : Fld Z h15 ob "com/example/wakepath/wakepath/automaton/NumberedStates" "bits" "[[J" (.ref bb) := (P0.other W15 (Or.inl nb2))
    obtain ⟨T18, X18, e18, st18⟩ := getF X15 hx hZ hown (host := "") (Or.inl (hw _ (List.mem_of_getElem? (i := 12) rfl))) Via.refl e15 F17 (g := (mkF m 31 #[.val (.ref ob), .val (.int (1 : Int32)), .val (.int st_), .val (.int nu), .val (.int ((st_.toUInt32 >>> ((6 : Int32) &&& 31).toUInt32).toInt32))] [(.ref ob)])) rfl rfl (hb hby d3_31)
    refine Go.by st18 ?_
    show Go p e below _ (T18.setTop (mkF m 34 #[.val (.ref ob), .val (.int (1 : Int32)), .val (.int st_), .val (.int nu), .val (.int ((st_.toUInt32 >>> ((6 : Int32) &&& 31).toUInt32).toInt32))] [(.ref bb)]))
    refine Go.by (fun t k => XS.iloadN X18.here hx rfl (hb hby d3_34) rfl k) ?_
    show Go p e below _ (T18.setTop (mkF m 35 #[.val (.ref ob), .val (.int (1 : Int32)), .val (.int st_), .val (.int nu), .val (.int ((st_.toUInt32 >>> ((6 : Int32) &&& 31).toUInt32).toInt32))] [(.int (1 : Int32)), (.ref bb)]))
    have F19 : Arv Z h15 bb kb (.array .long) (2 : Int32) [(.ref b0), (.ref b1)] .null := (P2.other W15 nb4)
    obtain ⟨cl20, Ar20, qk20, sz20, nn20, Ha20, Gf20⟩ := id F19
    have hin21 : ¬ ((1 : Int32) < 0 ∨ cl20.slots.size ≤ ((1 : Int32)).toNatClampNeg) := inb_of sz20 ⟨by decide, by decide⟩
    have hat22 : cl20.slots[((1 : Int32)).toNatClampNeg]? = some (.ref b1) := Has.at Ha20 hin21 rfl
    refine Go.by (fun t k => X18.aaload hx (j := (1 : Int32)) (v := (.ref b1)) (by rw [e18]; exact Ar20.1) (State.isArrayOf_alike hZ.alike Ar20.2.1) rfl Ar20.2.2 hin21 hat22 (g := (mkF m 35 #[.val (.ref ob), .val (.int (1 : Int32)), .val (.int st_), .val (.int nu), .val (.int ((st_.toUInt32 >>> ((6 : Int32) &&& 31).toUInt32).toInt32))] [(.int (1 : Int32)), (.ref bb)])) rfl rfl (hb hby d3_35) t k) ?_
    show Go p e below _ (T18.setTop (mkF m 36 #[.val (.ref ob), .val (.int (1 : Int32)), .val (.int st_), .val (.int nu), .val (.int ((st_.toUInt32 >>> ((6 : Int32) &&& 31).toUInt32).toInt32))] [(.ref b1)]))
    refine Go.by (fun t k => XS.iload X18.here hx rfl (hb hby d3_36) rfl k) ?_
    show Go p e below _ (T18.setTop (mkF m 38 #[.val (.ref ob), .val (.int (1 : Int32)), .val (.int st_), .val (.int nu), .val (.int ((st_.toUInt32 >>> ((6 : Int32) &&& 31).toUInt32).toInt32))] [(.int ((st_.toUInt32 >>> ((6 : Int32) &&& 31).toUInt32).toInt32)), (.ref b1)]))
    refine Go.by (fun t k => ?_) (B := T18.setTop (mkF m 39 #[.val (.ref ob), .val (.int (1 : Int32)), .val (.int st_), .val (.int nu), .val (.int ((st_.toUInt32 >>> ((6 : Int32) &&& 31).toUInt32).toInt32))] [(.int ((st_.toUInt32 >>> ((6 : Int32) &&& 31).toUInt32).toInt32)), (.ref b1), (.int ((st_.toUInt32 >>> ((6 : Int32) &&& 31).toUInt32).toInt32)), (.ref b1)])) ?_
    · jvm_step X18.here [X18.here.top, hx, (hb hby d3_38), Value.category]
      exact k
    show Go p e below _ (T18.setTop (mkF m 39 #[.val (.ref ob), .val (.int (1 : Int32)), .val (.int st_), .val (.int nu), .val (.int ((st_.toUInt32 >>> ((6 : Int32) &&& 31).toUInt32).toInt32))] [(.int ((st_.toUInt32 >>> ((6 : Int32) &&& 31).toUInt32).toInt32)), (.ref b1), (.int ((st_.toUInt32 >>> ((6 : Int32) &&& 31).toUInt32).toInt32)), (.ref b1)]))
    have F23 : own_La Z h15 b1 zz fu := (P4.other W15 nbg)
    obtain ⟨_, vs24, ⟨cl24, Ar24, qk24, sz24, nn24, Ha24, Gf24⟩, ln24, fn24⟩ := id F23
    have hin25 : ¬ (((st_.toUInt32 >>> ((6 : Int32) &&& 31).toUInt32).toInt32) < 0 ∨ cl24.slots.size ≤ (((st_.toUInt32 >>> ((6 : Int32) &&& 31).toUInt32).toInt32)).toNatClampNeg) := inb_of sz24 hin
    have hat26 : cl24.slots[(((st_.toUInt32 >>> ((6 : Int32) &&& 31).toUInt32).toInt32)).toNatClampNeg]? = some (.long (fu (((st_.toUInt32 >>> ((6 : Int32) &&& 31).toUInt32).toInt32)).toNatClampNeg)) := Has.at Ha24 hin25 (fn24 _ (by have q := hin25; have := sz24; omega))
    refine Go.by (fun t k => X18.laload hx (j := ((st_.toUInt32 >>> ((6 : Int32) &&& 31).toUInt32).toInt32)) (v := (.long (fu (((st_.toUInt32 >>> ((6 : Int32) &&& 31).toUInt32).toInt32)).toNatClampNeg))) (by rw [e18]; exact Ar24.1) (State.isArrayOf_alike hZ.alike Ar24.2.1) Ar24.2.2 hin25 hat26 (g := (mkF m 39 #[.val (.ref ob), .val (.int (1 : Int32)), .val (.int st_), .val (.int nu), .val (.int ((st_.toUInt32 >>> ((6 : Int32) &&& 31).toUInt32).toInt32))] [(.int ((st_.toUInt32 >>> ((6 : Int32) &&& 31).toUInt32).toInt32)), (.ref b1), (.int ((st_.toUInt32 >>> ((6 : Int32) &&& 31).toUInt32).toInt32)), (.ref b1)])) rfl rfl (hb hby d3_39) t k) ?_
    show Go p e below _ (T18.setTop (mkF m 40 #[.val (.ref ob), .val (.int (1 : Int32)), .val (.int st_), .val (.int nu), .val (.int ((st_.toUInt32 >>> ((6 : Int32) &&& 31).toUInt32).toInt32))] [(.long (fu (((st_.toUInt32 >>> ((6 : Int32) &&& 31).toUInt32).toInt32)).toNatClampNeg)), (.int ((st_.toUInt32 >>> ((6 : Int32) &&& 31).toUInt32).toInt32)), (.ref b1)]))
    refine Go.by (fun t k => XS.lconst X18.here hx rfl (hb hby d3_40) k) ?_
    show Go p e below _ (T18.setTop (mkF m 41 #[.val (.ref ob), .val (.int (1 : Int32)), .val (.int st_), .val (.int nu), .val (.int ((st_.toUInt32 >>> ((6 : Int32) &&& 31).toUInt32).toInt32))] [(.long (1 : Int64)), (.long (fu (((st_.toUInt32 >>> ((6 : Int32) &&& 31).toUInt32).toInt32)).toNatClampNeg)), (.int ((st_.toUInt32 >>> ((6 : Int32) &&& 31).toUInt32).toInt32)), (.ref b1)]))
    refine Go.by (fun t k => XS.iloadN X18.here hx rfl (hb hby d3_41) rfl k) ?_
    show Go p e below _ (T18.setTop (mkF m 42 #[.val (.ref ob), .val (.int (1 : Int32)), .val (.int st_), .val (.int nu), .val (.int ((st_.toUInt32 >>> ((6 : Int32) &&& 31).toUInt32).toInt32))] [(.int st_), (.long (1 : Int64)), (.long (fu (((st_.toUInt32 >>> ((6 : Int32) &&& 31).toUInt32).toInt32)).toNatClampNeg)), (.int ((st_.toUInt32 >>> ((6 : Int32) &&& 31).toUInt32).toInt32)), (.ref b1)]))
    refine Go.by (fun t k => XS.lshl X18.here hx rfl (hb hby d3_42) rfl k) ?_
    show Go p e below _ (T18.setTop (mkF m 43 #[.val (.ref ob), .val (.int (1 : Int32)), .val (.int st_), .val (.int nu), .val (.int ((st_.toUInt32 >>> ((6 : Int32) &&& 31).toUInt32).toInt32))] [(.long ((1 : Int64) <<< (st_ &&& 0x3f).toInt64)), (.long (fu (((st_.toUInt32 >>> ((6 : Int32) &&& 31).toUInt32).toInt32)).toNatClampNeg)), (.int ((st_.toUInt32 >>> ((6 : Int32) &&& 31).toUInt32).toInt32)), (.ref b1)]))
    refine Go.by (fun t k => XS.lor X18.here hx rfl (hb hby d3_43) rfl k) ?_
    show Go p e below _ (T18.setTop (mkF m 44 #[.val (.ref ob), .val (.int (1 : Int32)), .val (.int st_), .val (.int nu), .val (.int ((st_.toUInt32 >>> ((6 : Int32) &&& 31).toUInt32).toInt32))] [(.long ((fu (((st_.toUInt32 >>> ((6 : Int32) &&& 31).toUInt32).toInt32)).toNatClampNeg) ||| ((1 : Int64) <<< (st_ &&& 0x3f).toInt64))), (.int ((st_.toUInt32 >>> ((6 : Int32) &&& 31).toUInt32).toInt32)), (.ref b1)]))
    obtain ⟨_, vs27, ⟨cl27, Ar27, qk27, sz27, nn27, Ha27, Gf27⟩, ln27, fn27⟩ := id F23
    have hin28 : ¬ (((st_.toUInt32 >>> ((6 : Int32) &&& 31).toUInt32).toInt32) < 0 ∨ cl27.slots.size ≤ (((st_.toUInt32 >>> ((6 : Int32) &&& 31).toUInt32).toInt32)).toNatClampNeg) := inb_of sz27 hin
    obtain ⟨T29, h29, X29, e29, W29, st29⟩ := stJ X18 hx hZ e18 Ar27 (j := ((st_.toUInt32 >>> ((6 : Int32) &&& 31).toUInt32).toInt32)) hin28 (g := (mkF m 44 #[.val (.ref ob), .val (.int (1 : Int32)), .val (.int st_), .val (.int nu), .val (.int ((st_.toUInt32 >>> ((6 : Int32) &&& 31).toUInt32).toInt32))] [(.long ((fu (((st_.toUInt32 >>> ((6 : Int32) &&& 31).toUInt32).toInt32)).toNatClampNeg) ||| ((1 : Int64) <<< (st_ &&& 0x3f).toInt64))), (.int ((st_.toUInt32 >>> ((6 : Int32) &&& 31).toUInt32).toInt32)), (.ref b1)])) rfl rfl (hb hby d3_44)
    have N29 := Fr.snoc X29 N15 gb
    have F30 : own_La Z h29 b1 zz (own_up fu (((st_.toUInt32 >>> ((6 : Int32) &&& 31).toUInt32).toInt32)).toNatClampNeg ((fu (((st_.toUInt32 >>> ((6 : Int32) &&& 31).toUInt32).toInt32)).toNatClampNeg) ||| ((1 : Int64) <<< (st_ &&& 0x3f).toInt64))) := own_La.set Ar27 qk27 sz27 nn27 Ha27 Gf27 ln27 fn27 W29 (by have q := hin28; have := sz27; omega)
    refine Go.by st29 ?_
    show Go p e below _ (T29.setTop (mkF m 45 #[.val (.ref ob), .val (.int (1 : Int32)), .val (.int st_), .val (.int nu), .val (.int ((st_.toUInt32 >>> ((6 : Int32) &&& 31).toUInt32).toInt32))] []))
    have F31 : Keep h0 h29 [b1, g1] := (((Keep.refl h0 [b1, g1]).wr W15 (Or.inl (List.mem_of_getElem? (i := 1) rfl))).wr W29 (Or.inl (List.mem_of_getElem? (i := 0) rfl)))
    have F32 : own_Ia Z h29 g1 zz (own_up gu (((st_.toUInt32 >>> ((6 : Int32) &&& 31).toUInt32).toInt32)).toNatClampNeg nu) := (F16.other W29 (Ne.symm nbg))
    have hq : Q_add_1 Z ob st_ nu bb gg b0 g0 b1 g1 kb kg zz fu gu h0 n0 none h29 _ := ⟨rfl, N29, F31, F30, (by rw [show own_addI fu gu st_ nu = _ from if_pos hc8]; exact F32)⟩
    exact Go.ret0 X29 hx Bd.returns hlk (hb hby d3_45) (by decide) (by decide) (by rw [e29]; exact hq)
  · skip
    refine Go.by (fun t k => XS.ifYes X1.here hx rfl (pc0 := 17) (pc' := 30) rfl (hb hby d3_17) rfl ((if0 _ _).trans (feq (fun q => hc8 ((lw_eq (fu (((st_.toUInt32 >>> ((6 : Int32) &&& 31).toUInt32).toInt32)).toNatClampNeg) (0 : Int64)).mp q))).2) (by decide) (by decide) k) ?_
    show Go p e below _ (T1.setTop (mkF m 30 #[.val (.ref ob), .val (.int (1 : Int32)), .val (.int st_), .val (.int nu), .val (.int ((st_.toUInt32 >>> ((6 : Int32) &&& 31).toUInt32).toInt32))] []))
    refine Go.by (fun t k => XS.aloadN X1.here hx rfl (hb hby d3_30) rfl rfl k) ?_
    show Go p e below _ (T1.setTop (mkF m 31 #[.val (.ref ob), .val (.int (1 : Int32)), .val (.int st_), .val (.int nu), .val (.int ((st_.toUInt32 >>> ((6 : Int32) &&& 31).toUInt32).toInt32))] [(.ref ob)]))
    obtain ⟨T33, X33, e33, st33⟩ := getF X1 hx hZ hown (host := "") (Or.inl (hw _ (List.mem_of_getElem? (i := 12) rfl))) Via.refl e1 P0 (g := (mkF m 31 #[.val (.ref ob), .val (.int (1 : Int32)), .val (.int st_), .val (.int nu), .val (.int ((st_.toUInt32 >>> ((6 : Int32) &&& 31).toUInt32).toInt32))] [(.ref ob)])) rfl rfl (hb hby d3_31)
    refine Go.by st33 ?_
    show Go p e below _ (T33.setTop (mkF m 34 #[.val (.ref ob), .val (.int (1 : Int32)), .val (.int st_), .val (.int nu), .val (.int ((st_.toUInt32 >>> ((6 : Int32) &&& 31).toUInt32).toInt32))] [(.ref bb)]))
    refine Go.by (fun t k => XS.iloadN X33.here hx rfl (hb hby d3_34) rfl k) ?_
    show Go p e below _ (T33.setTop (mkF m 35 #[.val (.ref ob), .val (.int (1 : Int32)), .val (.int st_), .val (.int nu), .val (.int ((st_.toUInt32 >>> ((6 : Int32) &&& 31).toUInt32).toInt32))] [(.int (1 : Int32)), (.ref bb)]))
    obtain ⟨cl34, Ar34, qk34, sz34, nn34, Ha34, Gf34⟩ := id P2
    have hin35 : ¬ ((1 : Int32) < 0 ∨ cl34.slots.size ≤ ((1 : Int32)).toNatClampNeg) := inb_of sz34 ⟨by decide, by decide⟩
    have hat36 : cl34.slots[((1 : Int32)).toNatClampNeg]? = some (.ref b1) := Has.at Ha34 hin35 rfl
    refine Go.by (fun t k => X33.aaload hx (j := (1 : Int32)) (v := (.ref b1)) (by rw [e33]; exact Ar34.1) (State.isArrayOf_alike hZ.alike Ar34.2.1) rfl Ar34.2.2 hin35 hat36 (g := (mkF m 35 #[.val (.ref ob), .val (.int (1 : Int32)), .val (.int st_), .val (.int nu), .val (.int ((st_.toUInt32 >>> ((6 : Int32) &&& 31).toUInt32).toInt32))] [(.int (1 : Int32)), (.ref bb)])) rfl rfl (hb hby d3_35) t k) ?_
    show Go p e below _ (T33.setTop (mkF m 36 #[.val (.ref ob), .val (.int (1 : Int32)), .val (.int st_), .val (.int nu), .val (.int ((st_.toUInt32 >>> ((6 : Int32) &&& 31).toUInt32).toInt32))] [(.ref b1)]))
    refine Go.by (fun t k => XS.iload X33.here hx rfl (hb hby d3_36) rfl k) ?_
    show Go p e below _ (T33.setTop (mkF m 38 #[.val (.ref ob), .val (.int (1 : Int32)), .val (.int st_), .val (.int nu), .val (.int ((st_.toUInt32 >>> ((6 : Int32) &&& 31).toUInt32).toInt32))] [(.int ((st_.toUInt32 >>> ((6 : Int32) &&& 31).toUInt32).toInt32)), (.ref b1)]))
    refine Go.by (fun t k => ?_) (B := T33.setTop (mkF m 39 #[.val (.ref ob), .val (.int (1 : Int32)), .val (.int st_), .val (.int nu), .val (.int ((st_.toUInt32 >>> ((6 : Int32) &&& 31).toUInt32).toInt32))] [(.int ((st_.toUInt32 >>> ((6 : Int32) &&& 31).toUInt32).toInt32)), (.ref b1), (.int ((st_.toUInt32 >>> ((6 : Int32) &&& 31).toUInt32).toInt32)), (.ref b1)])) ?_
    · jvm_step X33.here [X33.here.top, hx, (hb hby d3_38), Value.category]
      exact k
    show Go p e below _ (T33.setTop (mkF m 39 #[.val (.ref ob), .val (.int (1 : Int32)), .val (.int st_), .val (.int nu), .val (.int ((st_.toUInt32 >>> ((6 : Int32) &&& 31).toUInt32).toInt32))] [(.int ((st_.toUInt32 >>> ((6 : Int32) &&& 31).toUInt32).toInt32)), (.ref b1), (.int ((st_.toUInt32 >>> ((6 : Int32) &&& 31).toUInt32).toInt32)), (.ref b1)]))
    obtain ⟨_, vs37, ⟨cl37, Ar37, qk37, sz37, nn37, Ha37, Gf37⟩, ln37, fn37⟩ := id P4
    have hin38 : ¬ (((st_.toUInt32 >>> ((6 : Int32) &&& 31).toUInt32).toInt32) < 0 ∨ cl37.slots.size ≤ (((st_.toUInt32 >>> ((6 : Int32) &&& 31).toUInt32).toInt32)).toNatClampNeg) := inb_of sz37 hin
    have hat39 : cl37.slots[(((st_.toUInt32 >>> ((6 : Int32) &&& 31).toUInt32).toInt32)).toNatClampNeg]? = some (.long (fu (((st_.toUInt32 >>> ((6 : Int32) &&& 31).toUInt32).toInt32)).toNatClampNeg)) := Has.at Ha37 hin38 (fn37 _ (by have q := hin38; have := sz37; omega))
    refine Go.by (fun t k => X33.laload hx (j := ((st_.toUInt32 >>> ((6 : Int32) &&& 31).toUInt32).toInt32)) (v := (.long (fu (((st_.toUInt32 >>> ((6 : Int32) &&& 31).toUInt32).toInt32)).toNatClampNeg))) (by rw [e33]; exact Ar37.1) (State.isArrayOf_alike hZ.alike Ar37.2.1) Ar37.2.2 hin38 hat39 (g := (mkF m 39 #[.val (.ref ob), .val (.int (1 : Int32)), .val (.int st_), .val (.int nu), .val (.int ((st_.toUInt32 >>> ((6 : Int32) &&& 31).toUInt32).toInt32))] [(.int ((st_.toUInt32 >>> ((6 : Int32) &&& 31).toUInt32).toInt32)), (.ref b1), (.int ((st_.toUInt32 >>> ((6 : Int32) &&& 31).toUInt32).toInt32)), (.ref b1)])) rfl rfl (hb hby d3_39) t k) ?_
    show Go p e below _ (T33.setTop (mkF m 40 #[.val (.ref ob), .val (.int (1 : Int32)), .val (.int st_), .val (.int nu), .val (.int ((st_.toUInt32 >>> ((6 : Int32) &&& 31).toUInt32).toInt32))] [(.long (fu (((st_.toUInt32 >>> ((6 : Int32) &&& 31).toUInt32).toInt32)).toNatClampNeg)), (.int ((st_.toUInt32 >>> ((6 : Int32) &&& 31).toUInt32).toInt32)), (.ref b1)]))
    refine Go.by (fun t k => XS.lconst X33.here hx rfl (hb hby d3_40) k) ?_
    show Go p e below _ (T33.setTop (mkF m 41 #[.val (.ref ob), .val (.int (1 : Int32)), .val (.int st_), .val (.int nu), .val (.int ((st_.toUInt32 >>> ((6 : Int32) &&& 31).toUInt32).toInt32))] [(.long (1 : Int64)), (.long (fu (((st_.toUInt32 >>> ((6 : Int32) &&& 31).toUInt32).toInt32)).toNatClampNeg)), (.int ((st_.toUInt32 >>> ((6 : Int32) &&& 31).toUInt32).toInt32)), (.ref b1)]))
    refine Go.by (fun t k => XS.iloadN X33.here hx rfl (hb hby d3_41) rfl k) ?_
    show Go p e below _ (T33.setTop (mkF m 42 #[.val (.ref ob), .val (.int (1 : Int32)), .val (.int st_), .val (.int nu), .val (.int ((st_.toUInt32 >>> ((6 : Int32) &&& 31).toUInt32).toInt32))] [(.int st_), (.long (1 : Int64)), (.long (fu (((st_.toUInt32 >>> ((6 : Int32) &&& 31).toUInt32).toInt32)).toNatClampNeg)), (.int ((st_.toUInt32 >>> ((6 : Int32) &&& 31).toUInt32).toInt32)), (.ref b1)]))
    refine Go.by (fun t k => XS.lshl X33.here hx rfl (hb hby d3_42) rfl k) ?_
    show Go p e below _ (T33.setTop (mkF m 43 #[.val (.ref ob), .val (.int (1 : Int32)), .val (.int st_), .val (.int nu), .val (.int ((st_.toUInt32 >>> ((6 : Int32) &&& 31).toUInt32).toInt32))] [(.long ((1 : Int64) <<< (st_ &&& 0x3f).toInt64)), (.long (fu (((st_.toUInt32 >>> ((6 : Int32) &&& 31).toUInt32).toInt32)).toNatClampNeg)), (.int ((st_.toUInt32 >>> ((6 : Int32) &&& 31).toUInt32).toInt32)), (.ref b1)]))
    refine Go.by (fun t k => XS.lor X33.here hx rfl (hb hby d3_43) rfl k) ?_
    show Go p e below _ (T33.setTop (mkF m 44 #[.val (.ref ob), .val (.int (1 : Int32)), .val (.int st_), .val (.int nu), .val (.int ((st_.toUInt32 >>> ((6 : Int32) &&& 31).toUInt32).toInt32))] [(.long ((fu (((st_.toUInt32 >>> ((6 : Int32) &&& 31).toUInt32).toInt32)).toNatClampNeg) ||| ((1 : Int64) <<< (st_ &&& 0x3f).toInt64))), (.int ((st_.toUInt32 >>> ((6 : Int32) &&& 31).toUInt32).toInt32)), (.ref b1)]))
    obtain ⟨_, vs40, ⟨cl40, Ar40, qk40, sz40, nn40, Ha40, Gf40⟩, ln40, fn40⟩ := id P4
    have hin41 : ¬ (((st_.toUInt32 >>> ((6 : Int32) &&& 31).toUInt32).toInt32) < 0 ∨ cl40.slots.size ≤ (((st_.toUInt32 >>> ((6 : Int32) &&& 31).toUInt32).toInt32)).toNatClampNeg) := inb_of sz40 hin
    obtain ⟨T42, h42, X42, e42, W42, st42⟩ := stJ X33 hx hZ e33 Ar40 (j := ((st_.toUInt32 >>> ((6 : Int32) &&& 31).toUInt32).toInt32)) hin41 (g := (mkF m 44 #[.val (.ref ob), .val (.int (1 : Int32)), .val (.int st_), .val (.int nu), .val (.int ((st_.toUInt32 >>> ((6 : Int32) &&& 31).toUInt32).toInt32))] [(.long ((fu (((st_.toUInt32 >>> ((6 : Int32) &&& 31).toUInt32).toInt32)).toNatClampNeg) ||| ((1 : Int64) <<< (st_ &&& 0x3f).toInt64))), (.int ((st_.toUInt32 >>> ((6 : Int32) &&& 31).toUInt32).toInt32)), (.ref b1)])) rfl rfl (hb hby d3_44)
    have N42 := Fr.snoc X42 N0 gb
    have F43 : own_La Z h42 b1 zz (own_up fu (((st_.toUInt32 >>> ((6 : Int32) &&& 31).toUInt32).toInt32)).toNatClampNeg ((fu (((st_.toUInt32 >>> ((6 : Int32) &&& 31).toUInt32).toInt32)).toNatClampNeg) ||| ((1 : Int64) <<< (st_ &&& 0x3f).toInt64))) := own_La.set Ar40 qk40 sz40 nn40 Ha40 Gf40 ln40 fn40 W42 (by have q := hin41; have := sz40; omega)
    refine Go.by st42 ?_
    show Go p e below _ (T42.setTop (mkF m 45 #[.val (.ref ob), .val (.int (1 : Int32)), .val (.int st_), .val (.int nu), .val (.int ((st_.toUInt32 >>> ((6 : Int32) &&& 31).toUInt32).toInt32))] []))
    have F44 : Keep h0 h42 [b1, g1] := ((Keep.refl h0 [b1, g1]).wr W42 (Or.inl (List.mem_of_getElem? (i := 0) rfl)))
    have F45 : own_Ia Z h42 g1 zz gu := (P5.other W42 (Ne.symm nbg))
    have hq : Q_add_1 Z ob st_ nu bb gg b0 g0 b1 g1 kb kg zz fu gu h0 n0 none h42 _ := ⟨rfl, N42, F44, F43, (by rw [show own_addI fu gu st_ nu = _ from if_neg hc8]; exact F45)⟩
    exact Go.ret0 X42 hx Bd.returns hlk (hb hby d3_45) (by decide) (by decide) (by rw [e42]; exact hq)
theorem d5_0 : decode prog_15_method_3_code 0 = .ok (.iload_n 2, 1) := by decide +kernel
theorem d5_1 : decode prog_15_method_3_code 1 = .ok (.bipush 6, 2) := by decide +kernel
theorem d5_3 : decode prog_15_method_3_code 3 = .ok (.iushr, 1) := by decide +kernel
theorem d5_4 : decode prog_15_method_3_code 4 = .ok (.istore_n 3, 1) := by decide +kernel
theorem d5_5 : decode prog_15_method_3_code 5 = .ok (.aload_n 0, 1) := by decide +kernel
theorem d5_6 : decode prog_15_method_3_code 6 = .ok (.getfield 17, 3) := by decide +kernel
theorem d5_9 : decode prog_15_method_3_code 9 = .ok (.iload_n 1, 1) := by decide +kernel
theorem d5_10 : decode prog_15_method_3_code 10 = .ok (.aaload, 1) := by decide +kernel
theorem d5_11 : decode prog_15_method_3_code 11 = .ok (.iload_n 3, 1) := by decide +kernel
theorem d5_12 : decode prog_15_method_3_code 12 = .ok (.iaload, 1) := by decide +kernel
theorem d5_13 : decode prog_15_method_3_code 13 = .ok (.aload_n 0, 1) := by decide +kernel
theorem d5_14 : decode prog_15_method_3_code 14 = .ok (.getfield 9, 3) := by decide +kernel
theorem d5_17 : decode prog_15_method_3_code 17 = .ok (.iload_n 1, 1) := by decide +kernel
theorem d5_18 : decode prog_15_method_3_code 18 = .ok (.aaload, 1) := by decide +kernel
theorem d5_19 : decode prog_15_method_3_code 19 = .ok (.iload_n 3, 1) := by decide +kernel
theorem d5_20 : decode prog_15_method_3_code 20 = .ok (.laload, 1) := by decide +kernel
theorem d5_21 : decode prog_15_method_3_code 21 = .ok (.lconst 1, 1) := by decide +kernel
theorem d5_22 : decode prog_15_method_3_code 22 = .ok (.iload_n 2, 1) := by decide +kernel
theorem d5_23 : decode prog_15_method_3_code 23 = .ok (.lshl, 1) := by decide +kernel
theorem d5_24 : decode prog_15_method_3_code 24 = .ok (.lconst 1, 1) := by decide +kernel
theorem d5_25 : decode prog_15_method_3_code 25 = .ok (.lsub, 1) := by decide +kernel
theorem d5_26 : decode prog_15_method_3_code 26 = .ok (.land, 1) := by decide +kernel
theorem d5_27 : decode prog_15_method_3_code 27 = .ok (.invokestatic 21, 3) := by decide +kernel
theorem pd_0 : parseMethodDescriptor "(J)I" = some ⟨[.long], some .int⟩ := by decide +kernel
theorem d5_30 : decode prog_15_method_3_code 30 = .ok (.iadd, 1) := by decide +kernel
theorem d5_31 : decode prog_15_method_3_code 31 = .ok (.ireturn, 1) := by decide +kernel
theorem ef_number_0 (m : MethodId) (ob : Addr) (st_ : Int32) : entryFrame m #[(.ref ob), (.int (0 : Int32)), (.int st_)] 4 = mkF m 0 #[.val (.ref ob), .val (.int (0 : Int32)), .val (.int st_), .unset] [] := by first | (simp [entryFrame, mkF, argsToLocals, Value.category]; done) | rfl
def Q_number_0 (Z : State) (ob : Addr) (st_ : Int32) (bb : Addr) (gg : Addr) (b0 : Addr) (g0 : Addr) (b1 : Addr) (g1 : Addr) (kb : ClassId) (kg : ClassId) (zz : Int32) (fu : Nat → Int64) (gu : Nat → Int32) (h0 : Heap) (n0 : Nat) (v : Option Value) (h : Heap) (L : List Loc) : Prop := v = some (.int (own_num fu gu st_)) ∧ Fr n0 L ∧ h = h0
set_option maxRecDepth 65536 in
set_option maxHeartbeats 40000000 in
theorem number_0 (l : Launch) (Z : State) (a0 : Array Value) (hw : ∀ d ∈ tables_1, d.before a0 Z = true) (ws : List Jvm.Cond) (ob : Addr) (st_ : Int32) (bb : Addr) (gg : Addr) (b0 : Addr) (g0 : Addr) (b1 : Addr) (g1 : Addr) (kb : ClassId) (kg : ClassId) (zz : Int32) (fu : Nat → Int64) (gu : Nat → Int32) (h0 : Heap) (n0 : Nat) (O0 : Old Z n0 h0) (P0 : Fld Z h0 ob "com/example/wakepath/wakepath/automaton/NumberedStates" "bits" "[[J" (.ref bb)) (P1 : Fld Z h0 ob "com/example/wakepath/wakepath/automaton/NumberedStates" "firstNumber" "[[I" (.ref gg)) (P2 : Arv Z h0 bb kb (.array .long) (2 : Int32) [(.ref b0), (.ref b1)] .null) (P3 : Arv Z h0 gg kg (.array .int) (2 : Int32) [(.ref g0), (.ref g1)] .null) (P4 : own_La Z h0 b0 zz fu) (P5 : own_Ia Z h0 g0 zz gu) (hin : ¬ ((st_.toUInt32 >>> ((6 : Int32) &&& 31).toUInt32).toInt32) < 0 ∧ ((st_.toUInt32 >>> ((6 : Int32) &&& 31).toUInt32).toInt32) < zz) :
    MetFree l (⟨"com/example/wakepath/wakepath/automaton/NumberedStates", "number", "(II)I"⟩ : MethodName) (head1 (Jvm.Cond.code (⟨"com/example/wakepath/wakepath/automaton/NumberedStates", "number", "(II)I"⟩ : MethodName) prog_15_method_3_code 4 (some .int) :: ws) ({ frames := 1, cells := 0, slots := 0, locals := 14 } : Room)) (fun a U => a = #[(.ref ob), (.int (0 : Int32)), (.int st_)] ∧ Z.Warmed39 U.vm ∧ U.heap = h0) (fun _ _ _ _ _ => True) (fun _ U o U' => ∃ v L, o = .returned v ∧ Q_number_0 Z ob st_ bb gg b0 g0 b1 g1 kb kg zz fu gu h0 n0 v U'.heap L ∧ FrameEnd U o U' L ({ frames := 1, cells := 0, slots := 0, locals := 14 } : Room).cells ({ frames := 1, cells := 0, slots := 0, locals := 14 } : Room).slots) := by
  refine MetFree.of_bodySF (plainFor_of_name pn_1) hisR ?_
  intro p e s m args below meth c s₁ Bd hml0 hP hK
  obtain ⟨rfl, hZ, hh⟩ := hP
  have hx := Bd.exec
  have hby := Bd.bytes
  have hml : c.maxLocals = 4 := hml0
  have hown : s.vm.findClass "com/example/wakepath/wakepath/automaton/NumberedStates" = some m.cls := findClass_of_methodNamed Bd.named
  have hnm := (name_of_methodNamed Bd.named Bd.method).1
  have hlk := BodyLoose.notSynchronized Bd
  have X0 : Stand p l e ({ frames := 1, cells := 0, slots := 0, locals := 14 } : Room) s m #[(.ref ob), (.int (0 : Int32)), (.int st_)] below meth c s₁ [] 0 0 := Stand.of_body Bd
  have e0 : s₁.heap = h0 := by rw [← hh, Bd.state]; rfl
  have N0 := Fr.nil n0
  refine Go.start (P := fun o U' => ∃ v L, o = .returned v ∧ Q_number_0 Z ob st_ bb gg b0 g0 b1 g1 kb kg zz fu gu h0 n0 v U'.heap L ∧ FrameEnd s o U' L ({ frames := 1, cells := 0, slots := 0, locals := 14 } : Room).cells ({ frames := 1, cells := 0, slots := 0, locals := 14 } : Room).slots) (ef_number_0 m ob st_) ?_
  show Go p e below _ (s₁.setTop (mkF m 0 #[.val (.ref ob), .val (.int (0 : Int32)), .val (.int st_), .unset] []))
  refine Go.by (fun t k => XS.iloadN X0.here hx rfl (hb hby d5_0) rfl k) ?_
  show Go p e below _ (s₁.setTop (mkF m 1 #[.val (.ref ob), .val (.int (0 : Int32)), .val (.int st_), .unset] [(.int st_)]))
  refine Go.by (fun t k => XS.bipush X0.here hx rfl (hb hby d5_1) k) ?_
  show Go p e below _ (s₁.setTop (mkF m 3 #[.val (.ref ob), .val (.int (0 : Int32)), .val (.int st_), .unset] [(.int (6 : Int32)), (.int st_)]))
  refine Go.by (fun t k => XS.iushr X0.here hx rfl (hb hby d5_3) rfl k) ?_
  show Go p e below _ (s₁.setTop (mkF m 4 #[.val (.ref ob), .val (.int (0 : Int32)), .val (.int st_), .unset] [(.int ((st_.toUInt32 >>> ((6 : Int32) &&& 31).toUInt32).toInt32))]))
  refine Go.by (fun t k => XS.istoreN X0.here hx rfl (hb hby d5_4) rfl (l' := #[.val (.ref ob), .val (.int (0 : Int32)), .val (.int st_), .val (.int ((st_.toUInt32 >>> ((6 : Int32) &&& 31).toUInt32).toInt32))]) rfl k) ?_
  show Go p e below _ (s₁.setTop (mkF m 5 #[.val (.ref ob), .val (.int (0 : Int32)), .val (.int st_), .val (.int ((st_.toUInt32 >>> ((6 : Int32) &&& 31).toUInt32).toInt32))] []))
  refine Go.by (fun t k => XS.aloadN X0.here hx rfl (hb hby d5_5) rfl rfl k) ?_
  show Go p e below _ (s₁.setTop (mkF m 6 #[.val (.ref ob), .val (.int (0 : Int32)), .val (.int st_), .val (.int ((st_.toUInt32 >>> ((6 : Int32) &&& 31).toUInt32).toInt32))] [(.ref ob)]))
  obtain ⟨T1, X1, e1, st1⟩ := getF X0 hx hZ hown (host := "") (Or.inl (hw _ (List.mem_of_getElem? (i := 16) rfl))) Via.refl e0 P1 (g := (mkF m 6 #[.val (.ref ob), .val (.int (0 : Int32)), .val (.int st_), .val (.int ((st_.toUInt32 >>> ((6 : Int32) &&& 31).toUInt32).toInt32))] [(.ref ob)])) rfl rfl (hb hby d5_6)
  refine Go.by st1 ?_
  show Go p e below _ (T1.setTop (mkF m 9 #[.val (.ref ob), .val (.int (0 : Int32)), .val (.int st_), .val (.int ((st_.toUInt32 >>> ((6 : Int32) &&& 31).toUInt32).toInt32))] [(.ref gg)]))
  refine Go.by (fun t k => XS.iloadN X1.here hx rfl (hb hby d5_9) rfl k) ?_
  show Go p e below _ (T1.setTop (mkF m 10 #[.val (.ref ob), .val (.int (0 : Int32)), .val (.int st_), .val (.int ((st_.toUInt32 >>> ((6 : Int32) &&& 31).toUInt32).toInt32))] [(.int (0 : Int32)), (.ref gg)]))
  obtain ⟨cl2, Ar2, qk2, sz2, nn2, Ha2, Gf2⟩ := id P3
  have hin3 : ¬ ((0 : Int32) < 0 ∨ cl2.slots.size ≤ ((0 : Int32)).toNatClampNeg) := inb_of sz2 ⟨by decide, by decide⟩
  have hat4 : cl2.slots[((0 : Int32)).toNatClampNeg]? = some (.ref g0) := Has.at Ha2 hin3 rfl
  refine Go.by (fun t k => X1.aaload hx (j := (0 : Int32)) (v := (.ref g0)) (by rw [e1]; exact Ar2.1) (State.isArrayOf_alike hZ.alike Ar2.2.1) rfl Ar2.2.2 hin3 hat4 (g := (mkF m 10 #[.val (.ref ob), .val (.int (0 : Int32)), .val (.int st_), .val (.int ((st_.toUInt32 >>> ((6 : Int32) &&& 31).toUInt32).toInt32))] [(.int (0 : Int32)), (.ref gg)])) rfl rfl (hb hby d5_10) t k) ?_
  show Go p e below _ (T1.setTop (mkF m 11 #[.val (.ref ob), .val (.int (0 : Int32)), .val (.int st_), .val (.int ((st_.toUInt32 >>> ((6 : Int32) &&& 31).toUInt32).toInt32))] [(.ref g0)]))
  refine Go.by (fun t k => XS.iloadN X1.here hx rfl (hb hby d5_11) rfl k) ?_
  show Go p e below _ (T1.setTop (mkF m 12 #[.val (.ref ob), .val (.int (0 : Int32)), .val (.int st_), .val (.int ((st_.toUInt32 >>> ((6 : Int32) &&& 31).toUInt32).toInt32))] [(.int ((st_.toUInt32 >>> ((6 : Int32) &&& 31).toUInt32).toInt32)), (.ref g0)]))
  obtain ⟨_, vs5, ⟨cl5, Ar5, qk5, sz5, nn5, Ha5, Gf5⟩, ln5, fn5⟩ := id P5
  have hin6 : ¬ (((st_.toUInt32 >>> ((6 : Int32) &&& 31).toUInt32).toInt32) < 0 ∨ cl5.slots.size ≤ (((st_.toUInt32 >>> ((6 : Int32) &&& 31).toUInt32).toInt32)).toNatClampNeg) := inb_of sz5 hin
  have hat7 : cl5.slots[(((st_.toUInt32 >>> ((6 : Int32) &&& 31).toUInt32).toInt32)).toNatClampNeg]? = some (.int (gu (((st_.toUInt32 >>> ((6 : Int32) &&& 31).toUInt32).toInt32)).toNatClampNeg)) := Has.at Ha5 hin6 (fn5 _ (by have q := hin6; have := sz5; omega))
  refine Go.by (fun t k => X1.iaload hx (j := ((st_.toUInt32 >>> ((6 : Int32) &&& 31).toUInt32).toInt32)) (v := (.int (gu (((st_.toUInt32 >>> ((6 : Int32) &&& 31).toUInt32).toInt32)).toNatClampNeg))) (by rw [e1]; exact Ar5.1) (State.isArrayOf_alike hZ.alike Ar5.2.1) Ar5.2.2 hin6 hat7 (g := (mkF m 12 #[.val (.ref ob), .val (.int (0 : Int32)), .val (.int st_), .val (.int ((st_.toUInt32 >>> ((6 : Int32) &&& 31).toUInt32).toInt32))] [(.int ((st_.toUInt32 >>> ((6 : Int32) &&& 31).toUInt32).toInt32)), (.ref g0)])) rfl rfl (hb hby d5_12) t k) ?_
  show Go p e below _ (T1.setTop (mkF m 13 #[.val (.ref ob), .val (.int (0 : Int32)), .val (.int st_), .val (.int ((st_.toUInt32 >>> ((6 : Int32) &&& 31).toUInt32).toInt32))] [(.int (gu (((st_.toUInt32 >>> ((6 : Int32) &&& 31).toUInt32).toInt32)).toNatClampNeg))]))
  refine Go.by (fun t k => XS.aloadN X1.here hx rfl (hb hby d5_13) rfl rfl k) ?_
  show Go p e below _ (T1.setTop (mkF m 14 #[.val (.ref ob), .val (.int (0 : Int32)), .val (.int st_), .val (.int ((st_.toUInt32 >>> ((6 : Int32) &&& 31).toUInt32).toInt32))] [(.ref ob), (.int (gu (((st_.toUInt32 >>> ((6 : Int32) &&& 31).toUInt32).toInt32)).toNatClampNeg))]))
  obtain ⟨T8, X8, e8, st8⟩ := getF X1 hx hZ hown (host := "") (Or.inl (hw _ (List.mem_of_getElem? (i := 12) rfl))) Via.refl e1 P0 (g := (mkF m 14 #[.val (.ref ob), .val (.int (0 : Int32)), .val (.int st_), .val (.int ((st_.toUInt32 >>> ((6 : Int32) &&& 31).toUInt32).toInt32))] [(.ref ob), (.int (gu (((st_.toUInt32 >>> ((6 : Int32) &&& 31).toUInt32).toInt32)).toNatClampNeg))])) rfl rfl (hb hby d5_14)
  refine Go.by st8 ?_
  show Go p e below _ (T8.setTop (mkF m 17 #[.val (.ref ob), .val (.int (0 : Int32)), .val (.int st_), .val (.int ((st_.toUInt32 >>> ((6 : Int32) &&& 31).toUInt32).toInt32))] [(.ref bb), (.int (gu (((st_.toUInt32 >>> ((6 : Int32) &&& 31).toUInt32).toInt32)).toNatClampNeg))]))
  refine Go.by (fun t k => XS.iloadN X8.here hx rfl (hb hby d5_17) rfl k) ?_
  show Go p e below _ (T8.setTop (mkF m 18 #[.val (.ref ob), .val (.int (0 : Int32)), .val (.int st_), .val (.int ((st_.toUInt32 >>> ((6 : Int32) &&& 31).toUInt32).toInt32))] [(.int (0 : Int32)), (.ref bb), (.int (gu (((st_.toUInt32 >>> ((6 : Int32) &&& 31).toUInt32).toInt32)).toNatClampNeg))]))
  obtain ⟨cl9, Ar9, qk9, sz9, nn9, Ha9, Gf9⟩ := id P2
  have hin10 : ¬ ((0 : Int32) < 0 ∨ cl9.slots.size ≤ ((0 : Int32)).toNatClampNeg) := inb_of sz9 ⟨by decide, by decide⟩
  have hat11 : cl9.slots[((0 : Int32)).toNatClampNeg]? = some (.ref b0) := Has.at Ha9 hin10 rfl
  refine Go.by (fun t k => X8.aaload hx (j := (0 : Int32)) (v := (.ref b0)) (by rw [e8]; exact Ar9.1) (State.isArrayOf_alike hZ.alike Ar9.2.1) rfl Ar9.2.2 hin10 hat11 (g := (mkF m 18 #[.val (.ref ob), .val (.int (0 : Int32)), .val (.int st_), .val (.int ((st_.toUInt32 >>> ((6 : Int32) &&& 31).toUInt32).toInt32))] [(.int (0 : Int32)), (.ref bb), (.int (gu (((st_.toUInt32 >>> ((6 : Int32) &&& 31).toUInt32).toInt32)).toNatClampNeg))])) rfl rfl (hb hby d5_18) t k) ?_
  show Go p e below _ (T8.setTop (mkF m 19 #[.val (.ref ob), .val (.int (0 : Int32)), .val (.int st_), .val (.int ((st_.toUInt32 >>> ((6 : Int32) &&& 31).toUInt32).toInt32))] [(.ref b0), (.int (gu (((st_.toUInt32 >>> ((6 : Int32) &&& 31).toUInt32).toInt32)).toNatClampNeg))]))
  refine Go.by (fun t k => XS.iloadN X8.here hx rfl (hb hby d5_19) rfl k) ?_
  show Go p e below _ (T8.setTop (mkF m 20 #[.val (.ref ob), .val (.int (0 : Int32)), .val (.int st_), .val (.int ((st_.toUInt32 >>> ((6 : Int32) &&& 31).toUInt32).toInt32))] [(.int ((st_.toUInt32 >>> ((6 : Int32) &&& 31).toUInt32).toInt32)), (.ref b0), (.int (gu (((st_.toUInt32 >>> ((6 : Int32) &&& 31).toUInt32).toInt32)).toNatClampNeg))]))
  obtain ⟨_, vs12, ⟨cl12, Ar12, qk12, sz12, nn12, Ha12, Gf12⟩, ln12, fn12⟩ := id P4
  have hin13 : ¬ (((st_.toUInt32 >>> ((6 : Int32) &&& 31).toUInt32).toInt32) < 0 ∨ cl12.slots.size ≤ (((st_.toUInt32 >>> ((6 : Int32) &&& 31).toUInt32).toInt32)).toNatClampNeg) := inb_of sz12 hin
  have hat14 : cl12.slots[(((st_.toUInt32 >>> ((6 : Int32) &&& 31).toUInt32).toInt32)).toNatClampNeg]? = some (.long (fu (((st_.toUInt32 >>> ((6 : Int32) &&& 31).toUInt32).toInt32)).toNatClampNeg)) := Has.at Ha12 hin13 (fn12 _ (by have q := hin13; have := sz12; omega))
  refine Go.by (fun t k => X8.laload hx (j := ((st_.toUInt32 >>> ((6 : Int32) &&& 31).toUInt32).toInt32)) (v := (.long (fu (((st_.toUInt32 >>> ((6 : Int32) &&& 31).toUInt32).toInt32)).toNatClampNeg))) (by rw [e8]; exact Ar12.1) (State.isArrayOf_alike hZ.alike Ar12.2.1) Ar12.2.2 hin13 hat14 (g := (mkF m 20 #[.val (.ref ob), .val (.int (0 : Int32)), .val (.int st_), .val (.int ((st_.toUInt32 >>> ((6 : Int32) &&& 31).toUInt32).toInt32))] [(.int ((st_.toUInt32 >>> ((6 : Int32) &&& 31).toUInt32).toInt32)), (.ref b0), (.int (gu (((st_.toUInt32 >>> ((6 : Int32) &&& 31).toUInt32).toInt32)).toNatClampNeg))])) rfl rfl (hb hby d5_20) t k) ?_
  show Go p e below _ (T8.setTop (mkF m 21 #[.val (.ref ob), .val (.int (0 : Int32)), .val (.int st_), .val (.int ((st_.toUInt32 >>> ((6 : Int32) &&& 31).toUInt32).toInt32))] [(.long (fu (((st_.toUInt32 >>> ((6 : Int32) &&& 31).toUInt32).toInt32)).toNatClampNeg)), (.int (gu (((st_.toUInt32 >>> ((6 : Int32) &&& 31).toUInt32).toInt32)).toNatClampNeg))]))
  refine Go.by (fun t k => XS.lconst X8.here hx rfl (hb hby d5_21) k) ?_
  show Go p e below _ (T8.setTop (mkF m 22 #[.val (.ref ob), .val (.int (0 : Int32)), .val (.int st_), .val (.int ((st_.toUInt32 >>> ((6 : Int32) &&& 31).toUInt32).toInt32))] [(.long (1 : Int64)), (.long (fu (((st_.toUInt32 >>> ((6 : Int32) &&& 31).toUInt32).toInt32)).toNatClampNeg)), (.int (gu (((st_.toUInt32 >>> ((6 : Int32) &&& 31).toUInt32).toInt32)).toNatClampNeg))]))
  refine Go.by (fun t k => XS.iloadN X8.here hx rfl (hb hby d5_22) rfl k) ?_
  show Go p e below _ (T8.setTop (mkF m 23 #[.val (.ref ob), .val (.int (0 : Int32)), .val (.int st_), .val (.int ((st_.toUInt32 >>> ((6 : Int32) &&& 31).toUInt32).toInt32))] [(.int st_), (.long (1 : Int64)), (.long (fu (((st_.toUInt32 >>> ((6 : Int32) &&& 31).toUInt32).toInt32)).toNatClampNeg)), (.int (gu (((st_.toUInt32 >>> ((6 : Int32) &&& 31).toUInt32).toInt32)).toNatClampNeg))]))
  refine Go.by (fun t k => XS.lshl X8.here hx rfl (hb hby d5_23) rfl k) ?_
  show Go p e below _ (T8.setTop (mkF m 24 #[.val (.ref ob), .val (.int (0 : Int32)), .val (.int st_), .val (.int ((st_.toUInt32 >>> ((6 : Int32) &&& 31).toUInt32).toInt32))] [(.long ((1 : Int64) <<< (st_ &&& 0x3f).toInt64)), (.long (fu (((st_.toUInt32 >>> ((6 : Int32) &&& 31).toUInt32).toInt32)).toNatClampNeg)), (.int (gu (((st_.toUInt32 >>> ((6 : Int32) &&& 31).toUInt32).toInt32)).toNatClampNeg))]))
  refine Go.by (fun t k => XS.lconst X8.here hx rfl (hb hby d5_24) k) ?_
  show Go p e below _ (T8.setTop (mkF m 25 #[.val (.ref ob), .val (.int (0 : Int32)), .val (.int st_), .val (.int ((st_.toUInt32 >>> ((6 : Int32) &&& 31).toUInt32).toInt32))] [(.long (1 : Int64)), (.long ((1 : Int64) <<< (st_ &&& 0x3f).toInt64)), (.long (fu (((st_.toUInt32 >>> ((6 : Int32) &&& 31).toUInt32).toInt32)).toNatClampNeg)), (.int (gu (((st_.toUInt32 >>> ((6 : Int32) &&& 31).toUInt32).toInt32)).toNatClampNeg))]))
  refine Go.by (fun t k => XS.lsub X8.here hx rfl (hb hby d5_25) rfl k) ?_
  show Go p e below _ (T8.setTop (mkF m 26 #[.val (.ref ob), .val (.int (0 : Int32)), .val (.int st_), .val (.int ((st_.toUInt32 >>> ((6 : Int32) &&& 31).toUInt32).toInt32))] [(.long (((1 : Int64) <<< (st_ &&& 0x3f).toInt64) - (1 : Int64))), (.long (fu (((st_.toUInt32 >>> ((6 : Int32) &&& 31).toUInt32).toInt32)).toNatClampNeg)), (.int (gu (((st_.toUInt32 >>> ((6 : Int32) &&& 31).toUInt32).toInt32)).toNatClampNeg))]))
  refine Go.by (fun t k => XS.land X8.here hx rfl (hb hby d5_26) rfl k) ?_
  show Go p e below _ (T8.setTop (mkF m 27 #[.val (.ref ob), .val (.int (0 : Int32)), .val (.int st_), .val (.int ((st_.toUInt32 >>> ((6 : Int32) &&& 31).toUInt32).toInt32))] [(.long ((fu (((st_.toUInt32 >>> ((6 : Int32) &&& 31).toUInt32).toInt32)).toNatClampNeg) &&& (((1 : Int64) <<< (st_ &&& 0x3f).toInt64) - (1 : Int64)))), (.int (gu (((st_.toUInt32 >>> ((6 : Int32) &&& 31).toUInt32).toInt32)).toNatClampNeg))]))
  obtain ⟨_, _, ⟨T15, L15, k15, n15⟩, -, X15, ⟨Lc15, hQ15, l15, y15, z15⟩, st15⟩ := Jvm.LawKit.callS X8 hx (y := (⟨"java/lang/Long", "bitCount", "(J)I"⟩ : MethodName)) hown (mvT hZ (hw _ (List.mem_of_getElem? (i := 37) rfl))) (mvT hZ (hw _ (List.mem_of_getElem? (i := 38) rfl))) (mvT hZ (hw _ (List.mem_of_getElem? (i := 39) rfl))) (mvT hZ (hw _ (List.mem_of_getElem? (i := 40) rfl))) (by decide) (backOf (W := 1) (bitCount l Z a0 hw [] ((fu (((st_.toUInt32 >>> ((6 : Int32) &&& 31).toUInt32).toInt32)).toNatClampNeg) &&& (((1 : Int64) <<< (st_ &&& 0x3f).toInt64) - (1 : Int64))) h0 n0 O0) hZ (hw _ (List.mem_of_getElem? (i := 40) rfl)) (hw _ (List.mem_of_getElem? (i := 39) rfl)) (by decide) (by decide)) (g := (mkF m 27 #[.val (.ref ob), .val (.int (0 : Int32)), .val (.int st_), .val (.int ((st_.toUInt32 >>> ((6 : Int32) &&& 31).toUInt32).toInt32))] [(.long ((fu (((st_.toUInt32 >>> ((6 : Int32) &&& 31).toUInt32).toInt32)).toNatClampNeg) &&& (((1 : Int64) <<< (st_ &&& 0x3f).toInt64) - (1 : Int64)))), (.int (gu (((st_.toUInt32 >>> ((6 : Int32) &&& 31).toUInt32).toInt32)).toNatClampNeg))])) rfl (by rw [hml]; rfl) (argsL := [(.long ((fu (((st_.toUInt32 >>> ((6 : Int32) &&& 31).toUInt32).toInt32)).toNatClampNeg) &&& (((1 : Int64) <<< (st_ &&& 0x3f).toInt64) - (1 : Int64))))]) (rest := [(.int (gu (((st_.toUInt32 >>> ((6 : Int32) &&& 31).toUInt32).toInt32)).toNatClampNeg))]) (lenOf pd_0 rfl) rfl (by show 2 * 0 + _ ≤ _; exact Nat.le_of_eq rfl) (hb hby d5_27) (fun _ _ => ⟨rfl, e8, (by decide : 0 + 0 ≤ _), (by decide : 0 + 0 ≤ _)⟩)
  dsimp only [Pt.U, Pt.locs, Pt.cells, Pt.slots] at X15 l15 y15 z15 st15 hQ15
  subst l15 y15 z15
  obtain ⟨rfl, N15q, e15⟩ := hQ15
  have N15 := Fr.app N0 N15q
  refine Go.by st15 ?_
  show Go p e below _ (T15.setTop (mkF m 30 #[.val (.ref ob), .val (.int (0 : Int32)), .val (.int st_), .val (.int ((st_.toUInt32 >>> ((6 : Int32) &&& 31).toUInt32).toInt32))] [(.int (own_bc ((fu (((st_.toUInt32 >>> ((6 : Int32) &&& 31).toUInt32).toInt32)).toNatClampNeg) &&& (((1 : Int64) <<< (st_ &&& 0x3f).toInt64) - (1 : Int64))))), (.int (gu (((st_.toUInt32 >>> ((6 : Int32) &&& 31).toUInt32).toInt32)).toNatClampNeg))]))
  refine Go.by (fun t k => XS.iadd X15.here hx rfl (hb hby d5_30) rfl k) ?_
  show Go p e below _ (T15.setTop (mkF m 31 #[.val (.ref ob), .val (.int (0 : Int32)), .val (.int st_), .val (.int ((st_.toUInt32 >>> ((6 : Int32) &&& 31).toUInt32).toInt32))] [(.int ((gu (((st_.toUInt32 >>> ((6 : Int32) &&& 31).toUInt32).toInt32)).toNatClampNeg) + (own_bc ((fu (((st_.toUInt32 >>> ((6 : Int32) &&& 31).toUInt32).toInt32)).toNatClampNeg) &&& (((1 : Int64) <<< (st_ &&& 0x3f).toInt64) - (1 : Int64))))))]))
  have hq : Q_number_0 Z ob st_ bb gg b0 g0 b1 g1 kb kg zz fu gu h0 n0 (some (.int ((gu (((st_.toUInt32 >>> ((6 : Int32) &&& 31).toUInt32).toInt32)).toNatClampNeg) + (own_bc ((fu (((st_.toUInt32 >>> ((6 : Int32) &&& 31).toUInt32).toInt32)).toNatClampNeg) &&& (((1 : Int64) <<< (st_ &&& 0x3f).toInt64) - (1 : Int64))))))) h0 _ := ⟨rfl, N15, rfl⟩
  exact Go.retI X15 hx Bd.returns hlk (hb hby d5_31) (by decide) (by decide) (by rw [e15]; exact hq)
theorem ef_number_1 (m : MethodId) (ob : Addr) (st_ : Int32) : entryFrame m #[(.ref ob), (.int (1 : Int32)), (.int st_)] 4 = mkF m 0 #[.val (.ref ob), .val (.int (1 : Int32)), .val (.int st_), .unset] [] := by first | (simp [entryFrame, mkF, argsToLocals, Value.category]; done) | rfl
def Q_number_1 (Z : State) (ob : Addr) (st_ : Int32) (bb : Addr) (gg : Addr) (b0 : Addr) (g0 : Addr) (b1 : Addr) (g1 : Addr) (kb : ClassId) (kg : ClassId) (zz : Int32) (fu : Nat → Int64) (gu : Nat → Int32) (h0 : Heap) (n0 : Nat) (v : Option Value) (h : Heap) (L : List Loc) : Prop := v = some (.int (own_num fu gu st_)) ∧ Fr n0 L ∧ h = h0
set_option maxRecDepth 65536 in
set_option maxHeartbeats 40000000 in
theorem number_1 (l : Launch) (Z : State) (a0 : Array Value) (hw : ∀ d ∈ tables_1, d.before a0 Z = true) (ws : List Jvm.Cond) (ob : Addr) (st_ : Int32) (bb : Addr) (gg : Addr) (b0 : Addr) (g0 : Addr) (b1 : Addr) (g1 : Addr) (kb : ClassId) (kg : ClassId) (zz : Int32) (fu : Nat → Int64) (gu : Nat → Int32) (h0 : Heap) (n0 : Nat) (O0 : Old Z n0 h0) (P0 : Fld Z h0 ob "com/example/wakepath/wakepath/automaton/NumberedStates" "bits" "[[J" (.ref bb)) (P1 : Fld Z h0 ob "com/example/wakepath/wakepath/automaton/NumberedStates" "firstNumber" "[[I" (.ref gg)) (P2 : Arv Z h0 bb kb (.array .long) (2 : Int32) [(.ref b0), (.ref b1)] .null) (P3 : Arv Z h0 gg kg (.array .int) (2 : Int32) [(.ref g0), (.ref g1)] .null) (P4 : own_La Z h0 b1 zz fu) (P5 : own_Ia Z h0 g1 zz gu) (hin : ¬ ((st_.toUInt32 >>> ((6 : Int32) &&& 31).toUInt32).toInt32) < 0 ∧ ((st_.toUInt32 >>> ((6 : Int32) &&& 31).toUInt32).toInt32) < zz) :
    MetFree l (⟨"com/example/wakepath/wakepath/automaton/NumberedStates", "number", "(II)I"⟩ : MethodName) (head1 (Jvm.Cond.code (⟨"com/example/wakepath/wakepath/automaton/NumberedStates", "number", "(II)I"⟩ : MethodName) prog_15_method_3_code 4 (some .int) :: ws) ({ frames := 1, cells := 0, slots := 0, locals := 14 } : Room)) (fun a U => a = #[(.ref ob), (.int (1 : Int32)), (.int st_)] ∧ Z.Warmed39 U.vm ∧ U.heap = h0) (fun _ _ _ _ _ => True) (fun _ U o U' => ∃ v L, o = .returned v ∧ Q_number_1 Z ob st_ bb gg b0 g0 b1 g1 kb kg zz fu gu h0 n0 v U'.heap L ∧ FrameEnd U o U' L ({ frames := 1, cells := 0, slots := 0, locals := 14 } : Room).cells ({ frames := 1, cells := 0, slots := 0, locals := 14 } : Room).slots) := by
  refine MetFree.of_bodySF (plainFor_of_name pn_1) hisR ?_
  intro p e s m args below meth c s₁ Bd hml0 hP hK
  obtain ⟨rfl, hZ, hh⟩ := hP
  have hx := Bd.exec
  have hby := Bd.bytes
  have hml : c.maxLocals = 4 := hml0
  have hown : s.vm.findClass "com/example/wakepath/wakepath/automaton/NumberedStates" = some m.cls := findClass_of_methodNamed Bd.named
  have hnm := (name_of_methodNamed Bd.named Bd.method).1
  have hlk := BodyLoose.notSynchronized Bd
  have X0 : Stand p l e ({ frames := 1, cells := 0, slots := 0, locals := 14 } : Room) s m #[(.ref ob), (.int (1 : Int32)), (.int st_)] below meth c s₁ [] 0 0 := Stand.of_body Bd
  have e0 : s₁.heap = h0 := by rw [← hh, Bd.state]; rfl
  have N0 := Fr.nil n0
  refine Go.start (P := fun o U' => ∃ v L, o = .returned v ∧ Q_number_1 Z ob st_ bb gg b0 g0 b1 g1 kb kg zz fu gu h0 n0 v U'.heap L ∧ FrameEnd s o U' L ({ frames := 1, cells := 0, slots := 0, locals := 14 } : Room).cells ({ frames := 1, cells := 0, slots := 0, locals := 14 } : Room).slots) (ef_number_1 m ob st_) ?_
  show Go p e below _ (s₁.setTop (mkF m 0 #[.val (.ref ob), .val (.int (1 : Int32)), .val (.int st_), .unset] []))
  refine Go.by (fun t k => XS.iloadN X0.here hx rfl (hb hby d5_0) rfl k) ?_
  show Go p e below _ (s₁.setTop (mkF m 1 #[.val (.ref ob), .val (.int (1 : Int32)), .val (.int st_), .unset] [(.int st_)]))
  refine Go.by (fun t k => XS.bipush X0.here hx rfl (hb hby d5_1) k) ?_
  show Go p e below _ (s₁.setTop (mkF m 3 #[.val (.ref ob), .val (.int (1 : Int32)), .val (.int st_), .unset] [(.int (6 : Int32)), (.int st_)]))
  refine Go.by (fun t k => XS.iushr X0.here hx rfl (hb hby d5_3) rfl k) ?_
  show Go p e below _ (s₁.setTop (mkF m 4 #[.val (.ref ob), .val (.int (1 : Int32)), .val (.int st_), .unset] [(.int ((st_.toUInt32 >>> ((6 : Int32) &&& 31).toUInt32).toInt32))]))
  refine Go.by (fun t k => XS.istoreN X0.here hx rfl (hb hby d5_4) rfl (l' := #[.val (.ref ob), .val (.int (1 : Int32)), .val (.int st_), .val (.int ((st_.toUInt32 >>> ((6 : Int32) &&& 31).toUInt32).toInt32))]) rfl k) ?_
  show Go p e below _ (s₁.setTop (mkF m 5 #[.val (.ref ob), .val (.int (1 : Int32)), .val (.int st_), .val (.int ((st_.toUInt32 >>> ((6 : Int32) &&& 31).toUInt32).toInt32))] []))
  refine Go.by (fun t k => XS.aloadN X0.here hx rfl (hb hby d5_5) rfl rfl k) ?_
  show Go p e below _ (s₁.setTop (mkF m 6 #[.val (.ref ob), .val (.int (1 : Int32)), .val (.int st_), .val (.int ((st_.toUInt32 >>> ((6 : Int32) &&& 31).toUInt32).toInt32))] [(.ref ob)]))
  obtain ⟨T1, X1, e1, st1⟩ := getF X0 hx hZ hown (host := "") (Or.inl (hw _ (List.mem_of_getElem? (i := 16) rfl))) Via.refl e0 P1 (g := (mkF m 6 #[.val (.ref ob), .val (.int (1 : Int32)), .val (.int st_), .val (.int ((st_.toUInt32 >>> ((6 : Int32) &&& 31).toUInt32).toInt32))] [(.ref ob)])) rfl rfl (hb hby d5_6)
  refine Go.by st1 ?_
  show Go p e below _ (T1.setTop (mkF m 9 #[.val (.ref ob), .val (.int (1 : Int32)), .val (.int st_), .val (.int ((st_.toUInt32 >>> ((6 : Int32) &&& 31).toUInt32).toInt32))] [(.ref gg)]))
  refine Go.by (fun t k => XS.iloadN X1.here hx rfl (hb hby d5_9) rfl k) ?_
  show Go p e below _ (T1.setTop (mkF m 10 #[.val (.ref ob), .val (.int (1 : Int32)), .val (.int st_), .val (.int ((st_.toUInt32 >>> ((6 : Int32) &&& 31).toUInt32).toInt32))] [(.int (1 : Int32)), (.ref gg)]))
  obtain ⟨cl2, Ar2, qk2, sz2, nn2, Ha2, Gf2⟩ := id P3
  have hin3 : ¬ ((1 : Int32) < 0 ∨ cl2.slots.size ≤ ((1 : Int32)).toNatClampNeg) := inb_of sz2 ⟨by decide, by decide⟩
  have hat4 : cl2.slots[((1 : Int32)).toNatClampNeg]? = some (.ref g1) := Has.at Ha2 hin3 rfl
  refine Go.by (fun t k => X1.aaload hx (j := (1 : Int32)) (v := (.ref g1)) (by rw [e1]; exact Ar2.1) (State.isArrayOf_alike hZ.alike Ar2.2.1) rfl Ar2.2.2 hin3 hat4 (g := (mkF m 10 #[.val (.ref ob), .val (.int (1 : Int32)), .val (.int st_), .val (.int ((st_.toUInt32 >>> ((6 : Int32) &&& 31).toUInt32).toInt32))] [(.int (1 : Int32)), (.ref gg)])) rfl rfl (hb hby d5_10) t k) ?_
  show Go p e below _ (T1.setTop (mkF m 11 #[.val (.ref ob), .val (.int (1 : Int32)), .val (.int st_), .val (.int ((st_.toUInt32 >>> ((6 : Int32) &&& 31).toUInt32).toInt32))] [(.ref g1)]))
  refine Go.by (fun t k => XS.iloadN X1.here hx rfl (hb hby d5_11) rfl k) ?_
  show Go p e below _ (T1.setTop (mkF m 12 #[.val (.ref ob), .val (.int (1 : Int32)), .val (.int st_), .val (.int ((st_.toUInt32 >>> ((6 : Int32) &&& 31).toUInt32).toInt32))] [(.int ((st_.toUInt32 >>> ((6 : Int32) &&& 31).toUInt32).toInt32)), (.ref g1)]))
  obtain ⟨_, vs5, ⟨cl5, Ar5, qk5, sz5, nn5, Ha5, Gf5⟩, ln5, fn5⟩ := id P5
  have hin6 : ¬ (((st_.toUInt32 >>> ((6 : Int32) &&& 31).toUInt32).toInt32) < 0 ∨ cl5.slots.size ≤ (((st_.toUInt32 >>> ((6 : Int32) &&& 31).toUInt32).toInt32)).toNatClampNeg) := inb_of sz5 hin
  have hat7 : cl5.slots[(((st_.toUInt32 >>> ((6 : Int32) &&& 31).toUInt32).toInt32)).toNatClampNeg]? = some (.int (gu (((st_.toUInt32 >>> ((6 : Int32) &&& 31).toUInt32).toInt32)).toNatClampNeg)) := Has.at Ha5 hin6 (fn5 _ (by have q := hin6; have := sz5; omega))
  refine Go.by (fun t k => X1.iaload hx (j := ((st_.toUInt32 >>> ((6 : Int32) &&& 31).toUInt32).toInt32)) (v := (.int (gu (((st_.toUInt32 >>> ((6 : Int32) &&& 31).toUInt32).toInt32)).toNatClampNeg))) (by rw [e1]; exact Ar5.1) (State.isArrayOf_alike hZ.alike Ar5.2.1) Ar5.2.2 hin6 hat7 (g := (mkF m 12 #[.val (.ref ob), .val (.int (1 : Int32)), .val (.int st_), .val (.int ((st_.toUInt32 >>> ((6 : Int32) &&& 31).toUInt32).toInt32))] [(.int ((st_.toUInt32 >>> ((6 : Int32) &&& 31).toUInt32).toInt32)), (.ref g1)])) rfl rfl (hb hby d5_12) t k) ?_
  show Go p e below _ (T1.setTop (mkF m 13 #[.val (.ref ob), .val (.int (1 : Int32)), .val (.int st_), .val (.int ((st_.toUInt32 >>> ((6 : Int32) &&& 31).toUInt32).toInt32))] [(.int (gu (((st_.toUInt32 >>> ((6 : Int32) &&& 31).toUInt32).toInt32)).toNatClampNeg))]))
  refine Go.by (fun t k => XS.aloadN X1.here hx rfl (hb hby d5_13) rfl rfl k) ?_
  show Go p e below _ (T1.setTop (mkF m 14 #[.val (.ref ob), .val (.int (1 : Int32)), .val (.int st_), .val (.int ((st_.toUInt32 >>> ((6 : Int32) &&& 31).toUInt32).toInt32))] [(.ref ob), (.int (gu (((st_.toUInt32 >>> ((6 : Int32) &&& 31).toUInt32).toInt32)).toNatClampNeg))]))
  obtain ⟨T8, X8, e8, st8⟩ := getF X1 hx hZ hown (host := "") (Or.inl (hw _ (List.mem_of_getElem? (i := 12) rfl))) Via.refl e1 P0 (g := (mkF m 14 #[.val (.ref ob), .val (.int (1 : Int32)), .val (.int st_), .val (.int ((st_.toUInt32 >>> ((6 : Int32) &&& 31).toUInt32).toInt32))] [(.ref ob), (.int (gu (((st_.toUInt32 >>> ((6 : Int32) &&& 31).toUInt32).toInt32)).toNatClampNeg))])) rfl rfl (hb hby d5_14)
  refine Go.by st8 ?_
  show Go p e below _ (T8.setTop (mkF m 17 #[.val (.ref ob), .val (.int (1 : Int32)), .val (.int st_), .val (.int ((st_.toUInt32 >>> ((6 : Int32) &&& 31).toUInt32).toInt32))] [(.ref bb), (.int (gu (((st_.toUInt32 >>> ((6 : Int32) &&& 31).toUInt32).toInt32)).toNatClampNeg))]))
  refine Go.by (fun t k => XS.iloadN X8.here hx rfl (hb hby d5_17) rfl k) ?_
  show Go p e below _ (T8.setTop (mkF m 18 #[.val (.ref ob), .val (.int (1 : Int32)), .val (.int st_), .val (.int ((st_.toUInt32 >>> ((6 : Int32) &&& 31).toUInt32).toInt32))] [(.int (1 : Int32)), (.ref bb), (.int (gu (((st_.toUInt32 >>> ((6 : Int32) &&& 31).toUInt32).toInt32)).toNatClampNeg))]))
  obtain ⟨cl9, Ar9, qk9, sz9, nn9, Ha9, Gf9⟩ := id P2
  have hin10 : ¬ ((1 : Int32) < 0 ∨ cl9.slots.size ≤ ((1 : Int32)).toNatClampNeg) := inb_of sz9 ⟨by decide, by decide⟩
  have hat11 : cl9.slots[((1 : Int32)).toNatClampNeg]? = some (.ref b1) := Has.at Ha9 hin10 rfl
  refine Go.by (fun t k => X8.aaload hx (j := (1 : Int32)) (v := (.ref b1)) (by rw [e8]; exact Ar9.1) (State.isArrayOf_alike hZ.alike Ar9.2.1) rfl Ar9.2.2 hin10 hat11 (g := (mkF m 18 #[.val (.ref ob), .val (.int (1 : Int32)), .val (.int st_), .val (.int ((st_.toUInt32 >>> ((6 : Int32) &&& 31).toUInt32).toInt32))] [(.int (1 : Int32)), (.ref bb), (.int (gu (((st_.toUInt32 >>> ((6 : Int32) &&& 31).toUInt32).toInt32)).toNatClampNeg))])) rfl rfl (hb hby d5_18) t k) ?_
  show Go p e below _ (T8.setTop (mkF m 19 #[.val (.ref ob), .val (.int (1 : Int32)), .val (.int st_), .val (.int ((st_.toUInt32 >>> ((6 : Int32) &&& 31).toUInt32).toInt32))] [(.ref b1), (.int (gu (((st_.toUInt32 >>> ((6 : Int32) &&& 31).toUInt32).toInt32)).toNatClampNeg))]))
  refine Go.by (fun t k => XS.iloadN X8.here hx rfl (hb hby d5_19) rfl k) ?_
  show Go p e below _ (T8.setTop (mkF m 20 #[.val (.ref ob), .val (.int (1 : Int32)), .val (.int st_), .val (.int ((st_.toUInt32 >>> ((6 : Int32) &&& 31).toUInt32).toInt32))] [(.int ((st_.toUInt32 >>> ((6 : Int32) &&& 31).toUInt32).toInt32)), (.ref b1), (.int (gu (((st_.toUInt32 >>> ((6 : Int32) &&& 31).toUInt32).toInt32)).toNatClampNeg))]))
  obtain ⟨_, vs12, ⟨cl12, Ar12, qk12, sz12, nn12, Ha12, Gf12⟩, ln12, fn12⟩ := id P4
  have hin13 : ¬ (((st_.toUInt32 >>> ((6 : Int32) &&& 31).toUInt32).toInt32) < 0 ∨ cl12.slots.size ≤ (((st_.toUInt32 >>> ((6 : Int32) &&& 31).toUInt32).toInt32)).toNatClampNeg) := inb_of sz12 hin
  have hat14 : cl12.slots[(((st_.toUInt32 >>> ((6 : Int32) &&& 31).toUInt32).toInt32)).toNatClampNeg]? = some (.long (fu (((st_.toUInt32 >>> ((6 : Int32) &&& 31).toUInt32).toInt32)).toNatClampNeg)) := Has.at Ha12 hin13 (fn12 _ (by have q := hin13; have := sz12; omega))
  refine Go.by (fun t k => X8.laload hx (j := ((st_.toUInt32 >>> ((6 : Int32) &&& 31).toUInt32).toInt32)) (v := (.long (fu (((st_.toUInt32 >>> ((6 : Int32) &&& 31).toUInt32).toInt32)).toNatClampNeg))) (by rw [e8]; exact Ar12.1) (State.isArrayOf_alike hZ.alike Ar12.2.1) Ar12.2.2 hin13 hat14 (g := (mkF m 20 #[.val (.ref ob), .val (.int (1 : Int32)), .val (.int st_), .val (.int ((st_.toUInt32 >>> ((6 : Int32) &&& 31).toUInt32).toInt32))] [(.int ((st_.toUInt32 >>> ((6 : Int32) &&& 31).toUInt32).toInt32)), (.ref b1), (.int (gu (((st_.toUInt32 >>> ((6 : Int32) &&& 31).toUInt32).toInt32)).toNatClampNeg))])) rfl rfl (hb hby d5_20) t k) ?_
  show Go p e below _ (T8.setTop (mkF m 21 #[.val (.ref ob), .val (.int (1 : Int32)), .val (.int st_), .val (.int ((st_.toUInt32 >>> ((6 : Int32) &&& 31).toUInt32).toInt32))] [(.long (fu (((st_.toUInt32 >>> ((6 : Int32) &&& 31).toUInt32).toInt32)).toNatClampNeg)), (.int (gu (((st_.toUInt32 >>> ((6 : Int32) &&& 31).toUInt32).toInt32)).toNatClampNeg))]))
  refine Go.by (fun t k => XS.lconst X8.here hx rfl (hb hby d5_21) k) ?_
  show Go p e below _ (T8.setTop (mkF m 22 #[.val (.ref ob), .val (.int (1 : Int32)), .val (.int st_), .val (.int ((st_.toUInt32 >>> ((6 : Int32) &&& 31).toUInt32).toInt32))] [(.long (1 : Int64)), (.long (fu (((st_.toUInt32 >>> ((6 : Int32) &&& 31).toUInt32).toInt32)).toNatClampNeg)), (.int (gu (((st_.toUInt32 >>> ((6 : Int32) &&& 31).toUInt32).toInt32)).toNatClampNeg))]))
  refine Go.by (fun t k => XS.iloadN X8.here hx rfl (hb hby d5_22) rfl k) ?_
  show Go p e below _ (T8.setTop (mkF m 23 #[.val (.ref ob), .val (.int (1 : Int32)), .val (.int st_), .val (.int ((st_.toUInt32 >>> ((6 : Int32) &&& 31).toUInt32).toInt32))] [(.int st_), (.long (1 : Int64)), (.long (fu (((st_.toUInt32 >>> ((6 : Int32) &&& 31).toUInt32).toInt32)).toNatClampNeg)), (.int (gu (((st_.toUInt32 >>> ((6 : Int32) &&& 31).toUInt32).toInt32)).toNatClampNeg))]))
  refine Go.by (fun t k => XS.lshl X8.here hx rfl (hb hby d5_23) rfl k) ?_
  show Go p e below _ (T8.setTop (mkF m 24 #[.val (.ref ob), .val (.int (1 : Int32)), .val (.int st_), .val (.int ((st_.toUInt32 >>> ((6 : Int32) &&& 31).toUInt32).toInt32))] [(.long ((1 : Int64) <<< (st_ &&& 0x3f).toInt64)), (.long (fu (((st_.toUInt32 >>> ((6 : Int32) &&& 31).toUInt32).toInt32)).toNatClampNeg)), (.int (gu (((st_.toUInt32 >>> ((6 : Int32) &&& 31).toUInt32).toInt32)).toNatClampNeg))]))
  refine Go.by (fun t k => XS.lconst X8.here hx rfl (hb hby d5_24) k) ?_
  show Go p e below _ (T8.setTop (mkF m 25 #[.val (.ref ob), .val (.int (1 : Int32)), .val (.int st_), .val (.int ((st_.toUInt32 >>> ((6 : Int32) &&& 31).toUInt32).toInt32))] [(.long (1 : Int64)), (.long ((1 : Int64) <<< (st_ &&& 0x3f).toInt64)), (.long (fu (((st_.toUInt32 >>> ((6 : Int32) &&& 31).toUInt32).toInt32)).toNatClampNeg)), (.int (gu (((st_.toUInt32 >>> ((6 : Int32) &&& 31).toUInt32).toInt32)).toNatClampNeg))]))
  refine Go.by (fun t k => XS.lsub X8.here hx rfl (hb hby d5_25) rfl k) ?_
  show Go p e below _ (T8.setTop (mkF m 26 #[.val (.ref ob), .val (.int (1 : Int32)), .val (.int st_), .val (.int ((st_.toUInt32 >>> ((6 : Int32) &&& 31).toUInt32).toInt32))] [(.long (((1 : Int64) <<< (st_ &&& 0x3f).toInt64) - (1 : Int64))), (.long (fu (((st_.toUInt32 >>> ((6 : Int32) &&& 31).toUInt32).toInt32)).toNatClampNeg)), (.int (gu (((st_.toUInt32 >>> ((6 : Int32) &&& 31).toUInt32).toInt32)).toNatClampNeg))]))
  refine Go.by (fun t k => XS.land X8.here hx rfl (hb hby d5_26) rfl k) ?_
  show Go p e below _ (T8.setTop (mkF m 27 #[.val (.ref ob), .val (.int (1 : Int32)), .val (.int st_), .val (.int ((st_.toUInt32 >>> ((6 : Int32) &&& 31).toUInt32).toInt32))] [(.long ((fu (((st_.toUInt32 >>> ((6 : Int32) &&& 31).toUInt32).toInt32)).toNatClampNeg) &&& (((1 : Int64) <<< (st_ &&& 0x3f).toInt64) - (1 : Int64)))), (.int (gu (((st_.toUInt32 >>> ((6 : Int32) &&& 31).toUInt32).toInt32)).toNatClampNeg))]))
  obtain ⟨_, _, ⟨T15, L15, k15, n15⟩, -, X15, ⟨Lc15, hQ15, l15, y15, z15⟩, st15⟩ := Jvm.LawKit.callS X8 hx (y := (⟨"java/lang/Long", "bitCount", "(J)I"⟩ : MethodName)) hown (mvT hZ (hw _ (List.mem_of_getElem? (i := 37) rfl))) (mvT hZ (hw _ (List.mem_of_getElem? (i := 38) rfl))) (mvT hZ (hw _ (List.mem_of_getElem? (i := 39) rfl))) (mvT hZ (hw _ (List.mem_of_getElem? (i := 40) rfl))) (by decide) (backOf (W := 1) (bitCount l Z a0 hw [] ((fu (((st_.toUInt32 >>> ((6 : Int32) &&& 31).toUInt32).toInt32)).toNatClampNeg) &&& (((1 : Int64) <<< (st_ &&& 0x3f).toInt64) - (1 : Int64))) h0 n0 O0) hZ (hw _ (List.mem_of_getElem? (i := 40) rfl)) (hw _ (List.mem_of_getElem? (i := 39) rfl)) (by decide) (by decide)) (g := (mkF m 27 #[.val (.ref ob), .val (.int (1 : Int32)), .val (.int st_), .val (.int ((st_.toUInt32 >>> ((6 : Int32) &&& 31).toUInt32).toInt32))] [(.long ((fu (((st_.toUInt32 >>> ((6 : Int32) &&& 31).toUInt32).toInt32)).toNatClampNeg) &&& (((1 : Int64) <<< (st_ &&& 0x3f).toInt64) - (1 : Int64)))), (.int (gu (((st_.toUInt32 >>> ((6 : Int32) &&& 31).toUInt32).toInt32)).toNatClampNeg))])) rfl (by rw [hml]; rfl) (argsL := [(.long ((fu (((st_.toUInt32 >>> ((6 : Int32) &&& 31).toUInt32).toInt32)).toNatClampNeg) &&& (((1 : Int64) <<< (st_ &&& 0x3f).toInt64) - (1 : Int64))))]) (rest := [(.int (gu (((st_.toUInt32 >>> ((6 : Int32) &&& 31).toUInt32).toInt32)).toNatClampNeg))]) (lenOf pd_0 rfl) rfl (by show 2 * 0 + _ ≤ _; exact Nat.le_of_eq rfl) (hb hby d5_27) (fun _ _ => ⟨rfl, e8, (by decide : 0 + 0 ≤ _), (by decide : 0 + 0 ≤ _)⟩)
  dsimp only [Pt.U, Pt.locs, Pt.cells, Pt.slots] at X15 l15 y15 z15 st15 hQ15
  subst l15 y15 z15
  obtain ⟨rfl, N15q, e15⟩ := hQ15
  have N15 := Fr.app N0 N15q
  refine Go.by st15 ?_
  show Go p e below _ (T15.setTop (mkF m 30 #[.val (.ref ob), .val (.int (1 : Int32)), .val (.int st_), .val (.int ((st_.toUInt32 >>> ((6 : Int32) &&& 31).toUInt32).toInt32))] [(.int (own_bc ((fu (((st_.toUInt32 >>> ((6 : Int32) &&& 31).toUInt32).toInt32)).toNatClampNeg) &&& (((1 : Int64) <<< (st_ &&& 0x3f).toInt64) - (1 : Int64))))), (.int (gu (((st_.toUInt32 >>> ((6 : Int32) &&& 31).toUInt32).toInt32)).toNatClampNeg))]))
  refine Go.by (fun t k => XS.iadd X15.here hx rfl (hb hby d5_30) rfl k) ?_
  show Go p e below _ (T15.setTop (mkF m 31 #[.val (.ref ob), .val (.int (1 : Int32)), .val (.int st_), .val (.int ((st_.toUInt32 >>> ((6 : Int32) &&& 31).toUInt32).toInt32))] [(.int ((gu (((st_.toUInt32 >>> ((6 : Int32) &&& 31).toUInt32).toInt32)).toNatClampNeg) + (own_bc ((fu (((st_.toUInt32 >>> ((6 : Int32) &&& 31).toUInt32).toInt32)).toNatClampNeg) &&& (((1 : Int64) <<< (st_ &&& 0x3f).toInt64) - (1 : Int64))))))]))
  have hq : Q_number_1 Z ob st_ bb gg b0 g0 b1 g1 kb kg zz fu gu h0 n0 (some (.int ((gu (((st_.toUInt32 >>> ((6 : Int32) &&& 31).toUInt32).toInt32)).toNatClampNeg) + (own_bc ((fu (((st_.toUInt32 >>> ((6 : Int32) &&& 31).toUInt32).toInt32)).toNatClampNeg) &&& (((1 : Int64) <<< (st_ &&& 0x3f).toInt64) - (1 : Int64))))))) h0 _ := ⟨rfl, N15, rfl⟩
  exact Go.retI X15 hx Bd.returns hlk (hb hby d5_31) (by decide) (by decide) (by rw [e15]; exact hq)
theorem pn_2 : plainName "com/example/wakepath/wakepath/automaton/NumberedStatesAddPinLaw" = true := by first | (simp [plainName, overriddenIn]; done) | decide +kernel
theorem d4_0 : decode method_3_code 0 = .ok (.iload_n 2, 1) := by decide +kernel
theorem d4_1 : decode method_3_code 1 = .ok (.aload_n 0, 1) := by decide +kernel
theorem d4_2 : decode method_3_code 2 = .ok (.arraylength, 1) := by decide +kernel
theorem d4_3 : decode method_3_code 3 = .ok (.if_icmp .lt 5, 3) := by decide +kernel
theorem d4_8 : decode method_3_code 8 = .ok (.aload_n 1, 1) := by decide +kernel
theorem d4_9 : decode method_3_code 9 = .ok (.arraylength, 1) := by decide +kernel
theorem d4_10 : decode method_3_code 10 = .ok (.aload_n 0, 1) := by decide +kernel
theorem d4_11 : decode method_3_code 11 = .ok (.arraylength, 1) := by decide +kernel
theorem d4_12 : decode method_3_code 12 = .ok (.if_icmp .eq 5, 3) := by decide +kernel
theorem d4_17 : decode method_3_code 17 = .ok (.lconst 0, 1) := by decide +kernel
theorem d4_18 : decode method_3_code 18 = .ok (.lstore 7, 2) := by decide +kernel
theorem d4_20 : decode method_3_code 20 = .ok (.iload_n 3, 1) := by decide +kernel
theorem d4_21 : decode method_3_code 21 = .ok (.bipush 6, 2) := by decide +kernel
theorem d4_23 : decode method_3_code 23 = .ok (.iushr, 1) := by decide +kernel
theorem d4_24 : decode method_3_code 24 = .ok (.iload_n 2, 1) := by decide +kernel
theorem d4_25 : decode method_3_code 25 = .ok (.if_icmp .ne 11, 3) := by decide +kernel
theorem d4_28 : decode method_3_code 28 = .ok (.lload 7, 2) := by decide +kernel
theorem d4_30 : decode method_3_code 30 = .ok (.lconst 1, 1) := by decide +kernel
theorem d4_31 : decode method_3_code 31 = .ok (.iload_n 3, 1) := by decide +kernel
theorem d4_32 : decode method_3_code 32 = .ok (.lshl, 1) := by decide +kernel
theorem d4_33 : decode method_3_code 33 = .ok (.lor, 1) := by decide +kernel
theorem d4_34 : decode method_3_code 34 = .ok (.lstore 7, 2) := by decide +kernel
theorem d4_36 : decode method_3_code 36 = .ok (.iload 4, 2) := by decide +kernel
theorem d4_38 : decode method_3_code 38 = .ok (.bipush 6, 2) := by decide +kernel
theorem d4_40 : decode method_3_code 40 = .ok (.iushr, 1) := by decide +kernel
theorem d4_41 : decode method_3_code 41 = .ok (.iload_n 2, 1) := by decide +kernel
theorem d4_42 : decode method_3_code 42 = .ok (.if_icmp .ne 12, 3) := by decide +kernel
theorem d4_45 : decode method_3_code 45 = .ok (.lload 7, 2) := by decide +kernel
theorem d4_47 : decode method_3_code 47 = .ok (.lconst 1, 1) := by decide +kernel
theorem d4_48 : decode method_3_code 48 = .ok (.iload 4, 2) := by decide +kernel
theorem d4_50 : decode method_3_code 50 = .ok (.lshl, 1) := by decide +kernel
theorem d4_51 : decode method_3_code 51 = .ok (.lor, 1) := by decide +kernel
theorem d4_52 : decode method_3_code 52 = .ok (.lstore 7, 2) := by decide +kernel
theorem d4_54 : decode method_3_code 54 = .ok (.iload 5, 2) := by decide +kernel
theorem d4_56 : decode method_3_code 56 = .ok (.bipush 6, 2) := by decide +kernel
theorem d4_58 : decode method_3_code 58 = .ok (.iushr, 1) := by decide +kernel
theorem d4_59 : decode method_3_code 59 = .ok (.iload_n 2, 1) := by decide +kernel
theorem d4_60 : decode method_3_code 60 = .ok (.if_icmp .ne 12, 3) := by decide +kernel
theorem d4_63 : decode method_3_code 63 = .ok (.lload 7, 2) := by decide +kernel
theorem d4_65 : decode method_3_code 65 = .ok (.lconst 1, 1) := by decide +kernel
theorem d4_66 : decode method_3_code 66 = .ok (.iload 5, 2) := by decide +kernel
theorem d4_68 : decode method_3_code 68 = .ok (.lshl, 1) := by decide +kernel
theorem d4_69 : decode method_3_code 69 = .ok (.lor, 1) := by decide +kernel
theorem d4_70 : decode method_3_code 70 = .ok (.lstore 7, 2) := by decide +kernel
theorem d4_72 : decode method_3_code 72 = .ok (.iload_n 3, 1) := by decide +kernel
theorem d4_73 : decode method_3_code 73 = .ok (.bipush 6, 2) := by decide +kernel
theorem d4_75 : decode method_3_code 75 = .ok (.iushr, 1) := by decide +kernel
theorem d4_76 : decode method_3_code 76 = .ok (.iload_n 2, 1) := by decide +kernel
theorem d4_77 : decode method_3_code 77 = .ok (.if_icmp .ne 10, 3) := by decide +kernel
theorem d4_80 : decode method_3_code 80 = .ok (.iload 6, 2) := by decide +kernel
theorem d4_82 : decode method_3_code 82 = .ok (.istore 9, 2) := by decide +kernel
theorem d4_84 : decode method_3_code 84 = .ok (.goto 42, 3) := by decide +kernel
theorem d4_126 : decode method_3_code 126 = .ok (.aload_n 0, 1) := by decide +kernel
theorem d4_127 : decode method_3_code 127 = .ok (.iload_n 2, 1) := by decide +kernel
theorem d4_128 : decode method_3_code 128 = .ok (.laload, 1) := by decide +kernel
theorem d4_129 : decode method_3_code 129 = .ok (.lload 7, 2) := by decide +kernel
theorem d4_131 : decode method_3_code 131 = .ok (.lcmp, 1) := by decide +kernel
theorem d4_132 : decode method_3_code 132 = .ok (.ifCond .ne 15, 3) := by decide +kernel
theorem d4_135 : decode method_3_code 135 = .ok (.aload_n 1, 1) := by decide +kernel
theorem d4_136 : decode method_3_code 136 = .ok (.iload_n 2, 1) := by decide +kernel
theorem d4_137 : decode method_3_code 137 = .ok (.iaload, 1) := by decide +kernel
theorem d4_138 : decode method_3_code 138 = .ok (.iload 9, 2) := by decide +kernel
theorem d4_140 : decode method_3_code 140 = .ok (.if_icmp .ne 7, 3) := by decide +kernel
theorem d4_143 : decode method_3_code 143 = .ok (.iconst 1, 1) := by decide +kernel
theorem d4_144 : decode method_3_code 144 = .ok (.goto 4, 3) := by decide +kernel
theorem d4_148 : decode method_3_code 148 = .ok (.ireturn, 1) := by decide +kernel
theorem d4_87 : decode method_3_code 87 = .ok (.iload 4, 2) := by decide +kernel
theorem d4_89 : decode method_3_code 89 = .ok (.bipush 6, 2) := by decide +kernel
theorem d4_91 : decode method_3_code 91 = .ok (.iushr, 1) := by decide +kernel
theorem d4_92 : decode method_3_code 92 = .ok (.iload_n 2, 1) := by decide +kernel
theorem d4_93 : decode method_3_code 93 = .ok (.if_icmp .ne 12, 3) := by decide +kernel
theorem d4_96 : decode method_3_code 96 = .ok (.iload 6, 2) := by decide +kernel
theorem d4_98 : decode method_3_code 98 = .ok (.iconst 1, 1) := by decide +kernel
theorem d4_99 : decode method_3_code 99 = .ok (.iadd, 1) := by decide +kernel
theorem d4_100 : decode method_3_code 100 = .ok (.istore 9, 2) := by decide +kernel
theorem d4_102 : decode method_3_code 102 = .ok (.goto 24, 3) := by decide +kernel
theorem d4_105 : decode method_3_code 105 = .ok (.iload 5, 2) := by decide +kernel
theorem d4_107 : decode method_3_code 107 = .ok (.bipush 6, 2) := by decide +kernel
theorem d4_109 : decode method_3_code 109 = .ok (.iushr, 1) := by decide +kernel
theorem d4_110 : decode method_3_code 110 = .ok (.iload_n 2, 1) := by decide +kernel
theorem d4_111 : decode method_3_code 111 = .ok (.if_icmp .ne 12, 3) := by decide +kernel
theorem d4_114 : decode method_3_code 114 = .ok (.iload 6, 2) := by decide +kernel
theorem d4_116 : decode method_3_code 116 = .ok (.iconst 2, 1) := by decide +kernel
theorem d4_117 : decode method_3_code 117 = .ok (.iadd, 1) := by decide +kernel
theorem d4_118 : decode method_3_code 118 = .ok (.istore 9, 2) := by decide +kernel
theorem d4_120 : decode method_3_code 120 = .ok (.goto 6, 3) := by decide +kernel
theorem d4_123 : decode method_3_code 123 = .ok (.iconst 0, 1) := by decide +kernel
theorem d4_124 : decode method_3_code 124 = .ok (.istore 9, 2) := by decide +kernel
theorem d4_6 : decode method_3_code 6 = .ok (.iconst 1, 1) := by decide +kernel
theorem d4_7 : decode method_3_code 7 = .ok (.ireturn, 1) := by decide +kernel
theorem ef_wordOk (m : MethodId) (ba : Addr) (ga : Addr) (ww : Int32) (sa : Int32) (sb : Int32) (sc : Int32) (na : Int32) : entryFrame m #[(.ref ba), (.ref ga), (.int ww), (.int sa), (.int sb), (.int sc), (.int na)] 10 = mkF m 0 #[.val (.ref ba), .val (.ref ga), .val (.int ww), .val (.int sa), .val (.int sb), .val (.int sc), .val (.int na), .unset, .unset, .unset] [] := by first | (simp [entryFrame, mkF, argsToLocals, Value.category]; done) | rfl
def Q_wordOk (Z : State) (ba : Addr) (ga : Addr) (ww : Int32) (sa : Int32) (sb : Int32) (sc : Int32) (na : Int32) (zz : Int32) (fu : Nat → Int64) (gu : Nat → Int32) (h0 : Heap) (n0 : Nat) (v : Option Value) (h : Heap) (L : List Loc) : Prop := v = some (.int (1 : Int32)) ∧ Fr n0 L ∧ h = h0
set_option maxRecDepth 65536 in
set_option maxHeartbeats 40000000 in
theorem wordOk (l : Launch) (Z : State) (a0 : Array Value) (hw : ∀ d ∈ tables_1, d.before a0 Z = true) (ws : List Jvm.Cond) (ba : Addr) (ga : Addr) (ww : Int32) (sa : Int32) (sb : Int32) (sc : Int32) (na : Int32) (zz : Int32) (fu : Nat → Int64) (gu : Nat → Int32) (h0 : Heap) (n0 : Nat) (O0 : Old Z n0 h0) (P0 : own_La Z h0 ba zz fu) (P1 : own_Ia Z h0 ga zz gu) (hw0 : ¬ ww < 0) (hB : ww < zz → (fu (ww).toNatClampNeg) = own_expB sa sb sc ww) (hF : ww < zz → (gu (ww).toNatClampNeg) = own_expF sa sb sc na ww) :
    MetFree l (⟨"com/example/wakepath/wakepath/automaton/NumberedStatesAddPinLaw", "wordOk", "([J[IIIIII)Z"⟩ : MethodName) (head1 (Jvm.Cond.code (⟨"com/example/wakepath/wakepath/automaton/NumberedStatesAddPinLaw", "wordOk", "([J[IIIIII)Z"⟩ : MethodName) method_3_code 10 (some .boolean) :: ws) ({ frames := 0, cells := 0, slots := 0, locals := 0 } : Room)) (fun a U => a = #[(.ref ba), (.ref ga), (.int ww), (.int sa), (.int sb), (.int sc), (.int na)] ∧ Z.Warmed39 U.vm ∧ U.heap = h0) (fun _ _ _ _ _ => True) (fun _ U o U' => ∃ v L, o = .returned v ∧ Q_wordOk Z ba ga ww sa sb sc na zz fu gu h0 n0 v U'.heap L ∧ FrameEnd U o U' L ({ frames := 0, cells := 0, slots := 0, locals := 0 } : Room).cells ({ frames := 0, cells := 0, slots := 0, locals := 0 } : Room).slots) := by
  refine MetFree.of_bodySF (plainFor_of_name pn_2) hisR ?_
  intro p e s m args below meth c s₁ Bd hml0 hP hK
  obtain ⟨rfl, hZ, hh⟩ := hP
  have hx := Bd.exec
  have hby := Bd.bytes
  have hml : c.maxLocals = 10 := hml0
  have hown : s.vm.findClass "com/example/wakepath/wakepath/automaton/NumberedStatesAddPinLaw" = some m.cls := findClass_of_methodNamed Bd.named
  have hnm := (name_of_methodNamed Bd.named Bd.method).1
  have hlk := BodyLoose.notSynchronized Bd
  have X0 : Stand p l e ({ frames := 0, cells := 0, slots := 0, locals := 0 } : Room) s m #[(.ref ba), (.ref ga), (.int ww), (.int sa), (.int sb), (.int sc), (.int na)] below meth c s₁ [] 0 0 := Stand.of_body Bd
  have e0 : s₁.heap = h0 := by rw [← hh, Bd.state]; rfl
  have N0 := Fr.nil n0
  refine Go.start (P := fun o U' => ∃ v L, o = .returned v ∧ Q_wordOk Z ba ga ww sa sb sc na zz fu gu h0 n0 v U'.heap L ∧ FrameEnd s o U' L ({ frames := 0, cells := 0, slots := 0, locals := 0 } : Room).cells ({ frames := 0, cells := 0, slots := 0, locals := 0 } : Room).slots) (ef_wordOk m ba ga ww sa sb sc na) ?_
  show Go p e below _ (s₁.setTop (mkF m 0 #[.val (.ref ba), .val (.ref ga), .val (.int ww), .val (.int sa), .val (.int sb), .val (.int sc), .val (.int na), .unset, .unset, .unset] []))
  refine Go.by (fun t k => XS.iloadN X0.here hx rfl (hb hby d4_0) rfl k) ?_
  show Go p e below _ (s₁.setTop (mkF m 1 #[.val (.ref ba), .val (.ref ga), .val (.int ww), .val (.int sa), .val (.int sb), .val (.int sc), .val (.int na), .unset, .unset, .unset] [(.int ww)]))
  refine Go.by (fun t k => XS.aloadN X0.here hx rfl (hb hby d4_1) rfl rfl k) ?_
  show Go p e below _ (s₁.setTop (mkF m 2 #[.val (.ref ba), .val (.ref ga), .val (.int ww), .val (.int sa), .val (.int sb), .val (.int sc), .val (.int na), .unset, .unset, .unset] [(.ref ba), (.int ww)]))
  obtain ⟨_, _, ⟨cl1, Ar1, -, sz1, nn1, -, -⟩, -⟩ := id P0
  have hl1 : cl1.slots.size.toInt32 = zz := len_of sz1 nn1
  refine Go.by (fun t k => X0.arraylength hx (by rw [e0]; exact Ar1.1) (State.isArrayOf_alike hZ.alike Ar1.2.1) (g := (mkF m 2 #[.val (.ref ba), .val (.ref ga), .val (.int ww), .val (.int sa), .val (.int sb), .val (.int sc), .val (.int na), .unset, .unset, .unset] [(.ref ba), (.int ww)])) rfl rfl (hb hby d4_2) t (by rw [hl1]; exact k)) ?_
  show Go p e below _ (s₁.setTop (mkF m 3 #[.val (.ref ba), .val (.ref ga), .val (.int ww), .val (.int sa), .val (.int sb), .val (.int sc), .val (.int na), .unset, .unset, .unset] [(.int zz), (.int ww)]))
  by_cases hc2 : ww < zz
  · skip
    refine Go.by (fun t k => XS.icmpYes X0.here hx rfl (pc0 := 3) (pc' := 8) rfl (hb hby d4_3) rfl (tlt hc2).1 (by decide) (by decide) k) ?_
    show Go p e below _ (s₁.setTop (mkF m 8 #[.val (.ref ba), .val (.ref ga), .val (.int ww), .val (.int sa), .val (.int sb), .val (.int sc), .val (.int na), .unset, .unset, .unset] []))
    refine Go.by (fun t k => XS.aloadN X0.here hx rfl (hb hby d4_8) rfl rfl k) ?_
    show Go p e below _ (s₁.setTop (mkF m 9 #[.val (.ref ba), .val (.ref ga), .val (.int ww), .val (.int sa), .val (.int sb), .val (.int sc), .val (.int na), .unset, .unset, .unset] [(.ref ga)]))
    obtain ⟨_, _, ⟨cl3, Ar3, -, sz3, nn3, -, -⟩, -⟩ := id P1
    have hl3 : cl3.slots.size.toInt32 = zz := len_of sz3 nn3
    refine Go.by (fun t k => X0.arraylength hx (by rw [e0]; exact Ar3.1) (State.isArrayOf_alike hZ.alike Ar3.2.1) (g := (mkF m 9 #[.val (.ref ba), .val (.ref ga), .val (.int ww), .val (.int sa), .val (.int sb), .val (.int sc), .val (.int na), .unset, .unset, .unset] [(.ref ga)])) rfl rfl (hb hby d4_9) t (by rw [hl3]; exact k)) ?_
    show Go p e below _ (s₁.setTop (mkF m 10 #[.val (.ref ba), .val (.ref ga), .val (.int ww), .val (.int sa), .val (.int sb), .val (.int sc), .val (.int na), .unset, .unset, .unset] [(.int zz)]))
    refine Go.by (fun t k => XS.aloadN X0.here hx rfl (hb hby d4_10) rfl rfl k) ?_
    show Go p e below _ (s₁.setTop (mkF m 11 #[.val (.ref ba), .val (.ref ga), .val (.int ww), .val (.int sa), .val (.int sb), .val (.int sc), .val (.int na), .unset, .unset, .unset] [(.ref ba), (.int zz)]))
    obtain ⟨_, _, ⟨cl4, Ar4, -, sz4, nn4, -, -⟩, -⟩ := id P0
    have hl4 : cl4.slots.size.toInt32 = zz := len_of sz4 nn4
    refine Go.by (fun t k => X0.arraylength hx (by rw [e0]; exact Ar4.1) (State.isArrayOf_alike hZ.alike Ar4.2.1) (g := (mkF m 11 #[.val (.ref ba), .val (.ref ga), .val (.int ww), .val (.int sa), .val (.int sb), .val (.int sc), .val (.int na), .unset, .unset, .unset] [(.ref ba), (.int zz)])) rfl rfl (hb hby d4_11) t (by rw [hl4]; exact k)) ?_
    show Go p e below _ (s₁.setTop (mkF m 12 #[.val (.ref ba), .val (.ref ga), .val (.int ww), .val (.int sa), .val (.int sb), .val (.int sc), .val (.int na), .unset, .unset, .unset] [(.int zz), (.int zz)]))
    refine Go.by (fun t k => XS.icmpYes X0.here hx rfl (pc0 := 12) (pc' := 17) rfl (hb hby d4_12) rfl (teq rfl).1 (by decide) (by decide) k) ?_
    show Go p e below _ (s₁.setTop (mkF m 17 #[.val (.ref ba), .val (.ref ga), .val (.int ww), .val (.int sa), .val (.int sb), .val (.int sc), .val (.int na), .unset, .unset, .unset] []))
    refine Go.by (fun t k => XS.lconst X0.here hx rfl (hb hby d4_17) k) ?_
    show Go p e below _ (s₁.setTop (mkF m 18 #[.val (.ref ba), .val (.ref ga), .val (.int ww), .val (.int sa), .val (.int sb), .val (.int sc), .val (.int na), .unset, .unset, .unset] [(.long (0 : Int64))]))
    refine Go.by (fun t k => XS.lstore X0.here hx rfl (hb hby d4_18) rfl (l' := #[.val (.ref ba), .val (.ref ga), .val (.int ww), .val (.int sa), .val (.int sb), .val (.int sc), .val (.int na), .val (.long (0 : Int64)), .second, .unset]) rfl k) ?_
    show Go p e below _ (s₁.setTop (mkF m 20 #[.val (.ref ba), .val (.ref ga), .val (.int ww), .val (.int sa), .val (.int sb), .val (.int sc), .val (.int na), .val (.long (0 : Int64)), .second, .unset] []))
    refine Go.by (fun t k => XS.iloadN X0.here hx rfl (hb hby d4_20) rfl k) ?_
    show Go p e below _ (s₁.setTop (mkF m 21 #[.val (.ref ba), .val (.ref ga), .val (.int ww), .val (.int sa), .val (.int sb), .val (.int sc), .val (.int na), .val (.long (0 : Int64)), .second, .unset] [(.int sa)]))
    refine Go.by (fun t k => XS.bipush X0.here hx rfl (hb hby d4_21) k) ?_
    show Go p e below _ (s₁.setTop (mkF m 23 #[.val (.ref ba), .val (.ref ga), .val (.int ww), .val (.int sa), .val (.int sb), .val (.int sc), .val (.int na), .val (.long (0 : Int64)), .second, .unset] [(.int (6 : Int32)), (.int sa)]))
    refine Go.by (fun t k => XS.iushr X0.here hx rfl (hb hby d4_23) rfl k) ?_
    show Go p e below _ (s₁.setTop (mkF m 24 #[.val (.ref ba), .val (.ref ga), .val (.int ww), .val (.int sa), .val (.int sb), .val (.int sc), .val (.int na), .val (.long (0 : Int64)), .second, .unset] [(.int ((sa.toUInt32 >>> ((6 : Int32) &&& 31).toUInt32).toInt32))]))
    refine Go.by (fun t k => XS.iloadN X0.here hx rfl (hb hby d4_24) rfl k) ?_
    show Go p e below _ (s₁.setTop (mkF m 25 #[.val (.ref ba), .val (.ref ga), .val (.int ww), .val (.int sa), .val (.int sb), .val (.int sc), .val (.int na), .val (.long (0 : Int64)), .second, .unset] [(.int ww), (.int ((sa.toUInt32 >>> ((6 : Int32) &&& 31).toUInt32).toInt32))]))
    by_cases hc5 : ((sa.toUInt32 >>> ((6 : Int32) &&& 31).toUInt32).toInt32) = ww
    · skip
      refine Go.by (fun t k => XS.icmpNo X0.here hx rfl (hb hby d4_25) rfl (teq hc5).2 k) ?_
      show Go p e below _ (s₁.setTop (mkF m 28 #[.val (.ref ba), .val (.ref ga), .val (.int ww), .val (.int sa), .val (.int sb), .val (.int sc), .val (.int na), .val (.long (0 : Int64)), .second, .unset] []))
      refine Go.by (fun t k => XS.lload X0.here hx rfl (hb hby d4_28) rfl k) ?_
      show Go p e below _ (s₁.setTop (mkF m 30 #[.val (.ref ba), .val (.ref ga), .val (.int ww), .val (.int sa), .val (.int sb), .val (.int sc), .val (.int na), .val (.long (0 : Int64)), .second, .unset] [(.long (0 : Int64))]))
      refine Go.by (fun t k => XS.lconst X0.here hx rfl (hb hby d4_30) k) ?_
      show Go p e below _ (s₁.setTop (mkF m 31 #[.val (.ref ba), .val (.ref ga), .val (.int ww), .val (.int sa), .val (.int sb), .val (.int sc), .val (.int na), .val (.long (0 : Int64)), .second, .unset] [(.long (1 : Int64)), (.long (0 : Int64))]))
      refine Go.by (fun t k => XS.iloadN X0.here hx rfl (hb hby d4_31) rfl k) ?_
      show Go p e below _ (s₁.setTop (mkF m 32 #[.val (.ref ba), .val (.ref ga), .val (.int ww), .val (.int sa), .val (.int sb), .val (.int sc), .val (.int na), .val (.long (0 : Int64)), .second, .unset] [(.int sa), (.long (1 : Int64)), (.long (0 : Int64))]))
      refine Go.by (fun t k => XS.lshl X0.here hx rfl (hb hby d4_32) rfl k) ?_
      show Go p e below _ (s₁.setTop (mkF m 33 #[.val (.ref ba), .val (.ref ga), .val (.int ww), .val (.int sa), .val (.int sb), .val (.int sc), .val (.int na), .val (.long (0 : Int64)), .second, .unset] [(.long ((1 : Int64) <<< (sa &&& 0x3f).toInt64)), (.long (0 : Int64))]))
      refine Go.by (fun t k => XS.lor X0.here hx rfl (hb hby d4_33) rfl k) ?_
      show Go p e below _ (s₁.setTop (mkF m 34 #[.val (.ref ba), .val (.ref ga), .val (.int ww), .val (.int sa), .val (.int sb), .val (.int sc), .val (.int na), .val (.long (0 : Int64)), .second, .unset] [(.long ((0 : Int64) ||| ((1 : Int64) <<< (sa &&& 0x3f).toInt64)))]))
      refine Go.by (fun t k => XS.lstore X0.here hx rfl (hb hby d4_34) rfl (l' := #[.val (.ref ba), .val (.ref ga), .val (.int ww), .val (.int sa), .val (.int sb), .val (.int sc), .val (.int na), .val (.long ((0 : Int64) ||| ((1 : Int64) <<< (sa &&& 0x3f).toInt64))), .second, .unset]) rfl k) ?_
      show Go p e below _ (s₁.setTop (mkF m 36 #[.val (.ref ba), .val (.ref ga), .val (.int ww), .val (.int sa), .val (.int sb), .val (.int sc), .val (.int na), .val (.long ((0 : Int64) ||| ((1 : Int64) <<< (sa &&& 0x3f).toInt64))), .second, .unset] []))
      refine Go.by (fun t k => XS.iload X0.here hx rfl (hb hby d4_36) rfl k) ?_
      show Go p e below _ (s₁.setTop (mkF m 38 #[.val (.ref ba), .val (.ref ga), .val (.int ww), .val (.int sa), .val (.int sb), .val (.int sc), .val (.int na), .val (.long ((0 : Int64) ||| ((1 : Int64) <<< (sa &&& 0x3f).toInt64))), .second, .unset] [(.int sb)]))
      refine Go.by (fun t k => XS.bipush X0.here hx rfl (hb hby d4_38) k) ?_
      show Go p e below _ (s₁.setTop (mkF m 40 #[.val (.ref ba), .val (.ref ga), .val (.int ww), .val (.int sa), .val (.int sb), .val (.int sc), .val (.int na), .val (.long ((0 : Int64) ||| ((1 : Int64) <<< (sa &&& 0x3f).toInt64))), .second, .unset] [(.int (6 : Int32)), (.int sb)]))
      refine Go.by (fun t k => XS.iushr X0.here hx rfl (hb hby d4_40) rfl k) ?_
      show Go p e below _ (s₁.setTop (mkF m 41 #[.val (.ref ba), .val (.ref ga), .val (.int ww), .val (.int sa), .val (.int sb), .val (.int sc), .val (.int na), .val (.long ((0 : Int64) ||| ((1 : Int64) <<< (sa &&& 0x3f).toInt64))), .second, .unset] [(.int ((sb.toUInt32 >>> ((6 : Int32) &&& 31).toUInt32).toInt32))]))
      refine Go.by (fun t k => XS.iloadN X0.here hx rfl (hb hby d4_41) rfl k) ?_
      show Go p e below _ (s₁.setTop (mkF m 42 #[.val (.ref ba), .val (.ref ga), .val (.int ww), .val (.int sa), .val (.int sb), .val (.int sc), .val (.int na), .val (.long ((0 : Int64) ||| ((1 : Int64) <<< (sa &&& 0x3f).toInt64))), .second, .unset] [(.int ww), (.int ((sb.toUInt32 >>> ((6 : Int32) &&& 31).toUInt32).toInt32))]))
      by_cases hc6 : ((sb.toUInt32 >>> ((6 : Int32) &&& 31).toUInt32).toInt32) = ww
      · skip
        refine Go.by (fun t k => XS.icmpNo X0.here hx rfl (hb hby d4_42) rfl (teq hc6).2 k) ?_
        show Go p e below _ (s₁.setTop (mkF m 45 #[.val (.ref ba), .val (.ref ga), .val (.int ww), .val (.int sa), .val (.int sb), .val (.int sc), .val (.int na), .val (.long ((0 : Int64) ||| ((1 : Int64) <<< (sa &&& 0x3f).toInt64))), .second, .unset] []))
        refine Go.by (fun t k => XS.lload X0.here hx rfl (hb hby d4_45) rfl k) ?_
        show Go p e below _ (s₁.setTop (mkF m 47 #[.val (.ref ba), .val (.ref ga), .val (.int ww), .val (.int sa), .val (.int sb), .val (.int sc), .val (.int na), .val (.long ((0 : Int64) ||| ((1 : Int64) <<< (sa &&& 0x3f).toInt64))), .second, .unset] [(.long ((0 : Int64) ||| ((1 : Int64) <<< (sa &&& 0x3f).toInt64)))]))
        refine Go.by (fun t k => XS.lconst X0.here hx rfl (hb hby d4_47) k) ?_
        show Go p e below _ (s₁.setTop (mkF m 48 #[.val (.ref ba), .val (.ref ga), .val (.int ww), .val (.int sa), .val (.int sb), .val (.int sc), .val (.int na), .val (.long ((0 : Int64) ||| ((1 : Int64) <<< (sa &&& 0x3f).toInt64))), .second, .unset] [(.long (1 : Int64)), (.long ((0 : Int64) ||| ((1 : Int64) <<< (sa &&& 0x3f).toInt64)))]))
        refine Go.by (fun t k => XS.iload X0.here hx rfl (hb hby d4_48) rfl k) ?_
        show Go p e below _ (s₁.setTop (mkF m 50 #[.val (.ref ba), .val (.ref ga), .val (.int ww), .val (.int sa), .val (.int sb), .val (.int sc), .val (.int na), .val (.long ((0 : Int64) ||| ((1 : Int64) <<< (sa &&& 0x3f).toInt64))), .second, .unset] [(.int sb), (.long (1 : Int64)), (.long ((0 : Int64) ||| ((1 : Int64) <<< (sa &&& 0x3f).toInt64)))]))
        refine Go.by (fun t k => XS.lshl X0.here hx rfl (hb hby d4_50) rfl k) ?_
        show Go p e below _ (s₁.setTop (mkF m 51 #[.val (.ref ba), .val (.ref ga), .val (.int ww), .val (.int sa), .val (.int sb), .val (.int sc), .val (.int na), .val (.long ((0 : Int64) ||| ((1 : Int64) <<< (sa &&& 0x3f).toInt64))), .second, .unset] [(.long ((1 : Int64) <<< (sb &&& 0x3f).toInt64)), (.long ((0 : Int64) ||| ((1 : Int64) <<< (sa &&& 0x3f).toInt64)))]))
        refine Go.by (fun t k => XS.lor X0.here hx rfl (hb hby d4_51) rfl k) ?_
        show Go p e below _ (s₁.setTop (mkF m 52 #[.val (.ref ba), .val (.ref ga), .val (.int ww), .val (.int sa), .val (.int sb), .val (.int sc), .val (.int na), .val (.long ((0 : Int64) ||| ((1 : Int64) <<< (sa &&& 0x3f).toInt64))), .second, .unset] [(.long (((0 : Int64) ||| ((1 : Int64) <<< (sa &&& 0x3f).toInt64)) ||| ((1 : Int64) <<< (sb &&& 0x3f).toInt64)))]))
        refine Go.by (fun t k => XS.lstore X0.here hx rfl (hb hby d4_52) rfl (l' := #[.val (.ref ba), .val (.ref ga), .val (.int ww), .val (.int sa), .val (.int sb), .val (.int sc), .val (.int na), .val (.long (((0 : Int64) ||| ((1 : Int64) <<< (sa &&& 0x3f).toInt64)) ||| ((1 : Int64) <<< (sb &&& 0x3f).toInt64))), .second, .unset]) rfl k) ?_
        show Go p e below _ (s₁.setTop (mkF m 54 #[.val (.ref ba), .val (.ref ga), .val (.int ww), .val (.int sa), .val (.int sb), .val (.int sc), .val (.int na), .val (.long (((0 : Int64) ||| ((1 : Int64) <<< (sa &&& 0x3f).toInt64)) ||| ((1 : Int64) <<< (sb &&& 0x3f).toInt64))), .second, .unset] []))
        refine Go.by (fun t k => XS.iload X0.here hx rfl (hb hby d4_54) rfl k) ?_
        show Go p e below _ (s₁.setTop (mkF m 56 #[.val (.ref ba), .val (.ref ga), .val (.int ww), .val (.int sa), .val (.int sb), .val (.int sc), .val (.int na), .val (.long (((0 : Int64) ||| ((1 : Int64) <<< (sa &&& 0x3f).toInt64)) ||| ((1 : Int64) <<< (sb &&& 0x3f).toInt64))), .second, .unset] [(.int sc)]))
        refine Go.by (fun t k => XS.bipush X0.here hx rfl (hb hby d4_56) k) ?_
        show Go p e below _ (s₁.setTop (mkF m 58 #[.val (.ref ba), .val (.ref ga), .val (.int ww), .val (.int sa), .val (.int sb), .val (.int sc), .val (.int na), .val (.long (((0 : Int64) ||| ((1 : Int64) <<< (sa &&& 0x3f).toInt64)) ||| ((1 : Int64) <<< (sb &&& 0x3f).toInt64))), .second, .unset] [(.int (6 : Int32)), (.int sc)]))
        refine Go.by (fun t k => XS.iushr X0.here hx rfl (hb hby d4_58) rfl k) ?_
        show Go p e below _ (s₁.setTop (mkF m 59 #[.val (.ref ba), .val (.ref ga), .val (.int ww), .val (.int sa), .val (.int sb), .val (.int sc), .val (.int na), .val (.long (((0 : Int64) ||| ((1 : Int64) <<< (sa &&& 0x3f).toInt64)) ||| ((1 : Int64) <<< (sb &&& 0x3f).toInt64))), .second, .unset] [(.int ((sc.toUInt32 >>> ((6 : Int32) &&& 31).toUInt32).toInt32))]))
        refine Go.by (fun t k => XS.iloadN X0.here hx rfl (hb hby d4_59) rfl k) ?_
        show Go p e below _ (s₁.setTop (mkF m 60 #[.val (.ref ba), .val (.ref ga), .val (.int ww), .val (.int sa), .val (.int sb), .val (.int sc), .val (.int na), .val (.long (((0 : Int64) ||| ((1 : Int64) <<< (sa &&& 0x3f).toInt64)) ||| ((1 : Int64) <<< (sb &&& 0x3f).toInt64))), .second, .unset] [(.int ww), (.int ((sc.toUInt32 >>> ((6 : Int32) &&& 31).toUInt32).toInt32))]))
        by_cases hc7 : ((sc.toUInt32 >>> ((6 : Int32) &&& 31).toUInt32).toInt32) = ww
        · skip
          refine Go.by (fun t k => XS.icmpNo X0.here hx rfl (hb hby d4_60) rfl (teq hc7).2 k) ?_
          show Go p e below _ (s₁.setTop (mkF m 63 #[.val (.ref ba), .val (.ref ga), .val (.int ww), .val (.int sa), .val (.int sb), .val (.int sc), .val (.int na), .val (.long (((0 : Int64) ||| ((1 : Int64) <<< (sa &&& 0x3f).toInt64)) ||| ((1 : Int64) <<< (sb &&& 0x3f).toInt64))), .second, .unset] []))
          refine Go.by (fun t k => XS.lload X0.here hx rfl (hb hby d4_63) rfl k) ?_
          show Go p e below _ (s₁.setTop (mkF m 65 #[.val (.ref ba), .val (.ref ga), .val (.int ww), .val (.int sa), .val (.int sb), .val (.int sc), .val (.int na), .val (.long (((0 : Int64) ||| ((1 : Int64) <<< (sa &&& 0x3f).toInt64)) ||| ((1 : Int64) <<< (sb &&& 0x3f).toInt64))), .second, .unset] [(.long (((0 : Int64) ||| ((1 : Int64) <<< (sa &&& 0x3f).toInt64)) ||| ((1 : Int64) <<< (sb &&& 0x3f).toInt64)))]))
          refine Go.by (fun t k => XS.lconst X0.here hx rfl (hb hby d4_65) k) ?_
          show Go p e below _ (s₁.setTop (mkF m 66 #[.val (.ref ba), .val (.ref ga), .val (.int ww), .val (.int sa), .val (.int sb), .val (.int sc), .val (.int na), .val (.long (((0 : Int64) ||| ((1 : Int64) <<< (sa &&& 0x3f).toInt64)) ||| ((1 : Int64) <<< (sb &&& 0x3f).toInt64))), .second, .unset] [(.long (1 : Int64)), (.long (((0 : Int64) ||| ((1 : Int64) <<< (sa &&& 0x3f).toInt64)) ||| ((1 : Int64) <<< (sb &&& 0x3f).toInt64)))]))
          refine Go.by (fun t k => XS.iload X0.here hx rfl (hb hby d4_66) rfl k) ?_
          show Go p e below _ (s₁.setTop (mkF m 68 #[.val (.ref ba), .val (.ref ga), .val (.int ww), .val (.int sa), .val (.int sb), .val (.int sc), .val (.int na), .val (.long (((0 : Int64) ||| ((1 : Int64) <<< (sa &&& 0x3f).toInt64)) ||| ((1 : Int64) <<< (sb &&& 0x3f).toInt64))), .second, .unset] [(.int sc), (.long (1 : Int64)), (.long (((0 : Int64) ||| ((1 : Int64) <<< (sa &&& 0x3f).toInt64)) ||| ((1 : Int64) <<< (sb &&& 0x3f).toInt64)))]))
          refine Go.by (fun t k => XS.lshl X0.here hx rfl (hb hby d4_68) rfl k) ?_
          show Go p e below _ (s₁.setTop (mkF m 69 #[.val (.ref ba), .val (.ref ga), .val (.int ww), .val (.int sa), .val (.int sb), .val (.int sc), .val (.int na), .val (.long (((0 : Int64) ||| ((1 : Int64) <<< (sa &&& 0x3f).toInt64)) ||| ((1 : Int64) <<< (sb &&& 0x3f).toInt64))), .second, .unset] [(.long ((1 : Int64) <<< (sc &&& 0x3f).toInt64)), (.long (((0 : Int64) ||| ((1 : Int64) <<< (sa &&& 0x3f).toInt64)) ||| ((1 : Int64) <<< (sb &&& 0x3f).toInt64)))]))
          refine Go.by (fun t k => XS.lor X0.here hx rfl (hb hby d4_69) rfl k) ?_
          show Go p e below _ (s₁.setTop (mkF m 70 #[.val (.ref ba), .val (.ref ga), .val (.int ww), .val (.int sa), .val (.int sb), .val (.int sc), .val (.int na), .val (.long (((0 : Int64) ||| ((1 : Int64) <<< (sa &&& 0x3f).toInt64)) ||| ((1 : Int64) <<< (sb &&& 0x3f).toInt64))), .second, .unset] [(.long ((((0 : Int64) ||| ((1 : Int64) <<< (sa &&& 0x3f).toInt64)) ||| ((1 : Int64) <<< (sb &&& 0x3f).toInt64)) ||| ((1 : Int64) <<< (sc &&& 0x3f).toInt64)))]))
          refine Go.by (fun t k => XS.lstore X0.here hx rfl (hb hby d4_70) rfl (l' := #[.val (.ref ba), .val (.ref ga), .val (.int ww), .val (.int sa), .val (.int sb), .val (.int sc), .val (.int na), .val (.long ((((0 : Int64) ||| ((1 : Int64) <<< (sa &&& 0x3f).toInt64)) ||| ((1 : Int64) <<< (sb &&& 0x3f).toInt64)) ||| ((1 : Int64) <<< (sc &&& 0x3f).toInt64))), .second, .unset]) rfl k) ?_
          show Go p e below _ (s₁.setTop (mkF m 72 #[.val (.ref ba), .val (.ref ga), .val (.int ww), .val (.int sa), .val (.int sb), .val (.int sc), .val (.int na), .val (.long ((((0 : Int64) ||| ((1 : Int64) <<< (sa &&& 0x3f).toInt64)) ||| ((1 : Int64) <<< (sb &&& 0x3f).toInt64)) ||| ((1 : Int64) <<< (sc &&& 0x3f).toInt64))), .second, .unset] []))
          refine Go.by (fun t k => XS.iloadN X0.here hx rfl (hb hby d4_72) rfl k) ?_
          show Go p e below _ (s₁.setTop (mkF m 73 #[.val (.ref ba), .val (.ref ga), .val (.int ww), .val (.int sa), .val (.int sb), .val (.int sc), .val (.int na), .val (.long ((((0 : Int64) ||| ((1 : Int64) <<< (sa &&& 0x3f).toInt64)) ||| ((1 : Int64) <<< (sb &&& 0x3f).toInt64)) ||| ((1 : Int64) <<< (sc &&& 0x3f).toInt64))), .second, .unset] [(.int sa)]))
          refine Go.by (fun t k => XS.bipush X0.here hx rfl (hb hby d4_73) k) ?_
          show Go p e below _ (s₁.setTop (mkF m 75 #[.val (.ref ba), .val (.ref ga), .val (.int ww), .val (.int sa), .val (.int sb), .val (.int sc), .val (.int na), .val (.long ((((0 : Int64) ||| ((1 : Int64) <<< (sa &&& 0x3f).toInt64)) ||| ((1 : Int64) <<< (sb &&& 0x3f).toInt64)) ||| ((1 : Int64) <<< (sc &&& 0x3f).toInt64))), .second, .unset] [(.int (6 : Int32)), (.int sa)]))
          refine Go.by (fun t k => XS.iushr X0.here hx rfl (hb hby d4_75) rfl k) ?_
          show Go p e below _ (s₁.setTop (mkF m 76 #[.val (.ref ba), .val (.ref ga), .val (.int ww), .val (.int sa), .val (.int sb), .val (.int sc), .val (.int na), .val (.long ((((0 : Int64) ||| ((1 : Int64) <<< (sa &&& 0x3f).toInt64)) ||| ((1 : Int64) <<< (sb &&& 0x3f).toInt64)) ||| ((1 : Int64) <<< (sc &&& 0x3f).toInt64))), .second, .unset] [(.int ((sa.toUInt32 >>> ((6 : Int32) &&& 31).toUInt32).toInt32))]))
          refine Go.by (fun t k => XS.iloadN X0.here hx rfl (hb hby d4_76) rfl k) ?_
          show Go p e below _ (s₁.setTop (mkF m 77 #[.val (.ref ba), .val (.ref ga), .val (.int ww), .val (.int sa), .val (.int sb), .val (.int sc), .val (.int na), .val (.long ((((0 : Int64) ||| ((1 : Int64) <<< (sa &&& 0x3f).toInt64)) ||| ((1 : Int64) <<< (sb &&& 0x3f).toInt64)) ||| ((1 : Int64) <<< (sc &&& 0x3f).toInt64))), .second, .unset] [(.int ww), (.int ((sa.toUInt32 >>> ((6 : Int32) &&& 31).toUInt32).toInt32))]))
          refine Go.by (fun t k => XS.icmpNo X0.here hx rfl (hb hby d4_77) rfl (teq hc5).2 k) ?_
          show Go p e below _ (s₁.setTop (mkF m 80 #[.val (.ref ba), .val (.ref ga), .val (.int ww), .val (.int sa), .val (.int sb), .val (.int sc), .val (.int na), .val (.long ((((0 : Int64) ||| ((1 : Int64) <<< (sa &&& 0x3f).toInt64)) ||| ((1 : Int64) <<< (sb &&& 0x3f).toInt64)) ||| ((1 : Int64) <<< (sc &&& 0x3f).toInt64))), .second, .unset] []))
          refine Go.by (fun t k => XS.iload X0.here hx rfl (hb hby d4_80) rfl k) ?_
          show Go p e below _ (s₁.setTop (mkF m 82 #[.val (.ref ba), .val (.ref ga), .val (.int ww), .val (.int sa), .val (.int sb), .val (.int sc), .val (.int na), .val (.long ((((0 : Int64) ||| ((1 : Int64) <<< (sa &&& 0x3f).toInt64)) ||| ((1 : Int64) <<< (sb &&& 0x3f).toInt64)) ||| ((1 : Int64) <<< (sc &&& 0x3f).toInt64))), .second, .unset] [(.int na)]))
          refine Go.by (fun t k => XS.istore X0.here hx rfl (hb hby d4_82) rfl (l' := #[.val (.ref ba), .val (.ref ga), .val (.int ww), .val (.int sa), .val (.int sb), .val (.int sc), .val (.int na), .val (.long ((((0 : Int64) ||| ((1 : Int64) <<< (sa &&& 0x3f).toInt64)) ||| ((1 : Int64) <<< (sb &&& 0x3f).toInt64)) ||| ((1 : Int64) <<< (sc &&& 0x3f).toInt64))), .second, .val (.int na)]) rfl k) ?_
          show Go p e below _ (s₁.setTop (mkF m 84 #[.val (.ref ba), .val (.ref ga), .val (.int ww), .val (.int sa), .val (.int sb), .val (.int sc), .val (.int na), .val (.long ((((0 : Int64) ||| ((1 : Int64) <<< (sa &&& 0x3f).toInt64)) ||| ((1 : Int64) <<< (sb &&& 0x3f).toInt64)) ||| ((1 : Int64) <<< (sc &&& 0x3f).toInt64))), .second, .val (.int na)] []))
          refine Go.by (fun t k => XS.goto X0.here hx rfl (pc0 := 84) (pc' := 126) rfl (hb hby d4_84) (by decide) (by decide) k) ?_
          show Go p e below _ (s₁.setTop (mkF m 126 #[.val (.ref ba), .val (.ref ga), .val (.int ww), .val (.int sa), .val (.int sb), .val (.int sc), .val (.int na), .val (.long ((((0 : Int64) ||| ((1 : Int64) <<< (sa &&& 0x3f).toInt64)) ||| ((1 : Int64) <<< (sb &&& 0x3f).toInt64)) ||| ((1 : Int64) <<< (sc &&& 0x3f).toInt64))), .second, .val (.int na)] []))
          refine Go.by (fun t k => XS.aloadN X0.here hx rfl (hb hby d4_126) rfl rfl k) ?_
          show Go p e below _ (s₁.setTop (mkF m 127 #[.val (.ref ba), .val (.ref ga), .val (.int ww), .val (.int sa), .val (.int sb), .val (.int sc), .val (.int na), .val (.long ((((0 : Int64) ||| ((1 : Int64) <<< (sa &&& 0x3f).toInt64)) ||| ((1 : Int64) <<< (sb &&& 0x3f).toInt64)) ||| ((1 : Int64) <<< (sc &&& 0x3f).toInt64))), .second, .val (.int na)] [(.ref ba)]))
          refine Go.by (fun t k => XS.iloadN X0.here hx rfl (hb hby d4_127) rfl k) ?_
          show Go p e below _ (s₁.setTop (mkF m 128 #[.val (.ref ba), .val (.ref ga), .val (.int ww), .val (.int sa), .val (.int sb), .val (.int sc), .val (.int na), .val (.long ((((0 : Int64) ||| ((1 : Int64) <<< (sa &&& 0x3f).toInt64)) ||| ((1 : Int64) <<< (sb &&& 0x3f).toInt64)) ||| ((1 : Int64) <<< (sc &&& 0x3f).toInt64))), .second, .val (.int na)] [(.int ww), (.ref ba)]))
          obtain ⟨_, vs8, ⟨cl8, Ar8, qk8, sz8, nn8, Ha8, Gf8⟩, ln8, fn8⟩ := id P0
          have hin9 : ¬ (ww < 0 ∨ cl8.slots.size ≤ (ww).toNatClampNeg) := inb_of sz8 ⟨hw0, hc2⟩
          have hat10 : cl8.slots[(ww).toNatClampNeg]? = some (.long (fu (ww).toNatClampNeg)) := Has.at Ha8 hin9 (fn8 _ (by have q := hin9; have := sz8; omega))
          refine Go.by (fun t k => X0.laload hx (j := ww) (v := (.long (fu (ww).toNatClampNeg))) (by rw [e0]; exact Ar8.1) (State.isArrayOf_alike hZ.alike Ar8.2.1) Ar8.2.2 hin9 hat10 (g := (mkF m 128 #[.val (.ref ba), .val (.ref ga), .val (.int ww), .val (.int sa), .val (.int sb), .val (.int sc), .val (.int na), .val (.long ((((0 : Int64) ||| ((1 : Int64) <<< (sa &&& 0x3f).toInt64)) ||| ((1 : Int64) <<< (sb &&& 0x3f).toInt64)) ||| ((1 : Int64) <<< (sc &&& 0x3f).toInt64))), .second, .val (.int na)] [(.int ww), (.ref ba)])) rfl rfl (hb hby d4_128) t k) ?_
          show Go p e below _ (s₁.setTop (mkF m 129 #[.val (.ref ba), .val (.ref ga), .val (.int ww), .val (.int sa), .val (.int sb), .val (.int sc), .val (.int na), .val (.long ((((0 : Int64) ||| ((1 : Int64) <<< (sa &&& 0x3f).toInt64)) ||| ((1 : Int64) <<< (sb &&& 0x3f).toInt64)) ||| ((1 : Int64) <<< (sc &&& 0x3f).toInt64))), .second, .val (.int na)] [(.long (fu (ww).toNatClampNeg))]))
          refine Go.by (fun t k => XS.lload X0.here hx rfl (hb hby d4_129) rfl k) ?_
          show Go p e below _ (s₁.setTop (mkF m 131 #[.val (.ref ba), .val (.ref ga), .val (.int ww), .val (.int sa), .val (.int sb), .val (.int sc), .val (.int na), .val (.long ((((0 : Int64) ||| ((1 : Int64) <<< (sa &&& 0x3f).toInt64)) ||| ((1 : Int64) <<< (sb &&& 0x3f).toInt64)) ||| ((1 : Int64) <<< (sc &&& 0x3f).toInt64))), .second, .val (.int na)] [(.long ((((0 : Int64) ||| ((1 : Int64) <<< (sa &&& 0x3f).toInt64)) ||| ((1 : Int64) <<< (sb &&& 0x3f).toInt64)) ||| ((1 : Int64) <<< (sc &&& 0x3f).toInt64))), (.long (fu (ww).toNatClampNeg))]))
          refine Go.by (fun t k => XS.lcmp X0.here hx rfl (hb hby d4_131) rfl k) ?_
          show Go p e below _ (s₁.setTop (mkF m 132 #[.val (.ref ba), .val (.ref ga), .val (.int ww), .val (.int sa), .val (.int sb), .val (.int sc), .val (.int na), .val (.long ((((0 : Int64) ||| ((1 : Int64) <<< (sa &&& 0x3f).toInt64)) ||| ((1 : Int64) <<< (sb &&& 0x3f).toInt64)) ||| ((1 : Int64) <<< (sc &&& 0x3f).toInt64))), .second, .val (.int na)] [(.int (lcmpW (fu (ww).toNatClampNeg) ((((0 : Int64) ||| ((1 : Int64) <<< (sa &&& 0x3f).toInt64)) ||| ((1 : Int64) <<< (sb &&& 0x3f).toInt64)) ||| ((1 : Int64) <<< (sc &&& 0x3f).toInt64))))]))
          refine Go.by (fun t k => XS.ifNo X0.here hx rfl (hb hby d4_132) rfl ((if0 _ _).trans (teq ((lw_eq (fu (ww).toNatClampNeg) ((((0 : Int64) ||| ((1 : Int64) <<< (sa &&& 0x3f).toInt64)) ||| ((1 : Int64) <<< (sb &&& 0x3f).toInt64)) ||| ((1 : Int64) <<< (sc &&& 0x3f).toInt64))).mpr (by rw [hB hc2]; simp only [own_expB, if_pos (show own_w sa = ww from hc5), if_pos (show own_w sb = ww from hc6), if_pos (show own_w sc = ww from hc7)] <;> rfl))).2) k) ?_
          show Go p e below _ (s₁.setTop (mkF m 135 #[.val (.ref ba), .val (.ref ga), .val (.int ww), .val (.int sa), .val (.int sb), .val (.int sc), .val (.int na), .val (.long ((((0 : Int64) ||| ((1 : Int64) <<< (sa &&& 0x3f).toInt64)) ||| ((1 : Int64) <<< (sb &&& 0x3f).toInt64)) ||| ((1 : Int64) <<< (sc &&& 0x3f).toInt64))), .second, .val (.int na)] []))
          refine Go.by (fun t k => XS.aloadN X0.here hx rfl (hb hby d4_135) rfl rfl k) ?_
          show Go p e below _ (s₁.setTop (mkF m 136 #[.val (.ref ba), .val (.ref ga), .val (.int ww), .val (.int sa), .val (.int sb), .val (.int sc), .val (.int na), .val (.long ((((0 : Int64) ||| ((1 : Int64) <<< (sa &&& 0x3f).toInt64)) ||| ((1 : Int64) <<< (sb &&& 0x3f).toInt64)) ||| ((1 : Int64) <<< (sc &&& 0x3f).toInt64))), .second, .val (.int na)] [(.ref ga)]))
          refine Go.by (fun t k => XS.iloadN X0.here hx rfl (hb hby d4_136) rfl k) ?_
          show Go p e below _ (s₁.setTop (mkF m 137 #[.val (.ref ba), .val (.ref ga), .val (.int ww), .val (.int sa), .val (.int sb), .val (.int sc), .val (.int na), .val (.long ((((0 : Int64) ||| ((1 : Int64) <<< (sa &&& 0x3f).toInt64)) ||| ((1 : Int64) <<< (sb &&& 0x3f).toInt64)) ||| ((1 : Int64) <<< (sc &&& 0x3f).toInt64))), .second, .val (.int na)] [(.int ww), (.ref ga)]))
          obtain ⟨_, vs11, ⟨cl11, Ar11, qk11, sz11, nn11, Ha11, Gf11⟩, ln11, fn11⟩ := id P1
          have hin12 : ¬ (ww < 0 ∨ cl11.slots.size ≤ (ww).toNatClampNeg) := inb_of sz11 ⟨hw0, hc2⟩
          have hat13 : cl11.slots[(ww).toNatClampNeg]? = some (.int (gu (ww).toNatClampNeg)) := Has.at Ha11 hin12 (fn11 _ (by have q := hin12; have := sz11; omega))
          refine Go.by (fun t k => X0.iaload hx (j := ww) (v := (.int (gu (ww).toNatClampNeg))) (by rw [e0]; exact Ar11.1) (State.isArrayOf_alike hZ.alike Ar11.2.1) Ar11.2.2 hin12 hat13 (g := (mkF m 137 #[.val (.ref ba), .val (.ref ga), .val (.int ww), .val (.int sa), .val (.int sb), .val (.int sc), .val (.int na), .val (.long ((((0 : Int64) ||| ((1 : Int64) <<< (sa &&& 0x3f).toInt64)) ||| ((1 : Int64) <<< (sb &&& 0x3f).toInt64)) ||| ((1 : Int64) <<< (sc &&& 0x3f).toInt64))), .second, .val (.int na)] [(.int ww), (.ref ga)])) rfl rfl (hb hby d4_137) t k) ?_
          show Go p e below _ (s₁.setTop (mkF m 138 #[.val (.ref ba), .val (.ref ga), .val (.int ww), .val (.int sa), .val (.int sb), .val (.int sc), .val (.int na), .val (.long ((((0 : Int64) ||| ((1 : Int64) <<< (sa &&& 0x3f).toInt64)) ||| ((1 : Int64) <<< (sb &&& 0x3f).toInt64)) ||| ((1 : Int64) <<< (sc &&& 0x3f).toInt64))), .second, .val (.int na)] [(.int (gu (ww).toNatClampNeg))]))
          refine Go.by (fun t k => XS.iload X0.here hx rfl (hb hby d4_138) rfl k) ?_
          show Go p e below _ (s₁.setTop (mkF m 140 #[.val (.ref ba), .val (.ref ga), .val (.int ww), .val (.int sa), .val (.int sb), .val (.int sc), .val (.int na), .val (.long ((((0 : Int64) ||| ((1 : Int64) <<< (sa &&& 0x3f).toInt64)) ||| ((1 : Int64) <<< (sb &&& 0x3f).toInt64)) ||| ((1 : Int64) <<< (sc &&& 0x3f).toInt64))), .second, .val (.int na)] [(.int na), (.int (gu (ww).toNatClampNeg))]))
          refine Go.by (fun t k => XS.icmpNo X0.here hx rfl (hb hby d4_140) rfl (teq (by rw [hF hc2]; simp only [own_expF, if_pos (show own_w sa = ww from hc5), if_pos (show own_w sb = ww from hc6), if_pos (show own_w sc = ww from hc7)] <;> rfl)).2 k) ?_
          show Go p e below _ (s₁.setTop (mkF m 143 #[.val (.ref ba), .val (.ref ga), .val (.int ww), .val (.int sa), .val (.int sb), .val (.int sc), .val (.int na), .val (.long ((((0 : Int64) ||| ((1 : Int64) <<< (sa &&& 0x3f).toInt64)) ||| ((1 : Int64) <<< (sb &&& 0x3f).toInt64)) ||| ((1 : Int64) <<< (sc &&& 0x3f).toInt64))), .second, .val (.int na)] []))
          refine Go.by (fun t k => XS.iconst X0.here hx rfl (hb hby d4_143) k) ?_
          show Go p e below _ (s₁.setTop (mkF m 144 #[.val (.ref ba), .val (.ref ga), .val (.int ww), .val (.int sa), .val (.int sb), .val (.int sc), .val (.int na), .val (.long ((((0 : Int64) ||| ((1 : Int64) <<< (sa &&& 0x3f).toInt64)) ||| ((1 : Int64) <<< (sb &&& 0x3f).toInt64)) ||| ((1 : Int64) <<< (sc &&& 0x3f).toInt64))), .second, .val (.int na)] [(.int (1 : Int32))]))
          refine Go.by (fun t k => XS.goto X0.here hx rfl (pc0 := 144) (pc' := 148) rfl (hb hby d4_144) (by decide) (by decide) k) ?_
          show Go p e below _ (s₁.setTop (mkF m 148 #[.val (.ref ba), .val (.ref ga), .val (.int ww), .val (.int sa), .val (.int sb), .val (.int sc), .val (.int na), .val (.long ((((0 : Int64) ||| ((1 : Int64) <<< (sa &&& 0x3f).toInt64)) ||| ((1 : Int64) <<< (sb &&& 0x3f).toInt64)) ||| ((1 : Int64) <<< (sc &&& 0x3f).toInt64))), .second, .val (.int na)] [(.int (1 : Int32))]))
          have hq : Q_wordOk Z ba ga ww sa sb sc na zz fu gu h0 n0 (some (.int (nar .boolean (1 : Int32)))) h0 _ := ⟨rfl, N0, rfl⟩
          exact Go.retN X0 hx (t := .boolean) Bd.returns (by simp) hlk (hb hby d4_148) (by decide) (by decide) (by rw [e0]; exact hq)
        · skip
          refine Go.by (fun t k => XS.icmpYes X0.here hx rfl (pc0 := 60) (pc' := 72) rfl (hb hby d4_60) rfl (feq hc7).2 (by decide) (by decide) k) ?_
          show Go p e below _ (s₁.setTop (mkF m 72 #[.val (.ref ba), .val (.ref ga), .val (.int ww), .val (.int sa), .val (.int sb), .val (.int sc), .val (.int na), .val (.long (((0 : Int64) ||| ((1 : Int64) <<< (sa &&& 0x3f).toInt64)) ||| ((1 : Int64) <<< (sb &&& 0x3f).toInt64))), .second, .unset] []))
          refine Go.by (fun t k => XS.iloadN X0.here hx rfl (hb hby d4_72) rfl k) ?_
          show Go p e below _ (s₁.setTop (mkF m 73 #[.val (.ref ba), .val (.ref ga), .val (.int ww), .val (.int sa), .val (.int sb), .val (.int sc), .val (.int na), .val (.long (((0 : Int64) ||| ((1 : Int64) <<< (sa &&& 0x3f).toInt64)) ||| ((1 : Int64) <<< (sb &&& 0x3f).toInt64))), .second, .unset] [(.int sa)]))
          refine Go.by (fun t k => XS.bipush X0.here hx rfl (hb hby d4_73) k) ?_
          show Go p e below _ (s₁.setTop (mkF m 75 #[.val (.ref ba), .val (.ref ga), .val (.int ww), .val (.int sa), .val (.int sb), .val (.int sc), .val (.int na), .val (.long (((0 : Int64) ||| ((1 : Int64) <<< (sa &&& 0x3f).toInt64)) ||| ((1 : Int64) <<< (sb &&& 0x3f).toInt64))), .second, .unset] [(.int (6 : Int32)), (.int sa)]))
          refine Go.by (fun t k => XS.iushr X0.here hx rfl (hb hby d4_75) rfl k) ?_
          show Go p e below _ (s₁.setTop (mkF m 76 #[.val (.ref ba), .val (.ref ga), .val (.int ww), .val (.int sa), .val (.int sb), .val (.int sc), .val (.int na), .val (.long (((0 : Int64) ||| ((1 : Int64) <<< (sa &&& 0x3f).toInt64)) ||| ((1 : Int64) <<< (sb &&& 0x3f).toInt64))), .second, .unset] [(.int ((sa.toUInt32 >>> ((6 : Int32) &&& 31).toUInt32).toInt32))]))
          refine Go.by (fun t k => XS.iloadN X0.here hx rfl (hb hby d4_76) rfl k) ?_
          show Go p e below _ (s₁.setTop (mkF m 77 #[.val (.ref ba), .val (.ref ga), .val (.int ww), .val (.int sa), .val (.int sb), .val (.int sc), .val (.int na), .val (.long (((0 : Int64) ||| ((1 : Int64) <<< (sa &&& 0x3f).toInt64)) ||| ((1 : Int64) <<< (sb &&& 0x3f).toInt64))), .second, .unset] [(.int ww), (.int ((sa.toUInt32 >>> ((6 : Int32) &&& 31).toUInt32).toInt32))]))
          refine Go.by (fun t k => XS.icmpNo X0.here hx rfl (hb hby d4_77) rfl (teq hc5).2 k) ?_
          show Go p e below _ (s₁.setTop (mkF m 80 #[.val (.ref ba), .val (.ref ga), .val (.int ww), .val (.int sa), .val (.int sb), .val (.int sc), .val (.int na), .val (.long (((0 : Int64) ||| ((1 : Int64) <<< (sa &&& 0x3f).toInt64)) ||| ((1 : Int64) <<< (sb &&& 0x3f).toInt64))), .second, .unset] []))
          refine Go.by (fun t k => XS.iload X0.here hx rfl (hb hby d4_80) rfl k) ?_
          show Go p e below _ (s₁.setTop (mkF m 82 #[.val (.ref ba), .val (.ref ga), .val (.int ww), .val (.int sa), .val (.int sb), .val (.int sc), .val (.int na), .val (.long (((0 : Int64) ||| ((1 : Int64) <<< (sa &&& 0x3f).toInt64)) ||| ((1 : Int64) <<< (sb &&& 0x3f).toInt64))), .second, .unset] [(.int na)]))
          refine Go.by (fun t k => XS.istore X0.here hx rfl (hb hby d4_82) rfl (l' := #[.val (.ref ba), .val (.ref ga), .val (.int ww), .val (.int sa), .val (.int sb), .val (.int sc), .val (.int na), .val (.long (((0 : Int64) ||| ((1 : Int64) <<< (sa &&& 0x3f).toInt64)) ||| ((1 : Int64) <<< (sb &&& 0x3f).toInt64))), .second, .val (.int na)]) rfl k) ?_
          show Go p e below _ (s₁.setTop (mkF m 84 #[.val (.ref ba), .val (.ref ga), .val (.int ww), .val (.int sa), .val (.int sb), .val (.int sc), .val (.int na), .val (.long (((0 : Int64) ||| ((1 : Int64) <<< (sa &&& 0x3f).toInt64)) ||| ((1 : Int64) <<< (sb &&& 0x3f).toInt64))), .second, .val (.int na)] []))
          refine Go.by (fun t k => XS.goto X0.here hx rfl (pc0 := 84) (pc' := 126) rfl (hb hby d4_84) (by decide) (by decide) k) ?_
          show Go p e below _ (s₁.setTop (mkF m 126 #[.val (.ref ba), .val (.ref ga), .val (.int ww), .val (.int sa), .val (.int sb), .val (.int sc), .val (.int na), .val (.long (((0 : Int64) ||| ((1 : Int64) <<< (sa &&& 0x3f).toInt64)) ||| ((1 : Int64) <<< (sb &&& 0x3f).toInt64))), .second, .val (.int na)] []))
          refine Go.by (fun t k => XS.aloadN X0.here hx rfl (hb hby d4_126) rfl rfl k) ?_
          show Go p e below _ (s₁.setTop (mkF m 127 #[.val (.ref ba), .val (.ref ga), .val (.int ww), .val (.int sa), .val (.int sb), .val (.int sc), .val (.int na), .val (.long (((0 : Int64) ||| ((1 : Int64) <<< (sa &&& 0x3f).toInt64)) ||| ((1 : Int64) <<< (sb &&& 0x3f).toInt64))), .second, .val (.int na)] [(.ref ba)]))
          refine Go.by (fun t k => XS.iloadN X0.here hx rfl (hb hby d4_127) rfl k) ?_
          show Go p e below _ (s₁.setTop (mkF m 128 #[.val (.ref ba), .val (.ref ga), .val (.int ww), .val (.int sa), .val (.int sb), .val (.int sc), .val (.int na), .val (.long (((0 : Int64) ||| ((1 : Int64) <<< (sa &&& 0x3f).toInt64)) ||| ((1 : Int64) <<< (sb &&& 0x3f).toInt64))), .second, .val (.int na)] [(.int ww), (.ref ba)]))
          obtain ⟨_, vs14, ⟨cl14, Ar14, qk14, sz14, nn14, Ha14, Gf14⟩, ln14, fn14⟩ := id P0
          have hin15 : ¬ (ww < 0 ∨ cl14.slots.size ≤ (ww).toNatClampNeg) := inb_of sz14 ⟨hw0, hc2⟩
          have hat16 : cl14.slots[(ww).toNatClampNeg]? = some (.long (fu (ww).toNatClampNeg)) := Has.at Ha14 hin15 (fn14 _ (by have q := hin15; have := sz14; omega))
          refine Go.by (fun t k => X0.laload hx (j := ww) (v := (.long (fu (ww).toNatClampNeg))) (by rw [e0]; exact Ar14.1) (State.isArrayOf_alike hZ.alike Ar14.2.1) Ar14.2.2 hin15 hat16 (g := (mkF m 128 #[.val (.ref ba), .val (.ref ga), .val (.int ww), .val (.int sa), .val (.int sb), .val (.int sc), .val (.int na), .val (.long (((0 : Int64) ||| ((1 : Int64) <<< (sa &&& 0x3f).toInt64)) ||| ((1 : Int64) <<< (sb &&& 0x3f).toInt64))), .second, .val (.int na)] [(.int ww), (.ref ba)])) rfl rfl (hb hby d4_128) t k) ?_
          show Go p e below _ (s₁.setTop (mkF m 129 #[.val (.ref ba), .val (.ref ga), .val (.int ww), .val (.int sa), .val (.int sb), .val (.int sc), .val (.int na), .val (.long (((0 : Int64) ||| ((1 : Int64) <<< (sa &&& 0x3f).toInt64)) ||| ((1 : Int64) <<< (sb &&& 0x3f).toInt64))), .second, .val (.int na)] [(.long (fu (ww).toNatClampNeg))]))
          refine Go.by (fun t k => XS.lload X0.here hx rfl (hb hby d4_129) rfl k) ?_
          show Go p e below _ (s₁.setTop (mkF m 131 #[.val (.ref ba), .val (.ref ga), .val (.int ww), .val (.int sa), .val (.int sb), .val (.int sc), .val (.int na), .val (.long (((0 : Int64) ||| ((1 : Int64) <<< (sa &&& 0x3f).toInt64)) ||| ((1 : Int64) <<< (sb &&& 0x3f).toInt64))), .second, .val (.int na)] [(.long (((0 : Int64) ||| ((1 : Int64) <<< (sa &&& 0x3f).toInt64)) ||| ((1 : Int64) <<< (sb &&& 0x3f).toInt64))), (.long (fu (ww).toNatClampNeg))]))
          refine Go.by (fun t k => XS.lcmp X0.here hx rfl (hb hby d4_131) rfl k) ?_
          show Go p e below _ (s₁.setTop (mkF m 132 #[.val (.ref ba), .val (.ref ga), .val (.int ww), .val (.int sa), .val (.int sb), .val (.int sc), .val (.int na), .val (.long (((0 : Int64) ||| ((1 : Int64) <<< (sa &&& 0x3f).toInt64)) ||| ((1 : Int64) <<< (sb &&& 0x3f).toInt64))), .second, .val (.int na)] [(.int (lcmpW (fu (ww).toNatClampNeg) (((0 : Int64) ||| ((1 : Int64) <<< (sa &&& 0x3f).toInt64)) ||| ((1 : Int64) <<< (sb &&& 0x3f).toInt64))))]))
          refine Go.by (fun t k => XS.ifNo X0.here hx rfl (hb hby d4_132) rfl ((if0 _ _).trans (teq ((lw_eq (fu (ww).toNatClampNeg) (((0 : Int64) ||| ((1 : Int64) <<< (sa &&& 0x3f).toInt64)) ||| ((1 : Int64) <<< (sb &&& 0x3f).toInt64))).mpr (by rw [hB hc2]; simp only [own_expB, if_pos (show own_w sa = ww from hc5), if_pos (show own_w sb = ww from hc6), if_neg (show ¬ own_w sc = ww from hc7)] <;> rfl))).2) k) ?_
          show Go p e below _ (s₁.setTop (mkF m 135 #[.val (.ref ba), .val (.ref ga), .val (.int ww), .val (.int sa), .val (.int sb), .val (.int sc), .val (.int na), .val (.long (((0 : Int64) ||| ((1 : Int64) <<< (sa &&& 0x3f).toInt64)) ||| ((1 : Int64) <<< (sb &&& 0x3f).toInt64))), .second, .val (.int na)] []))
          refine Go.by (fun t k => XS.aloadN X0.here hx rfl (hb hby d4_135) rfl rfl k) ?_
          show Go p e below _ (s₁.setTop (mkF m 136 #[.val (.ref ba), .val (.ref ga), .val (.int ww), .val (.int sa), .val (.int sb), .val (.int sc), .val (.int na), .val (.long (((0 : Int64) ||| ((1 : Int64) <<< (sa &&& 0x3f).toInt64)) ||| ((1 : Int64) <<< (sb &&& 0x3f).toInt64))), .second, .val (.int na)] [(.ref ga)]))
          refine Go.by (fun t k => XS.iloadN X0.here hx rfl (hb hby d4_136) rfl k) ?_
          show Go p e below _ (s₁.setTop (mkF m 137 #[.val (.ref ba), .val (.ref ga), .val (.int ww), .val (.int sa), .val (.int sb), .val (.int sc), .val (.int na), .val (.long (((0 : Int64) ||| ((1 : Int64) <<< (sa &&& 0x3f).toInt64)) ||| ((1 : Int64) <<< (sb &&& 0x3f).toInt64))), .second, .val (.int na)] [(.int ww), (.ref ga)]))
          obtain ⟨_, vs17, ⟨cl17, Ar17, qk17, sz17, nn17, Ha17, Gf17⟩, ln17, fn17⟩ := id P1
          have hin18 : ¬ (ww < 0 ∨ cl17.slots.size ≤ (ww).toNatClampNeg) := inb_of sz17 ⟨hw0, hc2⟩
          have hat19 : cl17.slots[(ww).toNatClampNeg]? = some (.int (gu (ww).toNatClampNeg)) := Has.at Ha17 hin18 (fn17 _ (by have q := hin18; have := sz17; omega))
          refine Go.by (fun t k => X0.iaload hx (j := ww) (v := (.int (gu (ww).toNatClampNeg))) (by rw [e0]; exact Ar17.1) (State.isArrayOf_alike hZ.alike Ar17.2.1) Ar17.2.2 hin18 hat19 (g := (mkF m 137 #[.val (.ref ba), .val (.ref ga), .val (.int ww), .val (.int sa), .val (.int sb), .val (.int sc), .val (.int na), .val (.long (((0 : Int64) ||| ((1 : Int64) <<< (sa &&& 0x3f).toInt64)) ||| ((1 : Int64) <<< (sb &&& 0x3f).toInt64))), .second, .val (.int na)] [(.int ww), (.ref ga)])) rfl rfl (hb hby d4_137) t k) ?_
          show Go p e below _ (s₁.setTop (mkF m 138 #[.val (.ref ba), .val (.ref ga), .val (.int ww), .val (.int sa), .val (.int sb), .val (.int sc), .val (.int na), .val (.long (((0 : Int64) ||| ((1 : Int64) <<< (sa &&& 0x3f).toInt64)) ||| ((1 : Int64) <<< (sb &&& 0x3f).toInt64))), .second, .val (.int na)] [(.int (gu (ww).toNatClampNeg))]))
          refine Go.by (fun t k => XS.iload X0.here hx rfl (hb hby d4_138) rfl k) ?_
          show Go p e below _ (s₁.setTop (mkF m 140 #[.val (.ref ba), .val (.ref ga), .val (.int ww), .val (.int sa), .val (.int sb), .val (.int sc), .val (.int na), .val (.long (((0 : Int64) ||| ((1 : Int64) <<< (sa &&& 0x3f).toInt64)) ||| ((1 : Int64) <<< (sb &&& 0x3f).toInt64))), .second, .val (.int na)] [(.int na), (.int (gu (ww).toNatClampNeg))]))
          refine Go.by (fun t k => XS.icmpNo X0.here hx rfl (hb hby d4_140) rfl (teq (by rw [hF hc2]; simp only [own_expF, if_pos (show own_w sa = ww from hc5), if_pos (show own_w sb = ww from hc6), if_neg (show ¬ own_w sc = ww from hc7)] <;> rfl)).2 k) ?_
          show Go p e below _ (s₁.setTop (mkF m 143 #[.val (.ref ba), .val (.ref ga), .val (.int ww), .val (.int sa), .val (.int sb), .val (.int sc), .val (.int na), .val (.long (((0 : Int64) ||| ((1 : Int64) <<< (sa &&& 0x3f).toInt64)) ||| ((1 : Int64) <<< (sb &&& 0x3f).toInt64))), .second, .val (.int na)] []))
          refine Go.by (fun t k => XS.iconst X0.here hx rfl (hb hby d4_143) k) ?_
          show Go p e below _ (s₁.setTop (mkF m 144 #[.val (.ref ba), .val (.ref ga), .val (.int ww), .val (.int sa), .val (.int sb), .val (.int sc), .val (.int na), .val (.long (((0 : Int64) ||| ((1 : Int64) <<< (sa &&& 0x3f).toInt64)) ||| ((1 : Int64) <<< (sb &&& 0x3f).toInt64))), .second, .val (.int na)] [(.int (1 : Int32))]))
          refine Go.by (fun t k => XS.goto X0.here hx rfl (pc0 := 144) (pc' := 148) rfl (hb hby d4_144) (by decide) (by decide) k) ?_
          show Go p e below _ (s₁.setTop (mkF m 148 #[.val (.ref ba), .val (.ref ga), .val (.int ww), .val (.int sa), .val (.int sb), .val (.int sc), .val (.int na), .val (.long (((0 : Int64) ||| ((1 : Int64) <<< (sa &&& 0x3f).toInt64)) ||| ((1 : Int64) <<< (sb &&& 0x3f).toInt64))), .second, .val (.int na)] [(.int (1 : Int32))]))
          have hq : Q_wordOk Z ba ga ww sa sb sc na zz fu gu h0 n0 (some (.int (nar .boolean (1 : Int32)))) h0 _ := ⟨rfl, N0, rfl⟩
          exact Go.retN X0 hx (t := .boolean) Bd.returns (by simp) hlk (hb hby d4_148) (by decide) (by decide) (by rw [e0]; exact hq)
      · skip
        refine Go.by (fun t k => XS.icmpYes X0.here hx rfl (pc0 := 42) (pc' := 54) rfl (hb hby d4_42) rfl (feq hc6).2 (by decide) (by decide) k) ?_
        show Go p e below _ (s₁.setTop (mkF m 54 #[.val (.ref ba), .val (.ref ga), .val (.int ww), .val (.int sa), .val (.int sb), .val (.int sc), .val (.int na), .val (.long ((0 : Int64) ||| ((1 : Int64) <<< (sa &&& 0x3f).toInt64))), .second, .unset] []))
        refine Go.by (fun t k => XS.iload X0.here hx rfl (hb hby d4_54) rfl k) ?_
        show Go p e below _ (s₁.setTop (mkF m 56 #[.val (.ref ba), .val (.ref ga), .val (.int ww), .val (.int sa), .val (.int sb), .val (.int sc), .val (.int na), .val (.long ((0 : Int64) ||| ((1 : Int64) <<< (sa &&& 0x3f).toInt64))), .second, .unset] [(.int sc)]))
        refine Go.by (fun t k => XS.bipush X0.here hx rfl (hb hby d4_56) k) ?_
        show Go p e below _ (s₁.setTop (mkF m 58 #[.val (.ref ba), .val (.ref ga), .val (.int ww), .val (.int sa), .val (.int sb), .val (.int sc), .val (.int na), .val (.long ((0 : Int64) ||| ((1 : Int64) <<< (sa &&& 0x3f).toInt64))), .second, .unset] [(.int (6 : Int32)), (.int sc)]))
        refine Go.by (fun t k => XS.iushr X0.here hx rfl (hb hby d4_58) rfl k) ?_
        show Go p e below _ (s₁.setTop (mkF m 59 #[.val (.ref ba), .val (.ref ga), .val (.int ww), .val (.int sa), .val (.int sb), .val (.int sc), .val (.int na), .val (.long ((0 : Int64) ||| ((1 : Int64) <<< (sa &&& 0x3f).toInt64))), .second, .unset] [(.int ((sc.toUInt32 >>> ((6 : Int32) &&& 31).toUInt32).toInt32))]))
        refine Go.by (fun t k => XS.iloadN X0.here hx rfl (hb hby d4_59) rfl k) ?_
        show Go p e below _ (s₁.setTop (mkF m 60 #[.val (.ref ba), .val (.ref ga), .val (.int ww), .val (.int sa), .val (.int sb), .val (.int sc), .val (.int na), .val (.long ((0 : Int64) ||| ((1 : Int64) <<< (sa &&& 0x3f).toInt64))), .second, .unset] [(.int ww), (.int ((sc.toUInt32 >>> ((6 : Int32) &&& 31).toUInt32).toInt32))]))
        by_cases hc20 : ((sc.toUInt32 >>> ((6 : Int32) &&& 31).toUInt32).toInt32) = ww
        · skip
          refine Go.by (fun t k => XS.icmpNo X0.here hx rfl (hb hby d4_60) rfl (teq hc20).2 k) ?_
          show Go p e below _ (s₁.setTop (mkF m 63 #[.val (.ref ba), .val (.ref ga), .val (.int ww), .val (.int sa), .val (.int sb), .val (.int sc), .val (.int na), .val (.long ((0 : Int64) ||| ((1 : Int64) <<< (sa &&& 0x3f).toInt64))), .second, .unset] []))
          refine Go.by (fun t k => XS.lload X0.here hx rfl (hb hby d4_63) rfl k) ?_
          show Go p e below _ (s₁.setTop (mkF m 65 #[.val (.ref ba), .val (.ref ga), .val (.int ww), .val (.int sa), .val (.int sb), .val (.int sc), .val (.int na), .val (.long ((0 : Int64) ||| ((1 : Int64) <<< (sa &&& 0x3f).toInt64))), .second, .unset] [(.long ((0 : Int64) ||| ((1 : Int64) <<< (sa &&& 0x3f).toInt64)))]))
          refine Go.by (fun t k => XS.lconst X0.here hx rfl (hb hby d4_65) k) ?_
          show Go p e below _ (s₁.setTop (mkF m 66 #[.val (.ref ba), .val (.ref ga), .val (.int ww), .val (.int sa), .val (.int sb), .val (.int sc), .val (.int na), .val (.long ((0 : Int64) ||| ((1 : Int64) <<< (sa &&& 0x3f).toInt64))), .second, .unset] [(.long (1 : Int64)), (.long ((0 : Int64) ||| ((1 : Int64) <<< (sa &&& 0x3f).toInt64)))]))
          refine Go.by (fun t k => XS.iload X0.here hx rfl (hb hby d4_66) rfl k) ?_
          show Go p e below _ (s₁.setTop (mkF m 68 #[.val (.ref ba), .val (.ref ga), .val (.int ww), .val (.int sa), .val (.int sb), .val (.int sc), .val (.int na), .val (.long ((0 : Int64) ||| ((1 : Int64) <<< (sa &&& 0x3f).toInt64))), .second, .unset] [(.int sc), (.long (1 : Int64)), (.long ((0 : Int64) ||| ((1 : Int64) <<< (sa &&& 0x3f).toInt64)))]))
          refine Go.by (fun t k => XS.lshl X0.here hx rfl (hb hby d4_68) rfl k) ?_
          show Go p e below _ (s₁.setTop (mkF m 69 #[.val (.ref ba), .val (.ref ga), .val (.int ww), .val (.int sa), .val (.int sb), .val (.int sc), .val (.int na), .val (.long ((0 : Int64) ||| ((1 : Int64) <<< (sa &&& 0x3f).toInt64))), .second, .unset] [(.long ((1 : Int64) <<< (sc &&& 0x3f).toInt64)), (.long ((0 : Int64) ||| ((1 : Int64) <<< (sa &&& 0x3f).toInt64)))]))
          refine Go.by (fun t k => XS.lor X0.here hx rfl (hb hby d4_69) rfl k) ?_
          show Go p e below _ (s₁.setTop (mkF m 70 #[.val (.ref ba), .val (.ref ga), .val (.int ww), .val (.int sa), .val (.int sb), .val (.int sc), .val (.int na), .val (.long ((0 : Int64) ||| ((1 : Int64) <<< (sa &&& 0x3f).toInt64))), .second, .unset] [(.long (((0 : Int64) ||| ((1 : Int64) <<< (sa &&& 0x3f).toInt64)) ||| ((1 : Int64) <<< (sc &&& 0x3f).toInt64)))]))
          refine Go.by (fun t k => XS.lstore X0.here hx rfl (hb hby d4_70) rfl (l' := #[.val (.ref ba), .val (.ref ga), .val (.int ww), .val (.int sa), .val (.int sb), .val (.int sc), .val (.int na), .val (.long (((0 : Int64) ||| ((1 : Int64) <<< (sa &&& 0x3f).toInt64)) ||| ((1 : Int64) <<< (sc &&& 0x3f).toInt64))), .second, .unset]) rfl k) ?_
          show Go p e below _ (s₁.setTop (mkF m 72 #[.val (.ref ba), .val (.ref ga), .val (.int ww), .val (.int sa), .val (.int sb), .val (.int sc), .val (.int na), .val (.long (((0 : Int64) ||| ((1 : Int64) <<< (sa &&& 0x3f).toInt64)) ||| ((1 : Int64) <<< (sc &&& 0x3f).toInt64))), .second, .unset] []))
          refine Go.by (fun t k => XS.iloadN X0.here hx rfl (hb hby d4_72) rfl k) ?_
          show Go p e below _ (s₁.setTop (mkF m 73 #[.val (.ref ba), .val (.ref ga), .val (.int ww), .val (.int sa), .val (.int sb), .val (.int sc), .val (.int na), .val (.long (((0 : Int64) ||| ((1 : Int64) <<< (sa &&& 0x3f).toInt64)) ||| ((1 : Int64) <<< (sc &&& 0x3f).toInt64))), .second, .unset] [(.int sa)]))
          refine Go.by (fun t k => XS.bipush X0.here hx rfl (hb hby d4_73) k) ?_
          show Go p e below _ (s₁.setTop (mkF m 75 #[.val (.ref ba), .val (.ref ga), .val (.int ww), .val (.int sa), .val (.int sb), .val (.int sc), .val (.int na), .val (.long (((0 : Int64) ||| ((1 : Int64) <<< (sa &&& 0x3f).toInt64)) ||| ((1 : Int64) <<< (sc &&& 0x3f).toInt64))), .second, .unset] [(.int (6 : Int32)), (.int sa)]))
          refine Go.by (fun t k => XS.iushr X0.here hx rfl (hb hby d4_75) rfl k) ?_
          show Go p e below _ (s₁.setTop (mkF m 76 #[.val (.ref ba), .val (.ref ga), .val (.int ww), .val (.int sa), .val (.int sb), .val (.int sc), .val (.int na), .val (.long (((0 : Int64) ||| ((1 : Int64) <<< (sa &&& 0x3f).toInt64)) ||| ((1 : Int64) <<< (sc &&& 0x3f).toInt64))), .second, .unset] [(.int ((sa.toUInt32 >>> ((6 : Int32) &&& 31).toUInt32).toInt32))]))
          refine Go.by (fun t k => XS.iloadN X0.here hx rfl (hb hby d4_76) rfl k) ?_
          show Go p e below _ (s₁.setTop (mkF m 77 #[.val (.ref ba), .val (.ref ga), .val (.int ww), .val (.int sa), .val (.int sb), .val (.int sc), .val (.int na), .val (.long (((0 : Int64) ||| ((1 : Int64) <<< (sa &&& 0x3f).toInt64)) ||| ((1 : Int64) <<< (sc &&& 0x3f).toInt64))), .second, .unset] [(.int ww), (.int ((sa.toUInt32 >>> ((6 : Int32) &&& 31).toUInt32).toInt32))]))
          refine Go.by (fun t k => XS.icmpNo X0.here hx rfl (hb hby d4_77) rfl (teq hc5).2 k) ?_
          show Go p e below _ (s₁.setTop (mkF m 80 #[.val (.ref ba), .val (.ref ga), .val (.int ww), .val (.int sa), .val (.int sb), .val (.int sc), .val (.int na), .val (.long (((0 : Int64) ||| ((1 : Int64) <<< (sa &&& 0x3f).toInt64)) ||| ((1 : Int64) <<< (sc &&& 0x3f).toInt64))), .second, .unset] []))
          refine Go.by (fun t k => XS.iload X0.here hx rfl (hb hby d4_80) rfl k) ?_
          show Go p e below _ (s₁.setTop (mkF m 82 #[.val (.ref ba), .val (.ref ga), .val (.int ww), .val (.int sa), .val (.int sb), .val (.int sc), .val (.int na), .val (.long (((0 : Int64) ||| ((1 : Int64) <<< (sa &&& 0x3f).toInt64)) ||| ((1 : Int64) <<< (sc &&& 0x3f).toInt64))), .second, .unset] [(.int na)]))
          refine Go.by (fun t k => XS.istore X0.here hx rfl (hb hby d4_82) rfl (l' := #[.val (.ref ba), .val (.ref ga), .val (.int ww), .val (.int sa), .val (.int sb), .val (.int sc), .val (.int na), .val (.long (((0 : Int64) ||| ((1 : Int64) <<< (sa &&& 0x3f).toInt64)) ||| ((1 : Int64) <<< (sc &&& 0x3f).toInt64))), .second, .val (.int na)]) rfl k) ?_
          show Go p e below _ (s₁.setTop (mkF m 84 #[.val (.ref ba), .val (.ref ga), .val (.int ww), .val (.int sa), .val (.int sb), .val (.int sc), .val (.int na), .val (.long (((0 : Int64) ||| ((1 : Int64) <<< (sa &&& 0x3f).toInt64)) ||| ((1 : Int64) <<< (sc &&& 0x3f).toInt64))), .second, .val (.int na)] []))
          refine Go.by (fun t k => XS.goto X0.here hx rfl (pc0 := 84) (pc' := 126) rfl (hb hby d4_84) (by decide) (by decide) k) ?_
          show Go p e below _ (s₁.setTop (mkF m 126 #[.val (.ref ba), .val (.ref ga), .val (.int ww), .val (.int sa), .val (.int sb), .val (.int sc), .val (.int na), .val (.long (((0 : Int64) ||| ((1 : Int64) <<< (sa &&& 0x3f).toInt64)) ||| ((1 : Int64) <<< (sc &&& 0x3f).toInt64))), .second, .val (.int na)] []))
          refine Go.by (fun t k => XS.aloadN X0.here hx rfl (hb hby d4_126) rfl rfl k) ?_
          show Go p e below _ (s₁.setTop (mkF m 127 #[.val (.ref ba), .val (.ref ga), .val (.int ww), .val (.int sa), .val (.int sb), .val (.int sc), .val (.int na), .val (.long (((0 : Int64) ||| ((1 : Int64) <<< (sa &&& 0x3f).toInt64)) ||| ((1 : Int64) <<< (sc &&& 0x3f).toInt64))), .second, .val (.int na)] [(.ref ba)]))
          refine Go.by (fun t k => XS.iloadN X0.here hx rfl (hb hby d4_127) rfl k) ?_
          show Go p e below _ (s₁.setTop (mkF m 128 #[.val (.ref ba), .val (.ref ga), .val (.int ww), .val (.int sa), .val (.int sb), .val (.int sc), .val (.int na), .val (.long (((0 : Int64) ||| ((1 : Int64) <<< (sa &&& 0x3f).toInt64)) ||| ((1 : Int64) <<< (sc &&& 0x3f).toInt64))), .second, .val (.int na)] [(.int ww), (.ref ba)]))
          obtain ⟨_, vs21, ⟨cl21, Ar21, qk21, sz21, nn21, Ha21, Gf21⟩, ln21, fn21⟩ := id P0
          have hin22 : ¬ (ww < 0 ∨ cl21.slots.size ≤ (ww).toNatClampNeg) := inb_of sz21 ⟨hw0, hc2⟩
          have hat23 : cl21.slots[(ww).toNatClampNeg]? = some (.long (fu (ww).toNatClampNeg)) := Has.at Ha21 hin22 (fn21 _ (by have q := hin22; have := sz21; omega))
          refine Go.by (fun t k => X0.laload hx (j := ww) (v := (.long (fu (ww).toNatClampNeg))) (by rw [e0]; exact Ar21.1) (State.isArrayOf_alike hZ.alike Ar21.2.1) Ar21.2.2 hin22 hat23 (g := (mkF m 128 #[.val (.ref ba), .val (.ref ga), .val (.int ww), .val (.int sa), .val (.int sb), .val (.int sc), .val (.int na), .val (.long (((0 : Int64) ||| ((1 : Int64) <<< (sa &&& 0x3f).toInt64)) ||| ((1 : Int64) <<< (sc &&& 0x3f).toInt64))), .second, .val (.int na)] [(.int ww), (.ref ba)])) rfl rfl (hb hby d4_128) t k) ?_
          show Go p e below _ (s₁.setTop (mkF m 129 #[.val (.ref ba), .val (.ref ga), .val (.int ww), .val (.int sa), .val (.int sb), .val (.int sc), .val (.int na), .val (.long (((0 : Int64) ||| ((1 : Int64) <<< (sa &&& 0x3f).toInt64)) ||| ((1 : Int64) <<< (sc &&& 0x3f).toInt64))), .second, .val (.int na)] [(.long (fu (ww).toNatClampNeg))]))
          refine Go.by (fun t k => XS.lload X0.here hx rfl (hb hby d4_129) rfl k) ?_
          show Go p e below _ (s₁.setTop (mkF m 131 #[.val (.ref ba), .val (.ref ga), .val (.int ww), .val (.int sa), .val (.int sb), .val (.int sc), .val (.int na), .val (.long (((0 : Int64) ||| ((1 : Int64) <<< (sa &&& 0x3f).toInt64)) ||| ((1 : Int64) <<< (sc &&& 0x3f).toInt64))), .second, .val (.int na)] [(.long (((0 : Int64) ||| ((1 : Int64) <<< (sa &&& 0x3f).toInt64)) ||| ((1 : Int64) <<< (sc &&& 0x3f).toInt64))), (.long (fu (ww).toNatClampNeg))]))
          refine Go.by (fun t k => XS.lcmp X0.here hx rfl (hb hby d4_131) rfl k) ?_
          show Go p e below _ (s₁.setTop (mkF m 132 #[.val (.ref ba), .val (.ref ga), .val (.int ww), .val (.int sa), .val (.int sb), .val (.int sc), .val (.int na), .val (.long (((0 : Int64) ||| ((1 : Int64) <<< (sa &&& 0x3f).toInt64)) ||| ((1 : Int64) <<< (sc &&& 0x3f).toInt64))), .second, .val (.int na)] [(.int (lcmpW (fu (ww).toNatClampNeg) (((0 : Int64) ||| ((1 : Int64) <<< (sa &&& 0x3f).toInt64)) ||| ((1 : Int64) <<< (sc &&& 0x3f).toInt64))))]))
          refine Go.by (fun t k => XS.ifNo X0.here hx rfl (hb hby d4_132) rfl ((if0 _ _).trans (teq ((lw_eq (fu (ww).toNatClampNeg) (((0 : Int64) ||| ((1 : Int64) <<< (sa &&& 0x3f).toInt64)) ||| ((1 : Int64) <<< (sc &&& 0x3f).toInt64))).mpr (by rw [hB hc2]; simp only [own_expB, if_pos (show own_w sa = ww from hc5), if_neg (show ¬ own_w sb = ww from hc6), if_pos (show own_w sc = ww from hc20)] <;> rfl))).2) k) ?_
          show Go p e below _ (s₁.setTop (mkF m 135 #[.val (.ref ba), .val (.ref ga), .val (.int ww), .val (.int sa), .val (.int sb), .val (.int sc), .val (.int na), .val (.long (((0 : Int64) ||| ((1 : Int64) <<< (sa &&& 0x3f).toInt64)) ||| ((1 : Int64) <<< (sc &&& 0x3f).toInt64))), .second, .val (.int na)] []))
          refine Go.by (fun t k => XS.aloadN X0.here hx rfl (hb hby d4_135) rfl rfl k) ?_
          show Go p e below _ (s₁.setTop (mkF m 136 #[.val (.ref ba), .val (.ref ga), .val (.int ww), .val (.int sa), .val (.int sb), .val (.int sc), .val (.int na), .val (.long (((0 : Int64) ||| ((1 : Int64) <<< (sa &&& 0x3f).toInt64)) ||| ((1 : Int64) <<< (sc &&& 0x3f).toInt64))), .second, .val (.int na)] [(.ref ga)]))
          refine Go.by (fun t k => XS.iloadN X0.here hx rfl (hb hby d4_136) rfl k) ?_
          show Go p e below _ (s₁.setTop (mkF m 137 #[.val (.ref ba), .val (.ref ga), .val (.int ww), .val (.int sa), .val (.int sb), .val (.int sc), .val (.int na), .val (.long (((0 : Int64) ||| ((1 : Int64) <<< (sa &&& 0x3f).toInt64)) ||| ((1 : Int64) <<< (sc &&& 0x3f).toInt64))), .second, .val (.int na)] [(.int ww), (.ref ga)]))
          obtain ⟨_, vs24, ⟨cl24, Ar24, qk24, sz24, nn24, Ha24, Gf24⟩, ln24, fn24⟩ := id P1
          have hin25 : ¬ (ww < 0 ∨ cl24.slots.size ≤ (ww).toNatClampNeg) := inb_of sz24 ⟨hw0, hc2⟩
          have hat26 : cl24.slots[(ww).toNatClampNeg]? = some (.int (gu (ww).toNatClampNeg)) := Has.at Ha24 hin25 (fn24 _ (by have q := hin25; have := sz24; omega))
          refine Go.by (fun t k => X0.iaload hx (j := ww) (v := (.int (gu (ww).toNatClampNeg))) (by rw [e0]; exact Ar24.1) (State.isArrayOf_alike hZ.alike Ar24.2.1) Ar24.2.2 hin25 hat26 (g := (mkF m 137 #[.val (.ref ba), .val (.ref ga), .val (.int ww), .val (.int sa), .val (.int sb), .val (.int sc), .val (.int na), .val (.long (((0 : Int64) ||| ((1 : Int64) <<< (sa &&& 0x3f).toInt64)) ||| ((1 : Int64) <<< (sc &&& 0x3f).toInt64))), .second, .val (.int na)] [(.int ww), (.ref ga)])) rfl rfl (hb hby d4_137) t k) ?_
          show Go p e below _ (s₁.setTop (mkF m 138 #[.val (.ref ba), .val (.ref ga), .val (.int ww), .val (.int sa), .val (.int sb), .val (.int sc), .val (.int na), .val (.long (((0 : Int64) ||| ((1 : Int64) <<< (sa &&& 0x3f).toInt64)) ||| ((1 : Int64) <<< (sc &&& 0x3f).toInt64))), .second, .val (.int na)] [(.int (gu (ww).toNatClampNeg))]))
          refine Go.by (fun t k => XS.iload X0.here hx rfl (hb hby d4_138) rfl k) ?_
          show Go p e below _ (s₁.setTop (mkF m 140 #[.val (.ref ba), .val (.ref ga), .val (.int ww), .val (.int sa), .val (.int sb), .val (.int sc), .val (.int na), .val (.long (((0 : Int64) ||| ((1 : Int64) <<< (sa &&& 0x3f).toInt64)) ||| ((1 : Int64) <<< (sc &&& 0x3f).toInt64))), .second, .val (.int na)] [(.int na), (.int (gu (ww).toNatClampNeg))]))
          refine Go.by (fun t k => XS.icmpNo X0.here hx rfl (hb hby d4_140) rfl (teq (by rw [hF hc2]; simp only [own_expF, if_pos (show own_w sa = ww from hc5), if_neg (show ¬ own_w sb = ww from hc6), if_pos (show own_w sc = ww from hc20)] <;> rfl)).2 k) ?_
          show Go p e below _ (s₁.setTop (mkF m 143 #[.val (.ref ba), .val (.ref ga), .val (.int ww), .val (.int sa), .val (.int sb), .val (.int sc), .val (.int na), .val (.long (((0 : Int64) ||| ((1 : Int64) <<< (sa &&& 0x3f).toInt64)) ||| ((1 : Int64) <<< (sc &&& 0x3f).toInt64))), .second, .val (.int na)] []))
          refine Go.by (fun t k => XS.iconst X0.here hx rfl (hb hby d4_143) k) ?_
          show Go p e below _ (s₁.setTop (mkF m 144 #[.val (.ref ba), .val (.ref ga), .val (.int ww), .val (.int sa), .val (.int sb), .val (.int sc), .val (.int na), .val (.long (((0 : Int64) ||| ((1 : Int64) <<< (sa &&& 0x3f).toInt64)) ||| ((1 : Int64) <<< (sc &&& 0x3f).toInt64))), .second, .val (.int na)] [(.int (1 : Int32))]))
          refine Go.by (fun t k => XS.goto X0.here hx rfl (pc0 := 144) (pc' := 148) rfl (hb hby d4_144) (by decide) (by decide) k) ?_
          show Go p e below _ (s₁.setTop (mkF m 148 #[.val (.ref ba), .val (.ref ga), .val (.int ww), .val (.int sa), .val (.int sb), .val (.int sc), .val (.int na), .val (.long (((0 : Int64) ||| ((1 : Int64) <<< (sa &&& 0x3f).toInt64)) ||| ((1 : Int64) <<< (sc &&& 0x3f).toInt64))), .second, .val (.int na)] [(.int (1 : Int32))]))
          have hq : Q_wordOk Z ba ga ww sa sb sc na zz fu gu h0 n0 (some (.int (nar .boolean (1 : Int32)))) h0 _ := ⟨rfl, N0, rfl⟩
          exact Go.retN X0 hx (t := .boolean) Bd.returns (by simp) hlk (hb hby d4_148) (by decide) (by decide) (by rw [e0]; exact hq)
        · skip
          refine Go.by (fun t k => XS.icmpYes X0.here hx rfl (pc0 := 60) (pc' := 72) rfl (hb hby d4_60) rfl (feq hc20).2 (by decide) (by decide) k) ?_
          show Go p e below _ (s₁.setTop (mkF m 72 #[.val (.ref ba), .val (.ref ga), .val (.int ww), .val (.int sa), .val (.int sb), .val (.int sc), .val (.int na), .val (.long ((0 : Int64) ||| ((1 : Int64) <<< (sa &&& 0x3f).toInt64))), .second, .unset] []))
          refine Go.by (fun t k => XS.iloadN X0.here hx rfl (hb hby d4_72) rfl k) ?_
          show Go p e below _ (s₁.setTop (mkF m 73 #[.val (.ref ba), .val (.ref ga), .val (.int ww), .val (.int sa), .val (.int sb), .val (.int sc), .val (.int na), .val (.long ((0 : Int64) ||| ((1 : Int64) <<< (sa &&& 0x3f).toInt64))), .second, .unset] [(.int sa)]))
          refine Go.by (fun t k => XS.bipush X0.here hx rfl (hb hby d4_73) k) ?_
          show Go p e below _ (s₁.setTop (mkF m 75 #[.val (.ref ba), .val (.ref ga), .val (.int ww), .val (.int sa), .val (.int sb), .val (.int sc), .val (.int na), .val (.long ((0 : Int64) ||| ((1 : Int64) <<< (sa &&& 0x3f).toInt64))), .second, .unset] [(.int (6 : Int32)), (.int sa)]))
          refine Go.by (fun t k => XS.iushr X0.here hx rfl (hb hby d4_75) rfl k) ?_
          show Go p e below _ (s₁.setTop (mkF m 76 #[.val (.ref ba), .val (.ref ga), .val (.int ww), .val (.int sa), .val (.int sb), .val (.int sc), .val (.int na), .val (.long ((0 : Int64) ||| ((1 : Int64) <<< (sa &&& 0x3f).toInt64))), .second, .unset] [(.int ((sa.toUInt32 >>> ((6 : Int32) &&& 31).toUInt32).toInt32))]))
          refine Go.by (fun t k => XS.iloadN X0.here hx rfl (hb hby d4_76) rfl k) ?_
          show Go p e below _ (s₁.setTop (mkF m 77 #[.val (.ref ba), .val (.ref ga), .val (.int ww), .val (.int sa), .val (.int sb), .val (.int sc), .val (.int na), .val (.long ((0 : Int64) ||| ((1 : Int64) <<< (sa &&& 0x3f).toInt64))), .second, .unset] [(.int ww), (.int ((sa.toUInt32 >>> ((6 : Int32) &&& 31).toUInt32).toInt32))]))
          refine Go.by (fun t k => XS.icmpNo X0.here hx rfl (hb hby d4_77) rfl (teq hc5).2 k) ?_
          show Go p e below _ (s₁.setTop (mkF m 80 #[.val (.ref ba), .val (.ref ga), .val (.int ww), .val (.int sa), .val (.int sb), .val (.int sc), .val (.int na), .val (.long ((0 : Int64) ||| ((1 : Int64) <<< (sa &&& 0x3f).toInt64))), .second, .unset] []))
          refine Go.by (fun t k => XS.iload X0.here hx rfl (hb hby d4_80) rfl k) ?_
          show Go p e below _ (s₁.setTop (mkF m 82 #[.val (.ref ba), .val (.ref ga), .val (.int ww), .val (.int sa), .val (.int sb), .val (.int sc), .val (.int na), .val (.long ((0 : Int64) ||| ((1 : Int64) <<< (sa &&& 0x3f).toInt64))), .second, .unset] [(.int na)]))
          refine Go.by (fun t k => XS.istore X0.here hx rfl (hb hby d4_82) rfl (l' := #[.val (.ref ba), .val (.ref ga), .val (.int ww), .val (.int sa), .val (.int sb), .val (.int sc), .val (.int na), .val (.long ((0 : Int64) ||| ((1 : Int64) <<< (sa &&& 0x3f).toInt64))), .second, .val (.int na)]) rfl k) ?_
          show Go p e below _ (s₁.setTop (mkF m 84 #[.val (.ref ba), .val (.ref ga), .val (.int ww), .val (.int sa), .val (.int sb), .val (.int sc), .val (.int na), .val (.long ((0 : Int64) ||| ((1 : Int64) <<< (sa &&& 0x3f).toInt64))), .second, .val (.int na)] []))
          refine Go.by (fun t k => XS.goto X0.here hx rfl (pc0 := 84) (pc' := 126) rfl (hb hby d4_84) (by decide) (by decide) k) ?_
          show Go p e below _ (s₁.setTop (mkF m 126 #[.val (.ref ba), .val (.ref ga), .val (.int ww), .val (.int sa), .val (.int sb), .val (.int sc), .val (.int na), .val (.long ((0 : Int64) ||| ((1 : Int64) <<< (sa &&& 0x3f).toInt64))), .second, .val (.int na)] []))
          refine Go.by (fun t k => XS.aloadN X0.here hx rfl (hb hby d4_126) rfl rfl k) ?_
          show Go p e below _ (s₁.setTop (mkF m 127 #[.val (.ref ba), .val (.ref ga), .val (.int ww), .val (.int sa), .val (.int sb), .val (.int sc), .val (.int na), .val (.long ((0 : Int64) ||| ((1 : Int64) <<< (sa &&& 0x3f).toInt64))), .second, .val (.int na)] [(.ref ba)]))
          refine Go.by (fun t k => XS.iloadN X0.here hx rfl (hb hby d4_127) rfl k) ?_
          show Go p e below _ (s₁.setTop (mkF m 128 #[.val (.ref ba), .val (.ref ga), .val (.int ww), .val (.int sa), .val (.int sb), .val (.int sc), .val (.int na), .val (.long ((0 : Int64) ||| ((1 : Int64) <<< (sa &&& 0x3f).toInt64))), .second, .val (.int na)] [(.int ww), (.ref ba)]))
          obtain ⟨_, vs27, ⟨cl27, Ar27, qk27, sz27, nn27, Ha27, Gf27⟩, ln27, fn27⟩ := id P0
          have hin28 : ¬ (ww < 0 ∨ cl27.slots.size ≤ (ww).toNatClampNeg) := inb_of sz27 ⟨hw0, hc2⟩
          have hat29 : cl27.slots[(ww).toNatClampNeg]? = some (.long (fu (ww).toNatClampNeg)) := Has.at Ha27 hin28 (fn27 _ (by have q := hin28; have := sz27; omega))
          refine Go.by (fun t k => X0.laload hx (j := ww) (v := (.long (fu (ww).toNatClampNeg))) (by rw [e0]; exact Ar27.1) (State.isArrayOf_alike hZ.alike Ar27.2.1) Ar27.2.2 hin28 hat29 (g := (mkF m 128 #[.val (.ref ba), .val (.ref ga), .val (.int ww), .val (.int sa), .val (.int sb), .val (.int sc), .val (.int na), .val (.long ((0 : Int64) ||| ((1 : Int64) <<< (sa &&& 0x3f).toInt64))), .second, .val (.int na)] [(.int ww), (.ref ba)])) rfl rfl (hb hby d4_128) t k) ?_
          show Go p e below _ (s₁.setTop (mkF m 129 #[.val (.ref ba), .val (.ref ga), .val (.int ww), .val (.int sa), .val (.int sb), .val (.int sc), .val (.int na), .val (.long ((0 : Int64) ||| ((1 : Int64) <<< (sa &&& 0x3f).toInt64))), .second, .val (.int na)] [(.long (fu (ww).toNatClampNeg))]))
          refine Go.by (fun t k => XS.lload X0.here hx rfl (hb hby d4_129) rfl k) ?_
          show Go p e below _ (s₁.setTop (mkF m 131 #[.val (.ref ba), .val (.ref ga), .val (.int ww), .val (.int sa), .val (.int sb), .val (.int sc), .val (.int na), .val (.long ((0 : Int64) ||| ((1 : Int64) <<< (sa &&& 0x3f).toInt64))), .second, .val (.int na)] [(.long ((0 : Int64) ||| ((1 : Int64) <<< (sa &&& 0x3f).toInt64))), (.long (fu (ww).toNatClampNeg))]))
          refine Go.by (fun t k => XS.lcmp X0.here hx rfl (hb hby d4_131) rfl k) ?_
          show Go p e below _ (s₁.setTop (mkF m 132 #[.val (.ref ba), .val (.ref ga), .val (.int ww), .val (.int sa), .val (.int sb), .val (.int sc), .val (.int na), .val (.long ((0 : Int64) ||| ((1 : Int64) <<< (sa &&& 0x3f).toInt64))), .second, .val (.int na)] [(.int (lcmpW (fu (ww).toNatClampNeg) ((0 : Int64) ||| ((1 : Int64) <<< (sa &&& 0x3f).toInt64))))]))
          refine Go.by (fun t k => XS.ifNo X0.here hx rfl (hb hby d4_132) rfl ((if0 _ _).trans (teq ((lw_eq (fu (ww).toNatClampNeg) ((0 : Int64) ||| ((1 : Int64) <<< (sa &&& 0x3f).toInt64))).mpr (by rw [hB hc2]; simp only [own_expB, if_pos (show own_w sa = ww from hc5), if_neg (show ¬ own_w sb = ww from hc6), if_neg (show ¬ own_w sc = ww from hc20)] <;> rfl))).2) k) ?_
          show Go p e below _ (s₁.setTop (mkF m 135 #[.val (.ref ba), .val (.ref ga), .val (.int ww), .val (.int sa), .val (.int sb), .val (.int sc), .val (.int na), .val (.long ((0 : Int64) ||| ((1 : Int64) <<< (sa &&& 0x3f).toInt64))), .second, .val (.int na)] []))
          refine Go.by (fun t k => XS.aloadN X0.here hx rfl (hb hby d4_135) rfl rfl k) ?_
          show Go p e below _ (s₁.setTop (mkF m 136 #[.val (.ref ba), .val (.ref ga), .val (.int ww), .val (.int sa), .val (.int sb), .val (.int sc), .val (.int na), .val (.long ((0 : Int64) ||| ((1 : Int64) <<< (sa &&& 0x3f).toInt64))), .second, .val (.int na)] [(.ref ga)]))
          refine Go.by (fun t k => XS.iloadN X0.here hx rfl (hb hby d4_136) rfl k) ?_
          show Go p e below _ (s₁.setTop (mkF m 137 #[.val (.ref ba), .val (.ref ga), .val (.int ww), .val (.int sa), .val (.int sb), .val (.int sc), .val (.int na), .val (.long ((0 : Int64) ||| ((1 : Int64) <<< (sa &&& 0x3f).toInt64))), .second, .val (.int na)] [(.int ww), (.ref ga)]))
          obtain ⟨_, vs30, ⟨cl30, Ar30, qk30, sz30, nn30, Ha30, Gf30⟩, ln30, fn30⟩ := id P1
          have hin31 : ¬ (ww < 0 ∨ cl30.slots.size ≤ (ww).toNatClampNeg) := inb_of sz30 ⟨hw0, hc2⟩
          have hat32 : cl30.slots[(ww).toNatClampNeg]? = some (.int (gu (ww).toNatClampNeg)) := Has.at Ha30 hin31 (fn30 _ (by have q := hin31; have := sz30; omega))
          refine Go.by (fun t k => X0.iaload hx (j := ww) (v := (.int (gu (ww).toNatClampNeg))) (by rw [e0]; exact Ar30.1) (State.isArrayOf_alike hZ.alike Ar30.2.1) Ar30.2.2 hin31 hat32 (g := (mkF m 137 #[.val (.ref ba), .val (.ref ga), .val (.int ww), .val (.int sa), .val (.int sb), .val (.int sc), .val (.int na), .val (.long ((0 : Int64) ||| ((1 : Int64) <<< (sa &&& 0x3f).toInt64))), .second, .val (.int na)] [(.int ww), (.ref ga)])) rfl rfl (hb hby d4_137) t k) ?_
          show Go p e below _ (s₁.setTop (mkF m 138 #[.val (.ref ba), .val (.ref ga), .val (.int ww), .val (.int sa), .val (.int sb), .val (.int sc), .val (.int na), .val (.long ((0 : Int64) ||| ((1 : Int64) <<< (sa &&& 0x3f).toInt64))), .second, .val (.int na)] [(.int (gu (ww).toNatClampNeg))]))
          refine Go.by (fun t k => XS.iload X0.here hx rfl (hb hby d4_138) rfl k) ?_
          show Go p e below _ (s₁.setTop (mkF m 140 #[.val (.ref ba), .val (.ref ga), .val (.int ww), .val (.int sa), .val (.int sb), .val (.int sc), .val (.int na), .val (.long ((0 : Int64) ||| ((1 : Int64) <<< (sa &&& 0x3f).toInt64))), .second, .val (.int na)] [(.int na), (.int (gu (ww).toNatClampNeg))]))
          refine Go.by (fun t k => XS.icmpNo X0.here hx rfl (hb hby d4_140) rfl (teq (by rw [hF hc2]; simp only [own_expF, if_pos (show own_w sa = ww from hc5), if_neg (show ¬ own_w sb = ww from hc6), if_neg (show ¬ own_w sc = ww from hc20)] <;> rfl)).2 k) ?_
          show Go p e below _ (s₁.setTop (mkF m 143 #[.val (.ref ba), .val (.ref ga), .val (.int ww), .val (.int sa), .val (.int sb), .val (.int sc), .val (.int na), .val (.long ((0 : Int64) ||| ((1 : Int64) <<< (sa &&& 0x3f).toInt64))), .second, .val (.int na)] []))
          refine Go.by (fun t k => XS.iconst X0.here hx rfl (hb hby d4_143) k) ?_
          show Go p e below _ (s₁.setTop (mkF m 144 #[.val (.ref ba), .val (.ref ga), .val (.int ww), .val (.int sa), .val (.int sb), .val (.int sc), .val (.int na), .val (.long ((0 : Int64) ||| ((1 : Int64) <<< (sa &&& 0x3f).toInt64))), .second, .val (.int na)] [(.int (1 : Int32))]))
          refine Go.by (fun t k => XS.goto X0.here hx rfl (pc0 := 144) (pc' := 148) rfl (hb hby d4_144) (by decide) (by decide) k) ?_
          show Go p e below _ (s₁.setTop (mkF m 148 #[.val (.ref ba), .val (.ref ga), .val (.int ww), .val (.int sa), .val (.int sb), .val (.int sc), .val (.int na), .val (.long ((0 : Int64) ||| ((1 : Int64) <<< (sa &&& 0x3f).toInt64))), .second, .val (.int na)] [(.int (1 : Int32))]))
          have hq : Q_wordOk Z ba ga ww sa sb sc na zz fu gu h0 n0 (some (.int (nar .boolean (1 : Int32)))) h0 _ := ⟨rfl, N0, rfl⟩
          exact Go.retN X0 hx (t := .boolean) Bd.returns (by simp) hlk (hb hby d4_148) (by decide) (by decide) (by rw [e0]; exact hq)
    · skip
      refine Go.by (fun t k => XS.icmpYes X0.here hx rfl (pc0 := 25) (pc' := 36) rfl (hb hby d4_25) rfl (feq hc5).2 (by decide) (by decide) k) ?_
      show Go p e below _ (s₁.setTop (mkF m 36 #[.val (.ref ba), .val (.ref ga), .val (.int ww), .val (.int sa), .val (.int sb), .val (.int sc), .val (.int na), .val (.long (0 : Int64)), .second, .unset] []))
      refine Go.by (fun t k => XS.iload X0.here hx rfl (hb hby d4_36) rfl k) ?_
      show Go p e below _ (s₁.setTop (mkF m 38 #[.val (.ref ba), .val (.ref ga), .val (.int ww), .val (.int sa), .val (.int sb), .val (.int sc), .val (.int na), .val (.long (0 : Int64)), .second, .unset] [(.int sb)]))
      refine Go.by (fun t k => XS.bipush X0.here hx rfl (hb hby d4_38) k) ?_
      show Go p e below _ (s₁.setTop (mkF m 40 #[.val (.ref ba), .val (.ref ga), .val (.int ww), .val (.int sa), .val (.int sb), .val (.int sc), .val (.int na), .val (.long (0 : Int64)), .second, .unset] [(.int (6 : Int32)), (.int sb)]))
      refine Go.by (fun t k => XS.iushr X0.here hx rfl (hb hby d4_40) rfl k) ?_
      show Go p e below _ (s₁.setTop (mkF m 41 #[.val (.ref ba), .val (.ref ga), .val (.int ww), .val (.int sa), .val (.int sb), .val (.int sc), .val (.int na), .val (.long (0 : Int64)), .second, .unset] [(.int ((sb.toUInt32 >>> ((6 : Int32) &&& 31).toUInt32).toInt32))]))
      refine Go.by (fun t k => XS.iloadN X0.here hx rfl (hb hby d4_41) rfl k) ?_
      show Go p e below _ (s₁.setTop (mkF m 42 #[.val (.ref ba), .val (.ref ga), .val (.int ww), .val (.int sa), .val (.int sb), .val (.int sc), .val (.int na), .val (.long (0 : Int64)), .second, .unset] [(.int ww), (.int ((sb.toUInt32 >>> ((6 : Int32) &&& 31).toUInt32).toInt32))]))
      by_cases hc33 : ((sb.toUInt32 >>> ((6 : Int32) &&& 31).toUInt32).toInt32) = ww
      · skip
        refine Go.by (fun t k => XS.icmpNo X0.here hx rfl (hb hby d4_42) rfl (teq hc33).2 k) ?_
        show Go p e below _ (s₁.setTop (mkF m 45 #[.val (.ref ba), .val (.ref ga), .val (.int ww), .val (.int sa), .val (.int sb), .val (.int sc), .val (.int na), .val (.long (0 : Int64)), .second, .unset] []))
        refine Go.by (fun t k => XS.lload X0.here hx rfl (hb hby d4_45) rfl k) ?_
        show Go p e below _ (s₁.setTop (mkF m 47 #[.val (.ref ba), .val (.ref ga), .val (.int ww), .val (.int sa), .val (.int sb), .val (.int sc), .val (.int na), .val (.long (0 : Int64)), .second, .unset] [(.long (0 : Int64))]))
        refine Go.by (fun t k => XS.lconst X0.here hx rfl (hb hby d4_47) k) ?_
        show Go p e below _ (s₁.setTop (mkF m 48 #[.val (.ref ba), .val (.ref ga), .val (.int ww), .val (.int sa), .val (.int sb), .val (.int sc), .val (.int na), .val (.long (0 : Int64)), .second, .unset] [(.long (1 : Int64)), (.long (0 : Int64))]))
        refine Go.by (fun t k => XS.iload X0.here hx rfl (hb hby d4_48) rfl k) ?_
        show Go p e below _ (s₁.setTop (mkF m 50 #[.val (.ref ba), .val (.ref ga), .val (.int ww), .val (.int sa), .val (.int sb), .val (.int sc), .val (.int na), .val (.long (0 : Int64)), .second, .unset] [(.int sb), (.long (1 : Int64)), (.long (0 : Int64))]))
        refine Go.by (fun t k => XS.lshl X0.here hx rfl (hb hby d4_50) rfl k) ?_
        show Go p e below _ (s₁.setTop (mkF m 51 #[.val (.ref ba), .val (.ref ga), .val (.int ww), .val (.int sa), .val (.int sb), .val (.int sc), .val (.int na), .val (.long (0 : Int64)), .second, .unset] [(.long ((1 : Int64) <<< (sb &&& 0x3f).toInt64)), (.long (0 : Int64))]))
        refine Go.by (fun t k => XS.lor X0.here hx rfl (hb hby d4_51) rfl k) ?_
        show Go p e below _ (s₁.setTop (mkF m 52 #[.val (.ref ba), .val (.ref ga), .val (.int ww), .val (.int sa), .val (.int sb), .val (.int sc), .val (.int na), .val (.long (0 : Int64)), .second, .unset] [(.long ((0 : Int64) ||| ((1 : Int64) <<< (sb &&& 0x3f).toInt64)))]))
        refine Go.by (fun t k => XS.lstore X0.here hx rfl (hb hby d4_52) rfl (l' := #[.val (.ref ba), .val (.ref ga), .val (.int ww), .val (.int sa), .val (.int sb), .val (.int sc), .val (.int na), .val (.long ((0 : Int64) ||| ((1 : Int64) <<< (sb &&& 0x3f).toInt64))), .second, .unset]) rfl k) ?_
        show Go p e below _ (s₁.setTop (mkF m 54 #[.val (.ref ba), .val (.ref ga), .val (.int ww), .val (.int sa), .val (.int sb), .val (.int sc), .val (.int na), .val (.long ((0 : Int64) ||| ((1 : Int64) <<< (sb &&& 0x3f).toInt64))), .second, .unset] []))
        refine Go.by (fun t k => XS.iload X0.here hx rfl (hb hby d4_54) rfl k) ?_
        show Go p e below _ (s₁.setTop (mkF m 56 #[.val (.ref ba), .val (.ref ga), .val (.int ww), .val (.int sa), .val (.int sb), .val (.int sc), .val (.int na), .val (.long ((0 : Int64) ||| ((1 : Int64) <<< (sb &&& 0x3f).toInt64))), .second, .unset] [(.int sc)]))
        refine Go.by (fun t k => XS.bipush X0.here hx rfl (hb hby d4_56) k) ?_
        show Go p e below _ (s₁.setTop (mkF m 58 #[.val (.ref ba), .val (.ref ga), .val (.int ww), .val (.int sa), .val (.int sb), .val (.int sc), .val (.int na), .val (.long ((0 : Int64) ||| ((1 : Int64) <<< (sb &&& 0x3f).toInt64))), .second, .unset] [(.int (6 : Int32)), (.int sc)]))
        refine Go.by (fun t k => XS.iushr X0.here hx rfl (hb hby d4_58) rfl k) ?_
        show Go p e below _ (s₁.setTop (mkF m 59 #[.val (.ref ba), .val (.ref ga), .val (.int ww), .val (.int sa), .val (.int sb), .val (.int sc), .val (.int na), .val (.long ((0 : Int64) ||| ((1 : Int64) <<< (sb &&& 0x3f).toInt64))), .second, .unset] [(.int ((sc.toUInt32 >>> ((6 : Int32) &&& 31).toUInt32).toInt32))]))
        refine Go.by (fun t k => XS.iloadN X0.here hx rfl (hb hby d4_59) rfl k) ?_
        show Go p e below _ (s₁.setTop (mkF m 60 #[.val (.ref ba), .val (.ref ga), .val (.int ww), .val (.int sa), .val (.int sb), .val (.int sc), .val (.int na), .val (.long ((0 : Int64) ||| ((1 : Int64) <<< (sb &&& 0x3f).toInt64))), .second, .unset] [(.int ww), (.int ((sc.toUInt32 >>> ((6 : Int32) &&& 31).toUInt32).toInt32))]))
        by_cases hc34 : ((sc.toUInt32 >>> ((6 : Int32) &&& 31).toUInt32).toInt32) = ww
        · skip
          refine Go.by (fun t k => XS.icmpNo X0.here hx rfl (hb hby d4_60) rfl (teq hc34).2 k) ?_
          show Go p e below _ (s₁.setTop (mkF m 63 #[.val (.ref ba), .val (.ref ga), .val (.int ww), .val (.int sa), .val (.int sb), .val (.int sc), .val (.int na), .val (.long ((0 : Int64) ||| ((1 : Int64) <<< (sb &&& 0x3f).toInt64))), .second, .unset] []))
          refine Go.by (fun t k => XS.lload X0.here hx rfl (hb hby d4_63) rfl k) ?_
          show Go p e below _ (s₁.setTop (mkF m 65 #[.val (.ref ba), .val (.ref ga), .val (.int ww), .val (.int sa), .val (.int sb), .val (.int sc), .val (.int na), .val (.long ((0 : Int64) ||| ((1 : Int64) <<< (sb &&& 0x3f).toInt64))), .second, .unset] [(.long ((0 : Int64) ||| ((1 : Int64) <<< (sb &&& 0x3f).toInt64)))]))
          refine Go.by (fun t k => XS.lconst X0.here hx rfl (hb hby d4_65) k) ?_
          show Go p e below _ (s₁.setTop (mkF m 66 #[.val (.ref ba), .val (.ref ga), .val (.int ww), .val (.int sa), .val (.int sb), .val (.int sc), .val (.int na), .val (.long ((0 : Int64) ||| ((1 : Int64) <<< (sb &&& 0x3f).toInt64))), .second, .unset] [(.long (1 : Int64)), (.long ((0 : Int64) ||| ((1 : Int64) <<< (sb &&& 0x3f).toInt64)))]))
          refine Go.by (fun t k => XS.iload X0.here hx rfl (hb hby d4_66) rfl k) ?_
          show Go p e below _ (s₁.setTop (mkF m 68 #[.val (.ref ba), .val (.ref ga), .val (.int ww), .val (.int sa), .val (.int sb), .val (.int sc), .val (.int na), .val (.long ((0 : Int64) ||| ((1 : Int64) <<< (sb &&& 0x3f).toInt64))), .second, .unset] [(.int sc), (.long (1 : Int64)), (.long ((0 : Int64) ||| ((1 : Int64) <<< (sb &&& 0x3f).toInt64)))]))
          refine Go.by (fun t k => XS.lshl X0.here hx rfl (hb hby d4_68) rfl k) ?_
          show Go p e below _ (s₁.setTop (mkF m 69 #[.val (.ref ba), .val (.ref ga), .val (.int ww), .val (.int sa), .val (.int sb), .val (.int sc), .val (.int na), .val (.long ((0 : Int64) ||| ((1 : Int64) <<< (sb &&& 0x3f).toInt64))), .second, .unset] [(.long ((1 : Int64) <<< (sc &&& 0x3f).toInt64)), (.long ((0 : Int64) ||| ((1 : Int64) <<< (sb &&& 0x3f).toInt64)))]))
          refine Go.by (fun t k => XS.lor X0.here hx rfl (hb hby d4_69) rfl k) ?_
          show Go p e below _ (s₁.setTop (mkF m 70 #[.val (.ref ba), .val (.ref ga), .val (.int ww), .val (.int sa), .val (.int sb), .val (.int sc), .val (.int na), .val (.long ((0 : Int64) ||| ((1 : Int64) <<< (sb &&& 0x3f).toInt64))), .second, .unset] [(.long (((0 : Int64) ||| ((1 : Int64) <<< (sb &&& 0x3f).toInt64)) ||| ((1 : Int64) <<< (sc &&& 0x3f).toInt64)))]))
          refine Go.by (fun t k => XS.lstore X0.here hx rfl (hb hby d4_70) rfl (l' := #[.val (.ref ba), .val (.ref ga), .val (.int ww), .val (.int sa), .val (.int sb), .val (.int sc), .val (.int na), .val (.long (((0 : Int64) ||| ((1 : Int64) <<< (sb &&& 0x3f).toInt64)) ||| ((1 : Int64) <<< (sc &&& 0x3f).toInt64))), .second, .unset]) rfl k) ?_
          show Go p e below _ (s₁.setTop (mkF m 72 #[.val (.ref ba), .val (.ref ga), .val (.int ww), .val (.int sa), .val (.int sb), .val (.int sc), .val (.int na), .val (.long (((0 : Int64) ||| ((1 : Int64) <<< (sb &&& 0x3f).toInt64)) ||| ((1 : Int64) <<< (sc &&& 0x3f).toInt64))), .second, .unset] []))
          refine Go.by (fun t k => XS.iloadN X0.here hx rfl (hb hby d4_72) rfl k) ?_
          show Go p e below _ (s₁.setTop (mkF m 73 #[.val (.ref ba), .val (.ref ga), .val (.int ww), .val (.int sa), .val (.int sb), .val (.int sc), .val (.int na), .val (.long (((0 : Int64) ||| ((1 : Int64) <<< (sb &&& 0x3f).toInt64)) ||| ((1 : Int64) <<< (sc &&& 0x3f).toInt64))), .second, .unset] [(.int sa)]))
          refine Go.by (fun t k => XS.bipush X0.here hx rfl (hb hby d4_73) k) ?_
          show Go p e below _ (s₁.setTop (mkF m 75 #[.val (.ref ba), .val (.ref ga), .val (.int ww), .val (.int sa), .val (.int sb), .val (.int sc), .val (.int na), .val (.long (((0 : Int64) ||| ((1 : Int64) <<< (sb &&& 0x3f).toInt64)) ||| ((1 : Int64) <<< (sc &&& 0x3f).toInt64))), .second, .unset] [(.int (6 : Int32)), (.int sa)]))
          refine Go.by (fun t k => XS.iushr X0.here hx rfl (hb hby d4_75) rfl k) ?_
          show Go p e below _ (s₁.setTop (mkF m 76 #[.val (.ref ba), .val (.ref ga), .val (.int ww), .val (.int sa), .val (.int sb), .val (.int sc), .val (.int na), .val (.long (((0 : Int64) ||| ((1 : Int64) <<< (sb &&& 0x3f).toInt64)) ||| ((1 : Int64) <<< (sc &&& 0x3f).toInt64))), .second, .unset] [(.int ((sa.toUInt32 >>> ((6 : Int32) &&& 31).toUInt32).toInt32))]))
          refine Go.by (fun t k => XS.iloadN X0.here hx rfl (hb hby d4_76) rfl k) ?_
          show Go p e below _ (s₁.setTop (mkF m 77 #[.val (.ref ba), .val (.ref ga), .val (.int ww), .val (.int sa), .val (.int sb), .val (.int sc), .val (.int na), .val (.long (((0 : Int64) ||| ((1 : Int64) <<< (sb &&& 0x3f).toInt64)) ||| ((1 : Int64) <<< (sc &&& 0x3f).toInt64))), .second, .unset] [(.int ww), (.int ((sa.toUInt32 >>> ((6 : Int32) &&& 31).toUInt32).toInt32))]))
          refine Go.by (fun t k => XS.icmpYes X0.here hx rfl (pc0 := 77) (pc' := 87) rfl (hb hby d4_77) rfl (feq hc5).2 (by decide) (by decide) k) ?_
          show Go p e below _ (s₁.setTop (mkF m 87 #[.val (.ref ba), .val (.ref ga), .val (.int ww), .val (.int sa), .val (.int sb), .val (.int sc), .val (.int na), .val (.long (((0 : Int64) ||| ((1 : Int64) <<< (sb &&& 0x3f).toInt64)) ||| ((1 : Int64) <<< (sc &&& 0x3f).toInt64))), .second, .unset] []))
          refine Go.by (fun t k => XS.iload X0.here hx rfl (hb hby d4_87) rfl k) ?_
          show Go p e below _ (s₁.setTop (mkF m 89 #[.val (.ref ba), .val (.ref ga), .val (.int ww), .val (.int sa), .val (.int sb), .val (.int sc), .val (.int na), .val (.long (((0 : Int64) ||| ((1 : Int64) <<< (sb &&& 0x3f).toInt64)) ||| ((1 : Int64) <<< (sc &&& 0x3f).toInt64))), .second, .unset] [(.int sb)]))
          refine Go.by (fun t k => XS.bipush X0.here hx rfl (hb hby d4_89) k) ?_
          show Go p e below _ (s₁.setTop (mkF m 91 #[.val (.ref ba), .val (.ref ga), .val (.int ww), .val (.int sa), .val (.int sb), .val (.int sc), .val (.int na), .val (.long (((0 : Int64) ||| ((1 : Int64) <<< (sb &&& 0x3f).toInt64)) ||| ((1 : Int64) <<< (sc &&& 0x3f).toInt64))), .second, .unset] [(.int (6 : Int32)), (.int sb)]))
          refine Go.by (fun t k => XS.iushr X0.here hx rfl (hb hby d4_91) rfl k) ?_
          show Go p e below _ (s₁.setTop (mkF m 92 #[.val (.ref ba), .val (.ref ga), .val (.int ww), .val (.int sa), .val (.int sb), .val (.int sc), .val (.int na), .val (.long (((0 : Int64) ||| ((1 : Int64) <<< (sb &&& 0x3f).toInt64)) ||| ((1 : Int64) <<< (sc &&& 0x3f).toInt64))), .second, .unset] [(.int ((sb.toUInt32 >>> ((6 : Int32) &&& 31).toUInt32).toInt32))]))
          refine Go.by (fun t k => XS.iloadN X0.here hx rfl (hb hby d4_92) rfl k) ?_
          show Go p e below _ (s₁.setTop (mkF m 93 #[.val (.ref ba), .val (.ref ga), .val (.int ww), .val (.int sa), .val (.int sb), .val (.int sc), .val (.int na), .val (.long (((0 : Int64) ||| ((1 : Int64) <<< (sb &&& 0x3f).toInt64)) ||| ((1 : Int64) <<< (sc &&& 0x3f).toInt64))), .second, .unset] [(.int ww), (.int ((sb.toUInt32 >>> ((6 : Int32) &&& 31).toUInt32).toInt32))]))
          refine Go.by (fun t k => XS.icmpNo X0.here hx rfl (hb hby d4_93) rfl (teq hc33).2 k) ?_
          show Go p e below _ (s₁.setTop (mkF m 96 #[.val (.ref ba), .val (.ref ga), .val (.int ww), .val (.int sa), .val (.int sb), .val (.int sc), .val (.int na), .val (.long (((0 : Int64) ||| ((1 : Int64) <<< (sb &&& 0x3f).toInt64)) ||| ((1 : Int64) <<< (sc &&& 0x3f).toInt64))), .second, .unset] []))
          refine Go.by (fun t k => XS.iload X0.here hx rfl (hb hby d4_96) rfl k) ?_
          show Go p e below _ (s₁.setTop (mkF m 98 #[.val (.ref ba), .val (.ref ga), .val (.int ww), .val (.int sa), .val (.int sb), .val (.int sc), .val (.int na), .val (.long (((0 : Int64) ||| ((1 : Int64) <<< (sb &&& 0x3f).toInt64)) ||| ((1 : Int64) <<< (sc &&& 0x3f).toInt64))), .second, .unset] [(.int na)]))
          refine Go.by (fun t k => XS.iconst X0.here hx rfl (hb hby d4_98) k) ?_
          show Go p e below _ (s₁.setTop (mkF m 99 #[.val (.ref ba), .val (.ref ga), .val (.int ww), .val (.int sa), .val (.int sb), .val (.int sc), .val (.int na), .val (.long (((0 : Int64) ||| ((1 : Int64) <<< (sb &&& 0x3f).toInt64)) ||| ((1 : Int64) <<< (sc &&& 0x3f).toInt64))), .second, .unset] [(.int (1 : Int32)), (.int na)]))
          refine Go.by (fun t k => XS.iadd X0.here hx rfl (hb hby d4_99) rfl k) ?_
          show Go p e below _ (s₁.setTop (mkF m 100 #[.val (.ref ba), .val (.ref ga), .val (.int ww), .val (.int sa), .val (.int sb), .val (.int sc), .val (.int na), .val (.long (((0 : Int64) ||| ((1 : Int64) <<< (sb &&& 0x3f).toInt64)) ||| ((1 : Int64) <<< (sc &&& 0x3f).toInt64))), .second, .unset] [(.int (na + (1 : Int32)))]))
          refine Go.by (fun t k => XS.istore X0.here hx rfl (hb hby d4_100) rfl (l' := #[.val (.ref ba), .val (.ref ga), .val (.int ww), .val (.int sa), .val (.int sb), .val (.int sc), .val (.int na), .val (.long (((0 : Int64) ||| ((1 : Int64) <<< (sb &&& 0x3f).toInt64)) ||| ((1 : Int64) <<< (sc &&& 0x3f).toInt64))), .second, .val (.int (na + (1 : Int32)))]) rfl k) ?_
          show Go p e below _ (s₁.setTop (mkF m 102 #[.val (.ref ba), .val (.ref ga), .val (.int ww), .val (.int sa), .val (.int sb), .val (.int sc), .val (.int na), .val (.long (((0 : Int64) ||| ((1 : Int64) <<< (sb &&& 0x3f).toInt64)) ||| ((1 : Int64) <<< (sc &&& 0x3f).toInt64))), .second, .val (.int (na + (1 : Int32)))] []))
          refine Go.by (fun t k => XS.goto X0.here hx rfl (pc0 := 102) (pc' := 126) rfl (hb hby d4_102) (by decide) (by decide) k) ?_
          show Go p e below _ (s₁.setTop (mkF m 126 #[.val (.ref ba), .val (.ref ga), .val (.int ww), .val (.int sa), .val (.int sb), .val (.int sc), .val (.int na), .val (.long (((0 : Int64) ||| ((1 : Int64) <<< (sb &&& 0x3f).toInt64)) ||| ((1 : Int64) <<< (sc &&& 0x3f).toInt64))), .second, .val (.int (na + (1 : Int32)))] []))
          refine Go.by (fun t k => XS.aloadN X0.here hx rfl (hb hby d4_126) rfl rfl k) ?_
          show Go p e below _ (s₁.setTop (mkF m 127 #[.val (.ref ba), .val (.ref ga), .val (.int ww), .val (.int sa), .val (.int sb), .val (.int sc), .val (.int na), .val (.long (((0 : Int64) ||| ((1 : Int64) <<< (sb &&& 0x3f).toInt64)) ||| ((1 : Int64) <<< (sc &&& 0x3f).toInt64))), .second, .val (.int (na + (1 : Int32)))] [(.ref ba)]))
          refine Go.by (fun t k => XS.iloadN X0.here hx rfl (hb hby d4_127) rfl k) ?_
          show Go p e below _ (s₁.setTop (mkF m 128 #[.val (.ref ba), .val (.ref ga), .val (.int ww), .val (.int sa), .val (.int sb), .val (.int sc), .val (.int na), .val (.long (((0 : Int64) ||| ((1 : Int64) <<< (sb &&& 0x3f).toInt64)) ||| ((1 : Int64) <<< (sc &&& 0x3f).toInt64))), .second, .val (.int (na + (1 : Int32)))] [(.int ww), (.ref ba)]))
          obtain ⟨_, vs35, ⟨cl35, Ar35, qk35, sz35, nn35, Ha35, Gf35⟩, ln35, fn35⟩ := id P0
          have hin36 : ¬ (ww < 0 ∨ cl35.slots.size ≤ (ww).toNatClampNeg) := inb_of sz35 ⟨hw0, hc2⟩
          have hat37 : cl35.slots[(ww).toNatClampNeg]? = some (.long (fu (ww).toNatClampNeg)) := Has.at Ha35 hin36 (fn35 _ (by have q := hin36; have := sz35; omega))
          refine Go.by (fun t k => X0.laload hx (j := ww) (v := (.long (fu (ww).toNatClampNeg))) (by rw [e0]; exact Ar35.1) (State.isArrayOf_alike hZ.alike Ar35.2.1) Ar35.2.2 hin36 hat37 (g := (mkF m 128 #[.val (.ref ba), .val (.ref ga), .val (.int ww), .val (.int sa), .val (.int sb), .val (.int sc), .val (.int na), .val (.long (((0 : Int64) ||| ((1 : Int64) <<< (sb &&& 0x3f).toInt64)) ||| ((1 : Int64) <<< (sc &&& 0x3f).toInt64))), .second, .val (.int (na + (1 : Int32)))] [(.int ww), (.ref ba)])) rfl rfl (hb hby d4_128) t k) ?_
          show Go p e below _ (s₁.setTop (mkF m 129 #[.val (.ref ba), .val (.ref ga), .val (.int ww), .val (.int sa), .val (.int sb), .val (.int sc), .val (.int na), .val (.long (((0 : Int64) ||| ((1 : Int64) <<< (sb &&& 0x3f).toInt64)) ||| ((1 : Int64) <<< (sc &&& 0x3f).toInt64))), .second, .val (.int (na + (1 : Int32)))] [(.long (fu (ww).toNatClampNeg))]))
          refine Go.by (fun t k => XS.lload X0.here hx rfl (hb hby d4_129) rfl k) ?_
          show Go p e below _ (s₁.setTop (mkF m 131 #[.val (.ref ba), .val (.ref ga), .val (.int ww), .val (.int sa), .val (.int sb), .val (.int sc), .val (.int na), .val (.long (((0 : Int64) ||| ((1 : Int64) <<< (sb &&& 0x3f).toInt64)) ||| ((1 : Int64) <<< (sc &&& 0x3f).toInt64))), .second, .val (.int (na + (1 : Int32)))] [(.long (((0 : Int64) ||| ((1 : Int64) <<< (sb &&& 0x3f).toInt64)) ||| ((1 : Int64) <<< (sc &&& 0x3f).toInt64))), (.long (fu (ww).toNatClampNeg))]))
          refine Go.by (fun t k => XS.lcmp X0.here hx rfl (hb hby d4_131) rfl k) ?_
          show Go p e below _ (s₁.setTop (mkF m 132 #[.val (.ref ba), .val (.ref ga), .val (.int ww), .val (.int sa), .val (.int sb), .val (.int sc), .val (.int na), .val (.long (((0 : Int64) ||| ((1 : Int64) <<< (sb &&& 0x3f).toInt64)) ||| ((1 : Int64) <<< (sc &&& 0x3f).toInt64))), .second, .val (.int (na + (1 : Int32)))] [(.int (lcmpW (fu (ww).toNatClampNeg) (((0 : Int64) ||| ((1 : Int64) <<< (sb &&& 0x3f).toInt64)) ||| ((1 : Int64) <<< (sc &&& 0x3f).toInt64))))]))
          refine Go.by (fun t k => XS.ifNo X0.here hx rfl (hb hby d4_132) rfl ((if0 _ _).trans (teq ((lw_eq (fu (ww).toNatClampNeg) (((0 : Int64) ||| ((1 : Int64) <<< (sb &&& 0x3f).toInt64)) ||| ((1 : Int64) <<< (sc &&& 0x3f).toInt64))).mpr (by rw [hB hc2]; simp only [own_expB, if_neg (show ¬ own_w sa = ww from hc5), if_pos (show own_w sb = ww from hc33), if_pos (show own_w sc = ww from hc34)] <;> rfl))).2) k) ?_
          show Go p e below _ (s₁.setTop (mkF m 135 #[.val (.ref ba), .val (.ref ga), .val (.int ww), .val (.int sa), .val (.int sb), .val (.int sc), .val (.int na), .val (.long (((0 : Int64) ||| ((1 : Int64) <<< (sb &&& 0x3f).toInt64)) ||| ((1 : Int64) <<< (sc &&& 0x3f).toInt64))), .second, .val (.int (na + (1 : Int32)))] []))
          refine Go.by (fun t k => XS.aloadN X0.here hx rfl (hb hby d4_135) rfl rfl k) ?_
          show Go p e below _ (s₁.setTop (mkF m 136 #[.val (.ref ba), .val (.ref ga), .val (.int ww), .val (.int sa), .val (.int sb), .val (.int sc), .val (.int na), .val (.long (((0 : Int64) ||| ((1 : Int64) <<< (sb &&& 0x3f).toInt64)) ||| ((1 : Int64) <<< (sc &&& 0x3f).toInt64))), .second, .val (.int (na + (1 : Int32)))] [(.ref ga)]))
          refine Go.by (fun t k => XS.iloadN X0.here hx rfl (hb hby d4_136) rfl k) ?_
          show Go p e below _ (s₁.setTop (mkF m 137 #[.val (.ref ba), .val (.ref ga), .val (.int ww), .val (.int sa), .val (.int sb), .val (.int sc), .val (.int na), .val (.long (((0 : Int64) ||| ((1 : Int64) <<< (sb &&& 0x3f).toInt64)) ||| ((1 : Int64) <<< (sc &&& 0x3f).toInt64))), .second, .val (.int (na + (1 : Int32)))] [(.int ww), (.ref ga)]))
          obtain ⟨_, vs38, ⟨cl38, Ar38, qk38, sz38, nn38, Ha38, Gf38⟩, ln38, fn38⟩ := id P1
          have hin39 : ¬ (ww < 0 ∨ cl38.slots.size ≤ (ww).toNatClampNeg) := inb_of sz38 ⟨hw0, hc2⟩
          have hat40 : cl38.slots[(ww).toNatClampNeg]? = some (.int (gu (ww).toNatClampNeg)) := Has.at Ha38 hin39 (fn38 _ (by have q := hin39; have := sz38; omega))
          refine Go.by (fun t k => X0.iaload hx (j := ww) (v := (.int (gu (ww).toNatClampNeg))) (by rw [e0]; exact Ar38.1) (State.isArrayOf_alike hZ.alike Ar38.2.1) Ar38.2.2 hin39 hat40 (g := (mkF m 137 #[.val (.ref ba), .val (.ref ga), .val (.int ww), .val (.int sa), .val (.int sb), .val (.int sc), .val (.int na), .val (.long (((0 : Int64) ||| ((1 : Int64) <<< (sb &&& 0x3f).toInt64)) ||| ((1 : Int64) <<< (sc &&& 0x3f).toInt64))), .second, .val (.int (na + (1 : Int32)))] [(.int ww), (.ref ga)])) rfl rfl (hb hby d4_137) t k) ?_
          show Go p e below _ (s₁.setTop (mkF m 138 #[.val (.ref ba), .val (.ref ga), .val (.int ww), .val (.int sa), .val (.int sb), .val (.int sc), .val (.int na), .val (.long (((0 : Int64) ||| ((1 : Int64) <<< (sb &&& 0x3f).toInt64)) ||| ((1 : Int64) <<< (sc &&& 0x3f).toInt64))), .second, .val (.int (na + (1 : Int32)))] [(.int (gu (ww).toNatClampNeg))]))
          refine Go.by (fun t k => XS.iload X0.here hx rfl (hb hby d4_138) rfl k) ?_
          show Go p e below _ (s₁.setTop (mkF m 140 #[.val (.ref ba), .val (.ref ga), .val (.int ww), .val (.int sa), .val (.int sb), .val (.int sc), .val (.int na), .val (.long (((0 : Int64) ||| ((1 : Int64) <<< (sb &&& 0x3f).toInt64)) ||| ((1 : Int64) <<< (sc &&& 0x3f).toInt64))), .second, .val (.int (na + (1 : Int32)))] [(.int (na + (1 : Int32))), (.int (gu (ww).toNatClampNeg))]))
          refine Go.by (fun t k => XS.icmpNo X0.here hx rfl (hb hby d4_140) rfl (teq (by rw [hF hc2]; simp only [own_expF, if_neg (show ¬ own_w sa = ww from hc5), if_pos (show own_w sb = ww from hc33), if_pos (show own_w sc = ww from hc34)] <;> rfl)).2 k) ?_
          show Go p e below _ (s₁.setTop (mkF m 143 #[.val (.ref ba), .val (.ref ga), .val (.int ww), .val (.int sa), .val (.int sb), .val (.int sc), .val (.int na), .val (.long (((0 : Int64) ||| ((1 : Int64) <<< (sb &&& 0x3f).toInt64)) ||| ((1 : Int64) <<< (sc &&& 0x3f).toInt64))), .second, .val (.int (na + (1 : Int32)))] []))
          refine Go.by (fun t k => XS.iconst X0.here hx rfl (hb hby d4_143) k) ?_
          show Go p e below _ (s₁.setTop (mkF m 144 #[.val (.ref ba), .val (.ref ga), .val (.int ww), .val (.int sa), .val (.int sb), .val (.int sc), .val (.int na), .val (.long (((0 : Int64) ||| ((1 : Int64) <<< (sb &&& 0x3f).toInt64)) ||| ((1 : Int64) <<< (sc &&& 0x3f).toInt64))), .second, .val (.int (na + (1 : Int32)))] [(.int (1 : Int32))]))
          refine Go.by (fun t k => XS.goto X0.here hx rfl (pc0 := 144) (pc' := 148) rfl (hb hby d4_144) (by decide) (by decide) k) ?_
          show Go p e below _ (s₁.setTop (mkF m 148 #[.val (.ref ba), .val (.ref ga), .val (.int ww), .val (.int sa), .val (.int sb), .val (.int sc), .val (.int na), .val (.long (((0 : Int64) ||| ((1 : Int64) <<< (sb &&& 0x3f).toInt64)) ||| ((1 : Int64) <<< (sc &&& 0x3f).toInt64))), .second, .val (.int (na + (1 : Int32)))] [(.int (1 : Int32))]))
          have hq : Q_wordOk Z ba ga ww sa sb sc na zz fu gu h0 n0 (some (.int (nar .boolean (1 : Int32)))) h0 _ := ⟨rfl, N0, rfl⟩
          exact Go.retN X0 hx (t := .boolean) Bd.returns (by simp) hlk (hb hby d4_148) (by decide) (by decide) (by rw [e0]; exact hq)
        · skip
          refine Go.by (fun t k => XS.icmpYes X0.here hx rfl (pc0 := 60) (pc' := 72) rfl (hb hby d4_60) rfl (feq hc34).2 (by decide) (by decide) k) ?_
          show Go p e below _ (s₁.setTop (mkF m 72 #[.val (.ref ba), .val (.ref ga), .val (.int ww), .val (.int sa), .val (.int sb), .val (.int sc), .val (.int na), .val (.long ((0 : Int64) ||| ((1 : Int64) <<< (sb &&& 0x3f).toInt64))), .second, .unset] []))
          refine Go.by (fun t k => XS.iloadN X0.here hx rfl (hb hby d4_72) rfl k) ?_
          show Go p e below _ (s₁.setTop (mkF m 73 #[.val (.ref ba), .val (.ref ga), .val (.int ww), .val (.int sa), .val (.int sb), .val (.int sc), .val (.int na), .val (.long ((0 : Int64) ||| ((1 : Int64) <<< (sb &&& 0x3f).toInt64))), .second, .unset] [(.int sa)]))
          refine Go.by (fun t k => XS.bipush X0.here hx rfl (hb hby d4_73) k) ?_
          show Go p e below _ (s₁.setTop (mkF m 75 #[.val (.ref ba), .val (.ref ga), .val (.int ww), .val (.int sa), .val (.int sb), .val (.int sc), .val (.int na), .val (.long ((0 : Int64) ||| ((1 : Int64) <<< (sb &&& 0x3f).toInt64))), .second, .unset] [(.int (6 : Int32)), (.int sa)]))
          refine Go.by (fun t k => XS.iushr X0.here hx rfl (hb hby d4_75) rfl k) ?_
          show Go p e below _ (s₁.setTop (mkF m 76 #[.val (.ref ba), .val (.ref ga), .val (.int ww), .val (.int sa), .val (.int sb), .val (.int sc), .val (.int na), .val (.long ((0 : Int64) ||| ((1 : Int64) <<< (sb &&& 0x3f).toInt64))), .second, .unset] [(.int ((sa.toUInt32 >>> ((6 : Int32) &&& 31).toUInt32).toInt32))]))
          refine Go.by (fun t k => XS.iloadN X0.here hx rfl (hb hby d4_76) rfl k) ?_
          show Go p e below _ (s₁.setTop (mkF m 77 #[.val (.ref ba), .val (.ref ga), .val (.int ww), .val (.int sa), .val (.int sb), .val (.int sc), .val (.int na), .val (.long ((0 : Int64) ||| ((1 : Int64) <<< (sb &&& 0x3f).toInt64))), .second, .unset] [(.int ww), (.int ((sa.toUInt32 >>> ((6 : Int32) &&& 31).toUInt32).toInt32))]))
          refine Go.by (fun t k => XS.icmpYes X0.here hx rfl (pc0 := 77) (pc' := 87) rfl (hb hby d4_77) rfl (feq hc5).2 (by decide) (by decide) k) ?_
          show Go p e below _ (s₁.setTop (mkF m 87 #[.val (.ref ba), .val (.ref ga), .val (.int ww), .val (.int sa), .val (.int sb), .val (.int sc), .val (.int na), .val (.long ((0 : Int64) ||| ((1 : Int64) <<< (sb &&& 0x3f).toInt64))), .second, .unset] []))
          refine Go.by (fun t k => XS.iload X0.here hx rfl (hb hby d4_87) rfl k) ?_
          show Go p e below _ (s₁.setTop (mkF m 89 #[.val (.ref ba), .val (.ref ga), .val (.int ww), .val (.int sa), .val (.int sb), .val (.int sc), .val (.int na), .val (.long ((0 : Int64) ||| ((1 : Int64) <<< (sb &&& 0x3f).toInt64))), .second, .unset] [(.int sb)]))
          refine Go.by (fun t k => XS.bipush X0.here hx rfl (hb hby d4_89) k) ?_
          show Go p e below _ (s₁.setTop (mkF m 91 #[.val (.ref ba), .val (.ref ga), .val (.int ww), .val (.int sa), .val (.int sb), .val (.int sc), .val (.int na), .val (.long ((0 : Int64) ||| ((1 : Int64) <<< (sb &&& 0x3f).toInt64))), .second, .unset] [(.int (6 : Int32)), (.int sb)]))
          refine Go.by (fun t k => XS.iushr X0.here hx rfl (hb hby d4_91) rfl k) ?_
          show Go p e below _ (s₁.setTop (mkF m 92 #[.val (.ref ba), .val (.ref ga), .val (.int ww), .val (.int sa), .val (.int sb), .val (.int sc), .val (.int na), .val (.long ((0 : Int64) ||| ((1 : Int64) <<< (sb &&& 0x3f).toInt64))), .second, .unset] [(.int ((sb.toUInt32 >>> ((6 : Int32) &&& 31).toUInt32).toInt32))]))
          refine Go.by (fun t k => XS.iloadN X0.here hx rfl (hb hby d4_92) rfl k) ?_
          show Go p e below _ (s₁.setTop (mkF m 93 #[.val (.ref ba), .val (.ref ga), .val (.int ww), .val (.int sa), .val (.int sb), .val (.int sc), .val (.int na), .val (.long ((0 : Int64) ||| ((1 : Int64) <<< (sb &&& 0x3f).toInt64))), .second, .unset] [(.int ww), (.int ((sb.toUInt32 >>> ((6 : Int32) &&& 31).toUInt32).toInt32))]))
          refine Go.by (fun t k => XS.icmpNo X0.here hx rfl (hb hby d4_93) rfl (teq hc33).2 k) ?_
          show Go p e below _ (s₁.setTop (mkF m 96 #[.val (.ref ba), .val (.ref ga), .val (.int ww), .val (.int sa), .val (.int sb), .val (.int sc), .val (.int na), .val (.long ((0 : Int64) ||| ((1 : Int64) <<< (sb &&& 0x3f).toInt64))), .second, .unset] []))
          refine Go.by (fun t k => XS.iload X0.here hx rfl (hb hby d4_96) rfl k) ?_
          show Go p e below _ (s₁.setTop (mkF m 98 #[.val (.ref ba), .val (.ref ga), .val (.int ww), .val (.int sa), .val (.int sb), .val (.int sc), .val (.int na), .val (.long ((0 : Int64) ||| ((1 : Int64) <<< (sb &&& 0x3f).toInt64))), .second, .unset] [(.int na)]))
          refine Go.by (fun t k => XS.iconst X0.here hx rfl (hb hby d4_98) k) ?_
          show Go p e below _ (s₁.setTop (mkF m 99 #[.val (.ref ba), .val (.ref ga), .val (.int ww), .val (.int sa), .val (.int sb), .val (.int sc), .val (.int na), .val (.long ((0 : Int64) ||| ((1 : Int64) <<< (sb &&& 0x3f).toInt64))), .second, .unset] [(.int (1 : Int32)), (.int na)]))
          refine Go.by (fun t k => XS.iadd X0.here hx rfl (hb hby d4_99) rfl k) ?_
          show Go p e below _ (s₁.setTop (mkF m 100 #[.val (.ref ba), .val (.ref ga), .val (.int ww), .val (.int sa), .val (.int sb), .val (.int sc), .val (.int na), .val (.long ((0 : Int64) ||| ((1 : Int64) <<< (sb &&& 0x3f).toInt64))), .second, .unset] [(.int (na + (1 : Int32)))]))
          refine Go.by (fun t k => XS.istore X0.here hx rfl (hb hby d4_100) rfl (l' := #[.val (.ref ba), .val (.ref ga), .val (.int ww), .val (.int sa), .val (.int sb), .val (.int sc), .val (.int na), .val (.long ((0 : Int64) ||| ((1 : Int64) <<< (sb &&& 0x3f).toInt64))), .second, .val (.int (na + (1 : Int32)))]) rfl k) ?_
          show Go p e below _ (s₁.setTop (mkF m 102 #[.val (.ref ba), .val (.ref ga), .val (.int ww), .val (.int sa), .val (.int sb), .val (.int sc), .val (.int na), .val (.long ((0 : Int64) ||| ((1 : Int64) <<< (sb &&& 0x3f).toInt64))), .second, .val (.int (na + (1 : Int32)))] []))
          refine Go.by (fun t k => XS.goto X0.here hx rfl (pc0 := 102) (pc' := 126) rfl (hb hby d4_102) (by decide) (by decide) k) ?_
          show Go p e below _ (s₁.setTop (mkF m 126 #[.val (.ref ba), .val (.ref ga), .val (.int ww), .val (.int sa), .val (.int sb), .val (.int sc), .val (.int na), .val (.long ((0 : Int64) ||| ((1 : Int64) <<< (sb &&& 0x3f).toInt64))), .second, .val (.int (na + (1 : Int32)))] []))
          refine Go.by (fun t k => XS.aloadN X0.here hx rfl (hb hby d4_126) rfl rfl k) ?_
          show Go p e below _ (s₁.setTop (mkF m 127 #[.val (.ref ba), .val (.ref ga), .val (.int ww), .val (.int sa), .val (.int sb), .val (.int sc), .val (.int na), .val (.long ((0 : Int64) ||| ((1 : Int64) <<< (sb &&& 0x3f).toInt64))), .second, .val (.int (na + (1 : Int32)))] [(.ref ba)]))
          refine Go.by (fun t k => XS.iloadN X0.here hx rfl (hb hby d4_127) rfl k) ?_
          show Go p e below _ (s₁.setTop (mkF m 128 #[.val (.ref ba), .val (.ref ga), .val (.int ww), .val (.int sa), .val (.int sb), .val (.int sc), .val (.int na), .val (.long ((0 : Int64) ||| ((1 : Int64) <<< (sb &&& 0x3f).toInt64))), .second, .val (.int (na + (1 : Int32)))] [(.int ww), (.ref ba)]))
          obtain ⟨_, vs41, ⟨cl41, Ar41, qk41, sz41, nn41, Ha41, Gf41⟩, ln41, fn41⟩ := id P0
          have hin42 : ¬ (ww < 0 ∨ cl41.slots.size ≤ (ww).toNatClampNeg) := inb_of sz41 ⟨hw0, hc2⟩
          have hat43 : cl41.slots[(ww).toNatClampNeg]? = some (.long (fu (ww).toNatClampNeg)) := Has.at Ha41 hin42 (fn41 _ (by have q := hin42; have := sz41; omega))
          refine Go.by (fun t k => X0.laload hx (j := ww) (v := (.long (fu (ww).toNatClampNeg))) (by rw [e0]; exact Ar41.1) (State.isArrayOf_alike hZ.alike Ar41.2.1) Ar41.2.2 hin42 hat43 (g := (mkF m 128 #[.val (.ref ba), .val (.ref ga), .val (.int ww), .val (.int sa), .val (.int sb), .val (.int sc), .val (.int na), .val (.long ((0 : Int64) ||| ((1 : Int64) <<< (sb &&& 0x3f).toInt64))), .second, .val (.int (na + (1 : Int32)))] [(.int ww), (.ref ba)])) rfl rfl (hb hby d4_128) t k) ?_
          show Go p e below _ (s₁.setTop (mkF m 129 #[.val (.ref ba), .val (.ref ga), .val (.int ww), .val (.int sa), .val (.int sb), .val (.int sc), .val (.int na), .val (.long ((0 : Int64) ||| ((1 : Int64) <<< (sb &&& 0x3f).toInt64))), .second, .val (.int (na + (1 : Int32)))] [(.long (fu (ww).toNatClampNeg))]))
          refine Go.by (fun t k => XS.lload X0.here hx rfl (hb hby d4_129) rfl k) ?_
          show Go p e below _ (s₁.setTop (mkF m 131 #[.val (.ref ba), .val (.ref ga), .val (.int ww), .val (.int sa), .val (.int sb), .val (.int sc), .val (.int na), .val (.long ((0 : Int64) ||| ((1 : Int64) <<< (sb &&& 0x3f).toInt64))), .second, .val (.int (na + (1 : Int32)))] [(.long ((0 : Int64) ||| ((1 : Int64) <<< (sb &&& 0x3f).toInt64))), (.long (fu (ww).toNatClampNeg))]))
          refine Go.by (fun t k => XS.lcmp X0.here hx rfl (hb hby d4_131) rfl k) ?_
          show Go p e below _ (s₁.setTop (mkF m 132 #[.val (.ref ba), .val (.ref ga), .val (.int ww), .val (.int sa), .val (.int sb), .val (.int sc), .val (.int na), .val (.long ((0 : Int64) ||| ((1 : Int64) <<< (sb &&& 0x3f).toInt64))), .second, .val (.int (na + (1 : Int32)))] [(.int (lcmpW (fu (ww).toNatClampNeg) ((0 : Int64) ||| ((1 : Int64) <<< (sb &&& 0x3f).toInt64))))]))
          refine Go.by (fun t k => XS.ifNo X0.here hx rfl (hb hby d4_132) rfl ((if0 _ _).trans (teq ((lw_eq (fu (ww).toNatClampNeg) ((0 : Int64) ||| ((1 : Int64) <<< (sb &&& 0x3f).toInt64))).mpr (by rw [hB hc2]; simp only [own_expB, if_neg (show ¬ own_w sa = ww from hc5), if_pos (show own_w sb = ww from hc33), if_neg (show ¬ own_w sc = ww from hc34)] <;> rfl))).2) k) ?_
          show Go p e below _ (s₁.setTop (mkF m 135 #[.val (.ref ba), .val (.ref ga), .val (.int ww), .val (.int sa), .val (.int sb), .val (.int sc), .val (.int na), .val (.long ((0 : Int64) ||| ((1 : Int64) <<< (sb &&& 0x3f).toInt64))), .second, .val (.int (na + (1 : Int32)))] []))
          refine Go.by (fun t k => XS.aloadN X0.here hx rfl (hb hby d4_135) rfl rfl k) ?_
          show Go p e below _ (s₁.setTop (mkF m 136 #[.val (.ref ba), .val (.ref ga), .val (.int ww), .val (.int sa), .val (.int sb), .val (.int sc), .val (.int na), .val (.long ((0 : Int64) ||| ((1 : Int64) <<< (sb &&& 0x3f).toInt64))), .second, .val (.int (na + (1 : Int32)))] [(.ref ga)]))
          refine Go.by (fun t k => XS.iloadN X0.here hx rfl (hb hby d4_136) rfl k) ?_
          show Go p e below _ (s₁.setTop (mkF m 137 #[.val (.ref ba), .val (.ref ga), .val (.int ww), .val (.int sa), .val (.int sb), .val (.int sc), .val (.int na), .val (.long ((0 : Int64) ||| ((1 : Int64) <<< (sb &&& 0x3f).toInt64))), .second, .val (.int (na + (1 : Int32)))] [(.int ww), (.ref ga)]))
          obtain ⟨_, vs44, ⟨cl44, Ar44, qk44, sz44, nn44, Ha44, Gf44⟩, ln44, fn44⟩ := id P1
          have hin45 : ¬ (ww < 0 ∨ cl44.slots.size ≤ (ww).toNatClampNeg) := inb_of sz44 ⟨hw0, hc2⟩
          have hat46 : cl44.slots[(ww).toNatClampNeg]? = some (.int (gu (ww).toNatClampNeg)) := Has.at Ha44 hin45 (fn44 _ (by have q := hin45; have := sz44; omega))
          refine Go.by (fun t k => X0.iaload hx (j := ww) (v := (.int (gu (ww).toNatClampNeg))) (by rw [e0]; exact Ar44.1) (State.isArrayOf_alike hZ.alike Ar44.2.1) Ar44.2.2 hin45 hat46 (g := (mkF m 137 #[.val (.ref ba), .val (.ref ga), .val (.int ww), .val (.int sa), .val (.int sb), .val (.int sc), .val (.int na), .val (.long ((0 : Int64) ||| ((1 : Int64) <<< (sb &&& 0x3f).toInt64))), .second, .val (.int (na + (1 : Int32)))] [(.int ww), (.ref ga)])) rfl rfl (hb hby d4_137) t k) ?_
          show Go p e below _ (s₁.setTop (mkF m 138 #[.val (.ref ba), .val (.ref ga), .val (.int ww), .val (.int sa), .val (.int sb), .val (.int sc), .val (.int na), .val (.long ((0 : Int64) ||| ((1 : Int64) <<< (sb &&& 0x3f).toInt64))), .second, .val (.int (na + (1 : Int32)))] [(.int (gu (ww).toNatClampNeg))]))
          refine Go.by (fun t k => XS.iload X0.here hx rfl (hb hby d4_138) rfl k) ?_
          show Go p e below _ (s₁.setTop (mkF m 140 #[.val (.ref ba), .val (.ref ga), .val (.int ww), .val (.int sa), .val (.int sb), .val (.int sc), .val (.int na), .val (.long ((0 : Int64) ||| ((1 : Int64) <<< (sb &&& 0x3f).toInt64))), .second, .val (.int (na + (1 : Int32)))] [(.int (na + (1 : Int32))), (.int (gu (ww).toNatClampNeg))]))
          refine Go.by (fun t k => XS.icmpNo X0.here hx rfl (hb hby d4_140) rfl (teq (by rw [hF hc2]; simp only [own_expF, if_neg (show ¬ own_w sa = ww from hc5), if_pos (show own_w sb = ww from hc33), if_neg (show ¬ own_w sc = ww from hc34)] <;> rfl)).2 k) ?_
          show Go p e below _ (s₁.setTop (mkF m 143 #[.val (.ref ba), .val (.ref ga), .val (.int ww), .val (.int sa), .val (.int sb), .val (.int sc), .val (.int na), .val (.long ((0 : Int64) ||| ((1 : Int64) <<< (sb &&& 0x3f).toInt64))), .second, .val (.int (na + (1 : Int32)))] []))
          refine Go.by (fun t k => XS.iconst X0.here hx rfl (hb hby d4_143) k) ?_
          show Go p e below _ (s₁.setTop (mkF m 144 #[.val (.ref ba), .val (.ref ga), .val (.int ww), .val (.int sa), .val (.int sb), .val (.int sc), .val (.int na), .val (.long ((0 : Int64) ||| ((1 : Int64) <<< (sb &&& 0x3f).toInt64))), .second, .val (.int (na + (1 : Int32)))] [(.int (1 : Int32))]))
          refine Go.by (fun t k => XS.goto X0.here hx rfl (pc0 := 144) (pc' := 148) rfl (hb hby d4_144) (by decide) (by decide) k) ?_
          show Go p e below _ (s₁.setTop (mkF m 148 #[.val (.ref ba), .val (.ref ga), .val (.int ww), .val (.int sa), .val (.int sb), .val (.int sc), .val (.int na), .val (.long ((0 : Int64) ||| ((1 : Int64) <<< (sb &&& 0x3f).toInt64))), .second, .val (.int (na + (1 : Int32)))] [(.int (1 : Int32))]))
          have hq : Q_wordOk Z ba ga ww sa sb sc na zz fu gu h0 n0 (some (.int (nar .boolean (1 : Int32)))) h0 _ := ⟨rfl, N0, rfl⟩
          exact Go.retN X0 hx (t := .boolean) Bd.returns (by simp) hlk (hb hby d4_148) (by decide) (by decide) (by rw [e0]; exact hq)
      · skip
        refine Go.by (fun t k => XS.icmpYes X0.here hx rfl (pc0 := 42) (pc' := 54) rfl (hb hby d4_42) rfl (feq hc33).2 (by decide) (by decide) k) ?_
        show Go p e below _ (s₁.setTop (mkF m 54 #[.val (.ref ba), .val (.ref ga), .val (.int ww), .val (.int sa), .val (.int sb), .val (.int sc), .val (.int na), .val (.long (0 : Int64)), .second, .unset] []))
        refine Go.by (fun t k => XS.iload X0.here hx rfl (hb hby d4_54) rfl k) ?_
        show Go p e below _ (s₁.setTop (mkF m 56 #[.val (.ref ba), .val (.ref ga), .val (.int ww), .val (.int sa), .val (.int sb), .val (.int sc), .val (.int na), .val (.long (0 : Int64)), .second, .unset] [(.int sc)]))
        refine Go.by (fun t k => XS.bipush X0.here hx rfl (hb hby d4_56) k) ?_
        show Go p e below _ (s₁.setTop (mkF m 58 #[.val (.ref ba), .val (.ref ga), .val (.int ww), .val (.int sa), .val (.int sb), .val (.int sc), .val (.int na), .val (.long (0 : Int64)), .second, .unset] [(.int (6 : Int32)), (.int sc)]))
        refine Go.by (fun t k => XS.iushr X0.here hx rfl (hb hby d4_58) rfl k) ?_
        show Go p e below _ (s₁.setTop (mkF m 59 #[.val (.ref ba), .val (.ref ga), .val (.int ww), .val (.int sa), .val (.int sb), .val (.int sc), .val (.int na), .val (.long (0 : Int64)), .second, .unset] [(.int ((sc.toUInt32 >>> ((6 : Int32) &&& 31).toUInt32).toInt32))]))
        refine Go.by (fun t k => XS.iloadN X0.here hx rfl (hb hby d4_59) rfl k) ?_
        show Go p e below _ (s₁.setTop (mkF m 60 #[.val (.ref ba), .val (.ref ga), .val (.int ww), .val (.int sa), .val (.int sb), .val (.int sc), .val (.int na), .val (.long (0 : Int64)), .second, .unset] [(.int ww), (.int ((sc.toUInt32 >>> ((6 : Int32) &&& 31).toUInt32).toInt32))]))
        by_cases hc47 : ((sc.toUInt32 >>> ((6 : Int32) &&& 31).toUInt32).toInt32) = ww
        · skip
          refine Go.by (fun t k => XS.icmpNo X0.here hx rfl (hb hby d4_60) rfl (teq hc47).2 k) ?_
          show Go p e below _ (s₁.setTop (mkF m 63 #[.val (.ref ba), .val (.ref ga), .val (.int ww), .val (.int sa), .val (.int sb), .val (.int sc), .val (.int na), .val (.long (0 : Int64)), .second, .unset] []))
          refine Go.by (fun t k => XS.lload X0.here hx rfl (hb hby d4_63) rfl k) ?_
          show Go p e below _ (s₁.setTop (mkF m 65 #[.val (.ref ba), .val (.ref ga), .val (.int ww), .val (.int sa), .val (.int sb), .val (.int sc), .val (.int na), .val (.long (0 : Int64)), .second, .unset] [(.long (0 : Int64))]))
          refine Go.by (fun t k => XS.lconst X0.here hx rfl (hb hby d4_65) k) ?_
          show Go p e below _ (s₁.setTop (mkF m 66 #[.val (.ref ba), .val (.ref ga), .val (.int ww), .val (.int sa), .val (.int sb), .val (.int sc), .val (.int na), .val (.long (0 : Int64)), .second, .unset] [(.long (1 : Int64)), (.long (0 : Int64))]))
          refine Go.by (fun t k => XS.iload X0.here hx rfl (hb hby d4_66) rfl k) ?_
          show Go p e below _ (s₁.setTop (mkF m 68 #[.val (.ref ba), .val (.ref ga), .val (.int ww), .val (.int sa), .val (.int sb), .val (.int sc), .val (.int na), .val (.long (0 : Int64)), .second, .unset] [(.int sc), (.long (1 : Int64)), (.long (0 : Int64))]))
          refine Go.by (fun t k => XS.lshl X0.here hx rfl (hb hby d4_68) rfl k) ?_
          show Go p e below _ (s₁.setTop (mkF m 69 #[.val (.ref ba), .val (.ref ga), .val (.int ww), .val (.int sa), .val (.int sb), .val (.int sc), .val (.int na), .val (.long (0 : Int64)), .second, .unset] [(.long ((1 : Int64) <<< (sc &&& 0x3f).toInt64)), (.long (0 : Int64))]))
          refine Go.by (fun t k => XS.lor X0.here hx rfl (hb hby d4_69) rfl k) ?_
          show Go p e below _ (s₁.setTop (mkF m 70 #[.val (.ref ba), .val (.ref ga), .val (.int ww), .val (.int sa), .val (.int sb), .val (.int sc), .val (.int na), .val (.long (0 : Int64)), .second, .unset] [(.long ((0 : Int64) ||| ((1 : Int64) <<< (sc &&& 0x3f).toInt64)))]))
          refine Go.by (fun t k => XS.lstore X0.here hx rfl (hb hby d4_70) rfl (l' := #[.val (.ref ba), .val (.ref ga), .val (.int ww), .val (.int sa), .val (.int sb), .val (.int sc), .val (.int na), .val (.long ((0 : Int64) ||| ((1 : Int64) <<< (sc &&& 0x3f).toInt64))), .second, .unset]) rfl k) ?_
          show Go p e below _ (s₁.setTop (mkF m 72 #[.val (.ref ba), .val (.ref ga), .val (.int ww), .val (.int sa), .val (.int sb), .val (.int sc), .val (.int na), .val (.long ((0 : Int64) ||| ((1 : Int64) <<< (sc &&& 0x3f).toInt64))), .second, .unset] []))
          refine Go.by (fun t k => XS.iloadN X0.here hx rfl (hb hby d4_72) rfl k) ?_
          show Go p e below _ (s₁.setTop (mkF m 73 #[.val (.ref ba), .val (.ref ga), .val (.int ww), .val (.int sa), .val (.int sb), .val (.int sc), .val (.int na), .val (.long ((0 : Int64) ||| ((1 : Int64) <<< (sc &&& 0x3f).toInt64))), .second, .unset] [(.int sa)]))
          refine Go.by (fun t k => XS.bipush X0.here hx rfl (hb hby d4_73) k) ?_
          show Go p e below _ (s₁.setTop (mkF m 75 #[.val (.ref ba), .val (.ref ga), .val (.int ww), .val (.int sa), .val (.int sb), .val (.int sc), .val (.int na), .val (.long ((0 : Int64) ||| ((1 : Int64) <<< (sc &&& 0x3f).toInt64))), .second, .unset] [(.int (6 : Int32)), (.int sa)]))
          refine Go.by (fun t k => XS.iushr X0.here hx rfl (hb hby d4_75) rfl k) ?_
          show Go p e below _ (s₁.setTop (mkF m 76 #[.val (.ref ba), .val (.ref ga), .val (.int ww), .val (.int sa), .val (.int sb), .val (.int sc), .val (.int na), .val (.long ((0 : Int64) ||| ((1 : Int64) <<< (sc &&& 0x3f).toInt64))), .second, .unset] [(.int ((sa.toUInt32 >>> ((6 : Int32) &&& 31).toUInt32).toInt32))]))
          refine Go.by (fun t k => XS.iloadN X0.here hx rfl (hb hby d4_76) rfl k) ?_
          show Go p e below _ (s₁.setTop (mkF m 77 #[.val (.ref ba), .val (.ref ga), .val (.int ww), .val (.int sa), .val (.int sb), .val (.int sc), .val (.int na), .val (.long ((0 : Int64) ||| ((1 : Int64) <<< (sc &&& 0x3f).toInt64))), .second, .unset] [(.int ww), (.int ((sa.toUInt32 >>> ((6 : Int32) &&& 31).toUInt32).toInt32))]))
          refine Go.by (fun t k => XS.icmpYes X0.here hx rfl (pc0 := 77) (pc' := 87) rfl (hb hby d4_77) rfl (feq hc5).2 (by decide) (by decide) k) ?_
          show Go p e below _ (s₁.setTop (mkF m 87 #[.val (.ref ba), .val (.ref ga), .val (.int ww), .val (.int sa), .val (.int sb), .val (.int sc), .val (.int na), .val (.long ((0 : Int64) ||| ((1 : Int64) <<< (sc &&& 0x3f).toInt64))), .second, .unset] []))
          refine Go.by (fun t k => XS.iload X0.here hx rfl (hb hby d4_87) rfl k) ?_
          show Go p e below _ (s₁.setTop (mkF m 89 #[.val (.ref ba), .val (.ref ga), .val (.int ww), .val (.int sa), .val (.int sb), .val (.int sc), .val (.int na), .val (.long ((0 : Int64) ||| ((1 : Int64) <<< (sc &&& 0x3f).toInt64))), .second, .unset] [(.int sb)]))
          refine Go.by (fun t k => XS.bipush X0.here hx rfl (hb hby d4_89) k) ?_
          show Go p e below _ (s₁.setTop (mkF m 91 #[.val (.ref ba), .val (.ref ga), .val (.int ww), .val (.int sa), .val (.int sb), .val (.int sc), .val (.int na), .val (.long ((0 : Int64) ||| ((1 : Int64) <<< (sc &&& 0x3f).toInt64))), .second, .unset] [(.int (6 : Int32)), (.int sb)]))
          refine Go.by (fun t k => XS.iushr X0.here hx rfl (hb hby d4_91) rfl k) ?_
          show Go p e below _ (s₁.setTop (mkF m 92 #[.val (.ref ba), .val (.ref ga), .val (.int ww), .val (.int sa), .val (.int sb), .val (.int sc), .val (.int na), .val (.long ((0 : Int64) ||| ((1 : Int64) <<< (sc &&& 0x3f).toInt64))), .second, .unset] [(.int ((sb.toUInt32 >>> ((6 : Int32) &&& 31).toUInt32).toInt32))]))
          refine Go.by (fun t k => XS.iloadN X0.here hx rfl (hb hby d4_92) rfl k) ?_
          show Go p e below _ (s₁.setTop (mkF m 93 #[.val (.ref ba), .val (.ref ga), .val (.int ww), .val (.int sa), .val (.int sb), .val (.int sc), .val (.int na), .val (.long ((0 : Int64) ||| ((1 : Int64) <<< (sc &&& 0x3f).toInt64))), .second, .unset] [(.int ww), (.int ((sb.toUInt32 >>> ((6 : Int32) &&& 31).toUInt32).toInt32))]))
          refine Go.by (fun t k => XS.icmpYes X0.here hx rfl (pc0 := 93) (pc' := 105) rfl (hb hby d4_93) rfl (feq hc33).2 (by decide) (by decide) k) ?_
          show Go p e below _ (s₁.setTop (mkF m 105 #[.val (.ref ba), .val (.ref ga), .val (.int ww), .val (.int sa), .val (.int sb), .val (.int sc), .val (.int na), .val (.long ((0 : Int64) ||| ((1 : Int64) <<< (sc &&& 0x3f).toInt64))), .second, .unset] []))
          refine Go.by (fun t k => XS.iload X0.here hx rfl (hb hby d4_105) rfl k) ?_
          show Go p e below _ (s₁.setTop (mkF m 107 #[.val (.ref ba), .val (.ref ga), .val (.int ww), .val (.int sa), .val (.int sb), .val (.int sc), .val (.int na), .val (.long ((0 : Int64) ||| ((1 : Int64) <<< (sc &&& 0x3f).toInt64))), .second, .unset] [(.int sc)]))
          refine Go.by (fun t k => XS.bipush X0.here hx rfl (hb hby d4_107) k) ?_
          show Go p e below _ (s₁.setTop (mkF m 109 #[.val (.ref ba), .val (.ref ga), .val (.int ww), .val (.int sa), .val (.int sb), .val (.int sc), .val (.int na), .val (.long ((0 : Int64) ||| ((1 : Int64) <<< (sc &&& 0x3f).toInt64))), .second, .unset] [(.int (6 : Int32)), (.int sc)]))
          refine Go.by (fun t k => XS.iushr X0.here hx rfl (hb hby d4_109) rfl k) ?_
          show Go p e below _ (s₁.setTop (mkF m 110 #[.val (.ref ba), .val (.ref ga), .val (.int ww), .val (.int sa), .val (.int sb), .val (.int sc), .val (.int na), .val (.long ((0 : Int64) ||| ((1 : Int64) <<< (sc &&& 0x3f).toInt64))), .second, .unset] [(.int ((sc.toUInt32 >>> ((6 : Int32) &&& 31).toUInt32).toInt32))]))
          refine Go.by (fun t k => XS.iloadN X0.here hx rfl (hb hby d4_110) rfl k) ?_
          show Go p e below _ (s₁.setTop (mkF m 111 #[.val (.ref ba), .val (.ref ga), .val (.int ww), .val (.int sa), .val (.int sb), .val (.int sc), .val (.int na), .val (.long ((0 : Int64) ||| ((1 : Int64) <<< (sc &&& 0x3f).toInt64))), .second, .unset] [(.int ww), (.int ((sc.toUInt32 >>> ((6 : Int32) &&& 31).toUInt32).toInt32))]))
          refine Go.by (fun t k => XS.icmpNo X0.here hx rfl (hb hby d4_111) rfl (teq hc47).2 k) ?_
          show Go p e below _ (s₁.setTop (mkF m 114 #[.val (.ref ba), .val (.ref ga), .val (.int ww), .val (.int sa), .val (.int sb), .val (.int sc), .val (.int na), .val (.long ((0 : Int64) ||| ((1 : Int64) <<< (sc &&& 0x3f).toInt64))), .second, .unset] []))
          refine Go.by (fun t k => XS.iload X0.here hx rfl (hb hby d4_114) rfl k) ?_
          show Go p e below _ (s₁.setTop (mkF m 116 #[.val (.ref ba), .val (.ref ga), .val (.int ww), .val (.int sa), .val (.int sb), .val (.int sc), .val (.int na), .val (.long ((0 : Int64) ||| ((1 : Int64) <<< (sc &&& 0x3f).toInt64))), .second, .unset] [(.int na)]))
          refine Go.by (fun t k => XS.iconst X0.here hx rfl (hb hby d4_116) k) ?_
          show Go p e below _ (s₁.setTop (mkF m 117 #[.val (.ref ba), .val (.ref ga), .val (.int ww), .val (.int sa), .val (.int sb), .val (.int sc), .val (.int na), .val (.long ((0 : Int64) ||| ((1 : Int64) <<< (sc &&& 0x3f).toInt64))), .second, .unset] [(.int (2 : Int32)), (.int na)]))
          refine Go.by (fun t k => XS.iadd X0.here hx rfl (hb hby d4_117) rfl k) ?_
          show Go p e below _ (s₁.setTop (mkF m 118 #[.val (.ref ba), .val (.ref ga), .val (.int ww), .val (.int sa), .val (.int sb), .val (.int sc), .val (.int na), .val (.long ((0 : Int64) ||| ((1 : Int64) <<< (sc &&& 0x3f).toInt64))), .second, .unset] [(.int (na + (2 : Int32)))]))
          refine Go.by (fun t k => XS.istore X0.here hx rfl (hb hby d4_118) rfl (l' := #[.val (.ref ba), .val (.ref ga), .val (.int ww), .val (.int sa), .val (.int sb), .val (.int sc), .val (.int na), .val (.long ((0 : Int64) ||| ((1 : Int64) <<< (sc &&& 0x3f).toInt64))), .second, .val (.int (na + (2 : Int32)))]) rfl k) ?_
          show Go p e below _ (s₁.setTop (mkF m 120 #[.val (.ref ba), .val (.ref ga), .val (.int ww), .val (.int sa), .val (.int sb), .val (.int sc), .val (.int na), .val (.long ((0 : Int64) ||| ((1 : Int64) <<< (sc &&& 0x3f).toInt64))), .second, .val (.int (na + (2 : Int32)))] []))
          refine Go.by (fun t k => XS.goto X0.here hx rfl (pc0 := 120) (pc' := 126) rfl (hb hby d4_120) (by decide) (by decide) k) ?_
          show Go p e below _ (s₁.setTop (mkF m 126 #[.val (.ref ba), .val (.ref ga), .val (.int ww), .val (.int sa), .val (.int sb), .val (.int sc), .val (.int na), .val (.long ((0 : Int64) ||| ((1 : Int64) <<< (sc &&& 0x3f).toInt64))), .second, .val (.int (na + (2 : Int32)))] []))
          refine Go.by (fun t k => XS.aloadN X0.here hx rfl (hb hby d4_126) rfl rfl k) ?_
          show Go p e below _ (s₁.setTop (mkF m 127 #[.val (.ref ba), .val (.ref ga), .val (.int ww), .val (.int sa), .val (.int sb), .val (.int sc), .val (.int na), .val (.long ((0 : Int64) ||| ((1 : Int64) <<< (sc &&& 0x3f).toInt64))), .second, .val (.int (na + (2 : Int32)))] [(.ref ba)]))
          refine Go.by (fun t k => XS.iloadN X0.here hx rfl (hb hby d4_127) rfl k) ?_
          show Go p e below _ (s₁.setTop (mkF m 128 #[.val (.ref ba), .val (.ref ga), .val (.int ww), .val (.int sa), .val (.int sb), .val (.int sc), .val (.int na), .val (.long ((0 : Int64) ||| ((1 : Int64) <<< (sc &&& 0x3f).toInt64))), .second, .val (.int (na + (2 : Int32)))] [(.int ww), (.ref ba)]))
          obtain ⟨_, vs48, ⟨cl48, Ar48, qk48, sz48, nn48, Ha48, Gf48⟩, ln48, fn48⟩ := id P0
          have hin49 : ¬ (ww < 0 ∨ cl48.slots.size ≤ (ww).toNatClampNeg) := inb_of sz48 ⟨hw0, hc2⟩
          have hat50 : cl48.slots[(ww).toNatClampNeg]? = some (.long (fu (ww).toNatClampNeg)) := Has.at Ha48 hin49 (fn48 _ (by have q := hin49; have := sz48; omega))
          refine Go.by (fun t k => X0.laload hx (j := ww) (v := (.long (fu (ww).toNatClampNeg))) (by rw [e0]; exact Ar48.1) (State.isArrayOf_alike hZ.alike Ar48.2.1) Ar48.2.2 hin49 hat50 (g := (mkF m 128 #[.val (.ref ba), .val (.ref ga), .val (.int ww), .val (.int sa), .val (.int sb), .val (.int sc), .val (.int na), .val (.long ((0 : Int64) ||| ((1 : Int64) <<< (sc &&& 0x3f).toInt64))), .second, .val (.int (na + (2 : Int32)))] [(.int ww), (.ref ba)])) rfl rfl (hb hby d4_128) t k) ?_
          show Go p e below _ (s₁.setTop (mkF m 129 #[.val (.ref ba), .val (.ref ga), .val (.int ww), .val (.int sa), .val (.int sb), .val (.int sc), .val (.int na), .val (.long ((0 : Int64) ||| ((1 : Int64) <<< (sc &&& 0x3f).toInt64))), .second, .val (.int (na + (2 : Int32)))] [(.long (fu (ww).toNatClampNeg))]))
          refine Go.by (fun t k => XS.lload X0.here hx rfl (hb hby d4_129) rfl k) ?_
          show Go p e below _ (s₁.setTop (mkF m 131 #[.val (.ref ba), .val (.ref ga), .val (.int ww), .val (.int sa), .val (.int sb), .val (.int sc), .val (.int na), .val (.long ((0 : Int64) ||| ((1 : Int64) <<< (sc &&& 0x3f).toInt64))), .second, .val (.int (na + (2 : Int32)))] [(.long ((0 : Int64) ||| ((1 : Int64) <<< (sc &&& 0x3f).toInt64))), (.long (fu (ww).toNatClampNeg))]))
          refine Go.by (fun t k => XS.lcmp X0.here hx rfl (hb hby d4_131) rfl k) ?_
          show Go p e below _ (s₁.setTop (mkF m 132 #[.val (.ref ba), .val (.ref ga), .val (.int ww), .val (.int sa), .val (.int sb), .val (.int sc), .val (.int na), .val (.long ((0 : Int64) ||| ((1 : Int64) <<< (sc &&& 0x3f).toInt64))), .second, .val (.int (na + (2 : Int32)))] [(.int (lcmpW (fu (ww).toNatClampNeg) ((0 : Int64) ||| ((1 : Int64) <<< (sc &&& 0x3f).toInt64))))]))
          refine Go.by (fun t k => XS.ifNo X0.here hx rfl (hb hby d4_132) rfl ((if0 _ _).trans (teq ((lw_eq (fu (ww).toNatClampNeg) ((0 : Int64) ||| ((1 : Int64) <<< (sc &&& 0x3f).toInt64))).mpr (by rw [hB hc2]; simp only [own_expB, if_neg (show ¬ own_w sa = ww from hc5), if_neg (show ¬ own_w sb = ww from hc33), if_pos (show own_w sc = ww from hc47)] <;> rfl))).2) k) ?_
          show Go p e below _ (s₁.setTop (mkF m 135 #[.val (.ref ba), .val (.ref ga), .val (.int ww), .val (.int sa), .val (.int sb), .val (.int sc), .val (.int na), .val (.long ((0 : Int64) ||| ((1 : Int64) <<< (sc &&& 0x3f).toInt64))), .second, .val (.int (na + (2 : Int32)))] []))
          refine Go.by (fun t k => XS.aloadN X0.here hx rfl (hb hby d4_135) rfl rfl k) ?_
          show Go p e below _ (s₁.setTop (mkF m 136 #[.val (.ref ba), .val (.ref ga), .val (.int ww), .val (.int sa), .val (.int sb), .val (.int sc), .val (.int na), .val (.long ((0 : Int64) ||| ((1 : Int64) <<< (sc &&& 0x3f).toInt64))), .second, .val (.int (na + (2 : Int32)))] [(.ref ga)]))
          refine Go.by (fun t k => XS.iloadN X0.here hx rfl (hb hby d4_136) rfl k) ?_
          show Go p e below _ (s₁.setTop (mkF m 137 #[.val (.ref ba), .val (.ref ga), .val (.int ww), .val (.int sa), .val (.int sb), .val (.int sc), .val (.int na), .val (.long ((0 : Int64) ||| ((1 : Int64) <<< (sc &&& 0x3f).toInt64))), .second, .val (.int (na + (2 : Int32)))] [(.int ww), (.ref ga)]))
          obtain ⟨_, vs51, ⟨cl51, Ar51, qk51, sz51, nn51, Ha51, Gf51⟩, ln51, fn51⟩ := id P1
          have hin52 : ¬ (ww < 0 ∨ cl51.slots.size ≤ (ww).toNatClampNeg) := inb_of sz51 ⟨hw0, hc2⟩
          have hat53 : cl51.slots[(ww).toNatClampNeg]? = some (.int (gu (ww).toNatClampNeg)) := Has.at Ha51 hin52 (fn51 _ (by have q := hin52; have := sz51; omega))
          refine Go.by (fun t k => X0.iaload hx (j := ww) (v := (.int (gu (ww).toNatClampNeg))) (by rw [e0]; exact Ar51.1) (State.isArrayOf_alike hZ.alike Ar51.2.1) Ar51.2.2 hin52 hat53 (g := (mkF m 137 #[.val (.ref ba), .val (.ref ga), .val (.int ww), .val (.int sa), .val (.int sb), .val (.int sc), .val (.int na), .val (.long ((0 : Int64) ||| ((1 : Int64) <<< (sc &&& 0x3f).toInt64))), .second, .val (.int (na + (2 : Int32)))] [(.int ww), (.ref ga)])) rfl rfl (hb hby d4_137) t k) ?_
          show Go p e below _ (s₁.setTop (mkF m 138 #[.val (.ref ba), .val (.ref ga), .val (.int ww), .val (.int sa), .val (.int sb), .val (.int sc), .val (.int na), .val (.long ((0 : Int64) ||| ((1 : Int64) <<< (sc &&& 0x3f).toInt64))), .second, .val (.int (na + (2 : Int32)))] [(.int (gu (ww).toNatClampNeg))]))
          refine Go.by (fun t k => XS.iload X0.here hx rfl (hb hby d4_138) rfl k) ?_
          show Go p e below _ (s₁.setTop (mkF m 140 #[.val (.ref ba), .val (.ref ga), .val (.int ww), .val (.int sa), .val (.int sb), .val (.int sc), .val (.int na), .val (.long ((0 : Int64) ||| ((1 : Int64) <<< (sc &&& 0x3f).toInt64))), .second, .val (.int (na + (2 : Int32)))] [(.int (na + (2 : Int32))), (.int (gu (ww).toNatClampNeg))]))
          refine Go.by (fun t k => XS.icmpNo X0.here hx rfl (hb hby d4_140) rfl (teq (by rw [hF hc2]; simp only [own_expF, if_neg (show ¬ own_w sa = ww from hc5), if_neg (show ¬ own_w sb = ww from hc33), if_pos (show own_w sc = ww from hc47)] <;> rfl)).2 k) ?_
          show Go p e below _ (s₁.setTop (mkF m 143 #[.val (.ref ba), .val (.ref ga), .val (.int ww), .val (.int sa), .val (.int sb), .val (.int sc), .val (.int na), .val (.long ((0 : Int64) ||| ((1 : Int64) <<< (sc &&& 0x3f).toInt64))), .second, .val (.int (na + (2 : Int32)))] []))
          refine Go.by (fun t k => XS.iconst X0.here hx rfl (hb hby d4_143) k) ?_
          show Go p e below _ (s₁.setTop (mkF m 144 #[.val (.ref ba), .val (.ref ga), .val (.int ww), .val (.int sa), .val (.int sb), .val (.int sc), .val (.int na), .val (.long ((0 : Int64) ||| ((1 : Int64) <<< (sc &&& 0x3f).toInt64))), .second, .val (.int (na + (2 : Int32)))] [(.int (1 : Int32))]))
          refine Go.by (fun t k => XS.goto X0.here hx rfl (pc0 := 144) (pc' := 148) rfl (hb hby d4_144) (by decide) (by decide) k) ?_
          show Go p e below _ (s₁.setTop (mkF m 148 #[.val (.ref ba), .val (.ref ga), .val (.int ww), .val (.int sa), .val (.int sb), .val (.int sc), .val (.int na), .val (.long ((0 : Int64) ||| ((1 : Int64) <<< (sc &&& 0x3f).toInt64))), .second, .val (.int (na + (2 : Int32)))] [(.int (1 : Int32))]))
          have hq : Q_wordOk Z ba ga ww sa sb sc na zz fu gu h0 n0 (some (.int (nar .boolean (1 : Int32)))) h0 _ := ⟨rfl, N0, rfl⟩
          exact Go.retN X0 hx (t := .boolean) Bd.returns (by simp) hlk (hb hby d4_148) (by decide) (by decide) (by rw [e0]; exact hq)
        · skip
          refine Go.by (fun t k => XS.icmpYes X0.here hx rfl (pc0 := 60) (pc' := 72) rfl (hb hby d4_60) rfl (feq hc47).2 (by decide) (by decide) k) ?_
          show Go p e below _ (s₁.setTop (mkF m 72 #[.val (.ref ba), .val (.ref ga), .val (.int ww), .val (.int sa), .val (.int sb), .val (.int sc), .val (.int na), .val (.long (0 : Int64)), .second, .unset] []))
          refine Go.by (fun t k => XS.iloadN X0.here hx rfl (hb hby d4_72) rfl k) ?_
          show Go p e below _ (s₁.setTop (mkF m 73 #[.val (.ref ba), .val (.ref ga), .val (.int ww), .val (.int sa), .val (.int sb), .val (.int sc), .val (.int na), .val (.long (0 : Int64)), .second, .unset] [(.int sa)]))
          refine Go.by (fun t k => XS.bipush X0.here hx rfl (hb hby d4_73) k) ?_
          show Go p e below _ (s₁.setTop (mkF m 75 #[.val (.ref ba), .val (.ref ga), .val (.int ww), .val (.int sa), .val (.int sb), .val (.int sc), .val (.int na), .val (.long (0 : Int64)), .second, .unset] [(.int (6 : Int32)), (.int sa)]))
          refine Go.by (fun t k => XS.iushr X0.here hx rfl (hb hby d4_75) rfl k) ?_
          show Go p e below _ (s₁.setTop (mkF m 76 #[.val (.ref ba), .val (.ref ga), .val (.int ww), .val (.int sa), .val (.int sb), .val (.int sc), .val (.int na), .val (.long (0 : Int64)), .second, .unset] [(.int ((sa.toUInt32 >>> ((6 : Int32) &&& 31).toUInt32).toInt32))]))
          refine Go.by (fun t k => XS.iloadN X0.here hx rfl (hb hby d4_76) rfl k) ?_
          show Go p e below _ (s₁.setTop (mkF m 77 #[.val (.ref ba), .val (.ref ga), .val (.int ww), .val (.int sa), .val (.int sb), .val (.int sc), .val (.int na), .val (.long (0 : Int64)), .second, .unset] [(.int ww), (.int ((sa.toUInt32 >>> ((6 : Int32) &&& 31).toUInt32).toInt32))]))
          refine Go.by (fun t k => XS.icmpYes X0.here hx rfl (pc0 := 77) (pc' := 87) rfl (hb hby d4_77) rfl (feq hc5).2 (by decide) (by decide) k) ?_
          show Go p e below _ (s₁.setTop (mkF m 87 #[.val (.ref ba), .val (.ref ga), .val (.int ww), .val (.int sa), .val (.int sb), .val (.int sc), .val (.int na), .val (.long (0 : Int64)), .second, .unset] []))
          refine Go.by (fun t k => XS.iload X0.here hx rfl (hb hby d4_87) rfl k) ?_
          show Go p e below _ (s₁.setTop (mkF m 89 #[.val (.ref ba), .val (.ref ga), .val (.int ww), .val (.int sa), .val (.int sb), .val (.int sc), .val (.int na), .val (.long (0 : Int64)), .second, .unset] [(.int sb)]))
          refine Go.by (fun t k => XS.bipush X0.here hx rfl (hb hby d4_89) k) ?_
          show Go p e below _ (s₁.setTop (mkF m 91 #[.val (.ref ba), .val (.ref ga), .val (.int ww), .val (.int sa), .val (.int sb), .val (.int sc), .val (.int na), .val (.long (0 : Int64)), .second, .unset] [(.int (6 : Int32)), (.int sb)]))
          refine Go.by (fun t k => XS.iushr X0.here hx rfl (hb hby d4_91) rfl k) ?_
          show Go p e below _ (s₁.setTop (mkF m 92 #[.val (.ref ba), .val (.ref ga), .val (.int ww), .val (.int sa), .val (.int sb), .val (.int sc), .val (.int na), .val (.long (0 : Int64)), .second, .unset] [(.int ((sb.toUInt32 >>> ((6 : Int32) &&& 31).toUInt32).toInt32))]))
          refine Go.by (fun t k => XS.iloadN X0.here hx rfl (hb hby d4_92) rfl k) ?_
          show Go p e below _ (s₁.setTop (mkF m 93 #[.val (.ref ba), .val (.ref ga), .val (.int ww), .val (.int sa), .val (.int sb), .val (.int sc), .val (.int na), .val (.long (0 : Int64)), .second, .unset] [(.int ww), (.int ((sb.toUInt32 >>> ((6 : Int32) &&& 31).toUInt32).toInt32))]))
          refine Go.by (fun t k => XS.icmpYes X0.here hx rfl (pc0 := 93) (pc' := 105) rfl (hb hby d4_93) rfl (feq hc33).2 (by decide) (by decide) k) ?_
          show Go p e below _ (s₁.setTop (mkF m 105 #[.val (.ref ba), .val (.ref ga), .val (.int ww), .val (.int sa), .val (.int sb), .val (.int sc), .val (.int na), .val (.long (0 : Int64)), .second, .unset] []))
          refine Go.by (fun t k => XS.iload X0.here hx rfl (hb hby d4_105) rfl k) ?_
          show Go p e below _ (s₁.setTop (mkF m 107 #[.val (.ref ba), .val (.ref ga), .val (.int ww), .val (.int sa), .val (.int sb), .val (.int sc), .val (.int na), .val (.long (0 : Int64)), .second, .unset] [(.int sc)]))
          refine Go.by (fun t k => XS.bipush X0.here hx rfl (hb hby d4_107) k) ?_
          show Go p e below _ (s₁.setTop (mkF m 109 #[.val (.ref ba), .val (.ref ga), .val (.int ww), .val (.int sa), .val (.int sb), .val (.int sc), .val (.int na), .val (.long (0 : Int64)), .second, .unset] [(.int (6 : Int32)), (.int sc)]))
          refine Go.by (fun t k => XS.iushr X0.here hx rfl (hb hby d4_109) rfl k) ?_
          show Go p e below _ (s₁.setTop (mkF m 110 #[.val (.ref ba), .val (.ref ga), .val (.int ww), .val (.int sa), .val (.int sb), .val (.int sc), .val (.int na), .val (.long (0 : Int64)), .second, .unset] [(.int ((sc.toUInt32 >>> ((6 : Int32) &&& 31).toUInt32).toInt32))]))
          refine Go.by (fun t k => XS.iloadN X0.here hx rfl (hb hby d4_110) rfl k) ?_
          show Go p e below _ (s₁.setTop (mkF m 111 #[.val (.ref ba), .val (.ref ga), .val (.int ww), .val (.int sa), .val (.int sb), .val (.int sc), .val (.int na), .val (.long (0 : Int64)), .second, .unset] [(.int ww), (.int ((sc.toUInt32 >>> ((6 : Int32) &&& 31).toUInt32).toInt32))]))
          refine Go.by (fun t k => XS.icmpYes X0.here hx rfl (pc0 := 111) (pc' := 123) rfl (hb hby d4_111) rfl (feq hc47).2 (by decide) (by decide) k) ?_
          show Go p e below _ (s₁.setTop (mkF m 123 #[.val (.ref ba), .val (.ref ga), .val (.int ww), .val (.int sa), .val (.int sb), .val (.int sc), .val (.int na), .val (.long (0 : Int64)), .second, .unset] []))
          refine Go.by (fun t k => XS.iconst X0.here hx rfl (hb hby d4_123) k) ?_
          show Go p e below _ (s₁.setTop (mkF m 124 #[.val (.ref ba), .val (.ref ga), .val (.int ww), .val (.int sa), .val (.int sb), .val (.int sc), .val (.int na), .val (.long (0 : Int64)), .second, .unset] [(.int (0 : Int32))]))
          refine Go.by (fun t k => XS.istore X0.here hx rfl (hb hby d4_124) rfl (l' := #[.val (.ref ba), .val (.ref ga), .val (.int ww), .val (.int sa), .val (.int sb), .val (.int sc), .val (.int na), .val (.long (0 : Int64)), .second, .val (.int (0 : Int32))]) rfl k) ?_
          show Go p e below _ (s₁.setTop (mkF m 126 #[.val (.ref ba), .val (.ref ga), .val (.int ww), .val (.int sa), .val (.int sb), .val (.int sc), .val (.int na), .val (.long (0 : Int64)), .second, .val (.int (0 : Int32))] []))
          refine Go.by (fun t k => XS.aloadN X0.here hx rfl (hb hby d4_126) rfl rfl k) ?_
          show Go p e below _ (s₁.setTop (mkF m 127 #[.val (.ref ba), .val (.ref ga), .val (.int ww), .val (.int sa), .val (.int sb), .val (.int sc), .val (.int na), .val (.long (0 : Int64)), .second, .val (.int (0 : Int32))] [(.ref ba)]))
          refine Go.by (fun t k => XS.iloadN X0.here hx rfl (hb hby d4_127) rfl k) ?_
          show Go p e below _ (s₁.setTop (mkF m 128 #[.val (.ref ba), .val (.ref ga), .val (.int ww), .val (.int sa), .val (.int sb), .val (.int sc), .val (.int na), .val (.long (0 : Int64)), .second, .val (.int (0 : Int32))] [(.int ww), (.ref ba)]))
          obtain ⟨_, vs54, ⟨cl54, Ar54, qk54, sz54, nn54, Ha54, Gf54⟩, ln54, fn54⟩ := id P0
          have hin55 : ¬ (ww < 0 ∨ cl54.slots.size ≤ (ww).toNatClampNeg) := inb_of sz54 ⟨hw0, hc2⟩
          have hat56 : cl54.slots[(ww).toNatClampNeg]? = some (.long (fu (ww).toNatClampNeg)) := Has.at Ha54 hin55 (fn54 _ (by have q := hin55; have := sz54; omega))
          refine Go.by (fun t k => X0.laload hx (j := ww) (v := (.long (fu (ww).toNatClampNeg))) (by rw [e0]; exact Ar54.1) (State.isArrayOf_alike hZ.alike Ar54.2.1) Ar54.2.2 hin55 hat56 (g := (mkF m 128 #[.val (.ref ba), .val (.ref ga), .val (.int ww), .val (.int sa), .val (.int sb), .val (.int sc), .val (.int na), .val (.long (0 : Int64)), .second, .val (.int (0 : Int32))] [(.int ww), (.ref ba)])) rfl rfl (hb hby d4_128) t k) ?_
          show Go p e below _ (s₁.setTop (mkF m 129 #[.val (.ref ba), .val (.ref ga), .val (.int ww), .val (.int sa), .val (.int sb), .val (.int sc), .val (.int na), .val (.long (0 : Int64)), .second, .val (.int (0 : Int32))] [(.long (fu (ww).toNatClampNeg))]))
          refine Go.by (fun t k => XS.lload X0.here hx rfl (hb hby d4_129) rfl k) ?_
          show Go p e below _ (s₁.setTop (mkF m 131 #[.val (.ref ba), .val (.ref ga), .val (.int ww), .val (.int sa), .val (.int sb), .val (.int sc), .val (.int na), .val (.long (0 : Int64)), .second, .val (.int (0 : Int32))] [(.long (0 : Int64)), (.long (fu (ww).toNatClampNeg))]))
          refine Go.by (fun t k => XS.lcmp X0.here hx rfl (hb hby d4_131) rfl k) ?_
          show Go p e below _ (s₁.setTop (mkF m 132 #[.val (.ref ba), .val (.ref ga), .val (.int ww), .val (.int sa), .val (.int sb), .val (.int sc), .val (.int na), .val (.long (0 : Int64)), .second, .val (.int (0 : Int32))] [(.int (lcmpW (fu (ww).toNatClampNeg) (0 : Int64)))]))
          refine Go.by (fun t k => XS.ifNo X0.here hx rfl (hb hby d4_132) rfl ((if0 _ _).trans (teq ((lw_eq (fu (ww).toNatClampNeg) (0 : Int64)).mpr (by rw [hB hc2]; simp only [own_expB, if_neg (show ¬ own_w sa = ww from hc5), if_neg (show ¬ own_w sb = ww from hc33), if_neg (show ¬ own_w sc = ww from hc47)] <;> rfl))).2) k) ?_
          show Go p e below _ (s₁.setTop (mkF m 135 #[.val (.ref ba), .val (.ref ga), .val (.int ww), .val (.int sa), .val (.int sb), .val (.int sc), .val (.int na), .val (.long (0 : Int64)), .second, .val (.int (0 : Int32))] []))
          refine Go.by (fun t k => XS.aloadN X0.here hx rfl (hb hby d4_135) rfl rfl k) ?_
          show Go p e below _ (s₁.setTop (mkF m 136 #[.val (.ref ba), .val (.ref ga), .val (.int ww), .val (.int sa), .val (.int sb), .val (.int sc), .val (.int na), .val (.long (0 : Int64)), .second, .val (.int (0 : Int32))] [(.ref ga)]))
          refine Go.by (fun t k => XS.iloadN X0.here hx rfl (hb hby d4_136) rfl k) ?_
          show Go p e below _ (s₁.setTop (mkF m 137 #[.val (.ref ba), .val (.ref ga), .val (.int ww), .val (.int sa), .val (.int sb), .val (.int sc), .val (.int na), .val (.long (0 : Int64)), .second, .val (.int (0 : Int32))] [(.int ww), (.ref ga)]))
          obtain ⟨_, vs57, ⟨cl57, Ar57, qk57, sz57, nn57, Ha57, Gf57⟩, ln57, fn57⟩ := id P1
          have hin58 : ¬ (ww < 0 ∨ cl57.slots.size ≤ (ww).toNatClampNeg) := inb_of sz57 ⟨hw0, hc2⟩
          have hat59 : cl57.slots[(ww).toNatClampNeg]? = some (.int (gu (ww).toNatClampNeg)) := Has.at Ha57 hin58 (fn57 _ (by have q := hin58; have := sz57; omega))
          refine Go.by (fun t k => X0.iaload hx (j := ww) (v := (.int (gu (ww).toNatClampNeg))) (by rw [e0]; exact Ar57.1) (State.isArrayOf_alike hZ.alike Ar57.2.1) Ar57.2.2 hin58 hat59 (g := (mkF m 137 #[.val (.ref ba), .val (.ref ga), .val (.int ww), .val (.int sa), .val (.int sb), .val (.int sc), .val (.int na), .val (.long (0 : Int64)), .second, .val (.int (0 : Int32))] [(.int ww), (.ref ga)])) rfl rfl (hb hby d4_137) t k) ?_
          show Go p e below _ (s₁.setTop (mkF m 138 #[.val (.ref ba), .val (.ref ga), .val (.int ww), .val (.int sa), .val (.int sb), .val (.int sc), .val (.int na), .val (.long (0 : Int64)), .second, .val (.int (0 : Int32))] [(.int (gu (ww).toNatClampNeg))]))
          refine Go.by (fun t k => XS.iload X0.here hx rfl (hb hby d4_138) rfl k) ?_
          show Go p e below _ (s₁.setTop (mkF m 140 #[.val (.ref ba), .val (.ref ga), .val (.int ww), .val (.int sa), .val (.int sb), .val (.int sc), .val (.int na), .val (.long (0 : Int64)), .second, .val (.int (0 : Int32))] [(.int (0 : Int32)), (.int (gu (ww).toNatClampNeg))]))
          refine Go.by (fun t k => XS.icmpNo X0.here hx rfl (hb hby d4_140) rfl (teq (by rw [hF hc2]; simp only [own_expF, if_neg (show ¬ own_w sa = ww from hc5), if_neg (show ¬ own_w sb = ww from hc33), if_neg (show ¬ own_w sc = ww from hc47)] <;> rfl)).2 k) ?_
          show Go p e below _ (s₁.setTop (mkF m 143 #[.val (.ref ba), .val (.ref ga), .val (.int ww), .val (.int sa), .val (.int sb), .val (.int sc), .val (.int na), .val (.long (0 : Int64)), .second, .val (.int (0 : Int32))] []))
          refine Go.by (fun t k => XS.iconst X0.here hx rfl (hb hby d4_143) k) ?_
          show Go p e below _ (s₁.setTop (mkF m 144 #[.val (.ref ba), .val (.ref ga), .val (.int ww), .val (.int sa), .val (.int sb), .val (.int sc), .val (.int na), .val (.long (0 : Int64)), .second, .val (.int (0 : Int32))] [(.int (1 : Int32))]))
          refine Go.by (fun t k => XS.goto X0.here hx rfl (pc0 := 144) (pc' := 148) rfl (hb hby d4_144) (by decide) (by decide) k) ?_
          show Go p e below _ (s₁.setTop (mkF m 148 #[.val (.ref ba), .val (.ref ga), .val (.int ww), .val (.int sa), .val (.int sb), .val (.int sc), .val (.int na), .val (.long (0 : Int64)), .second, .val (.int (0 : Int32))] [(.int (1 : Int32))]))
          have hq : Q_wordOk Z ba ga ww sa sb sc na zz fu gu h0 n0 (some (.int (nar .boolean (1 : Int32)))) h0 _ := ⟨rfl, N0, rfl⟩
          exact Go.retN X0 hx (t := .boolean) Bd.returns (by simp) hlk (hb hby d4_148) (by decide) (by decide) (by rw [e0]; exact hq)
  · skip
    refine Go.by (fun t k => XS.icmpNo X0.here hx rfl (hb hby d4_3) rfl (flt hc2).1 k) ?_
    show Go p e below _ (s₁.setTop (mkF m 6 #[.val (.ref ba), .val (.ref ga), .val (.int ww), .val (.int sa), .val (.int sb), .val (.int sc), .val (.int na), .unset, .unset, .unset] []))
    refine Go.by (fun t k => XS.iconst X0.here hx rfl (hb hby d4_6) k) ?_
    show Go p e below _ (s₁.setTop (mkF m 7 #[.val (.ref ba), .val (.ref ga), .val (.int ww), .val (.int sa), .val (.int sb), .val (.int sc), .val (.int na), .unset, .unset, .unset] [(.int (1 : Int32))]))
    have hq : Q_wordOk Z ba ga ww sa sb sc na zz fu gu h0 n0 (some (.int (nar .boolean (1 : Int32)))) h0 _ := ⟨rfl, N0, rfl⟩
    exact Go.retN X0 hx (t := .boolean) Bd.returns (by simp) hlk (hb hby d4_7) (by decide) (by decide) (by rw [e0]; exact hq)
theorem pd_1 : parseMethodDescriptor "([I[I)V" = some ⟨[(.array .int), (.array .int)], none⟩ := by decide +kernel
theorem pd_2 : parseMethodDescriptor "(III)V" = some ⟨[.int, .int, .int], none⟩ := by decide +kernel
theorem pd_3 : parseMethodDescriptor "([J[IIIIII)Z" = some ⟨[(.array .long), (.array .int), .int, .int, .int, .int, .int], some .boolean⟩ := by decide +kernel
theorem pd_4 : parseMethodDescriptor "(II)I" = some ⟨[.int, .int], some .int⟩ := by decide +kernel
theorem ef_law (m : MethodId) (ia : Int32) (ib : Int32) (ic : Int32) (id_ : Int32) (iq : Int32) : entryFrame m #[(.int ia), (.int ib), (.int ic), (.int id_), (.int iq)] maxLocals = mkF m 0 #[.val (.int ia), .val (.int ib), .val (.int ic), .val (.int id_), .val (.int iq), .unset, .unset, .unset, .unset, .unset, .unset, .unset, .unset] [] := by first | (simp [entryFrame, mkF, argsToLocals, Value.category, maxLocals]; done) | rfl
def Q_law (Z : State) (ia : Int32) (ib : Int32) (ic : Int32) (id_ : Int32) (iq : Int32) (h0 : Heap) (n0 : Nat) (v : Option Value) (h : Heap) (L : List Loc) : Prop := v = some (.int (1 : Int32)) ∧ Fr n0 L ∧ Keep h0 h []
set_option maxRecDepth 65536 in
set_option maxHeartbeats 40000000 in
theorem law (l : Launch) (Z : State) (a0 : Array Value) (hw : ∀ d ∈ tables_1, d.before a0 Z = true) (ws : List Jvm.Cond) (ia : Int32) (ib : Int32) (ic : Int32) (id_ : Int32) (iq : Int32) (h0 : Heap) (n0 : Nat) (O0 : Old Z n0 h0) :
    MetFree l x (head1 (Jvm.Cond.code x code maxLocals ret :: ws) room_1) (fun a U => a = #[(.int ia), (.int ib), (.int ic), (.int id_), (.int iq)] ∧ Z.Warmed39 U.vm ∧ U.heap = h0) (fun _ _ _ _ _ => True) (fun _ U o U' => ∃ v L, o = .returned v ∧ Q_law Z ia ib ic id_ iq h0 n0 v U'.heap L ∧ FrameEnd U o U' L room_1.cells room_1.slots) := by
  refine MetFree.of_bodySF (plainFor_of_name pn_2) hisR ?_
  intro p e s m args below meth c s₁ Bd hml0 hP hK
  obtain ⟨rfl, hZ, hh⟩ := hP
  have hx := Bd.exec
  have hby := Bd.bytes
  have hml : c.maxLocals = 13 := hml0
  have hown : s.vm.findClass "com/example/wakepath/wakepath/automaton/NumberedStatesAddPinLaw" = some m.cls := findClass_of_methodNamed Bd.named
  have hnm := (name_of_methodNamed Bd.named Bd.method).1
  have hlk := BodyLoose.notSynchronized Bd
  have X0 : Stand p l e room_1 s m #[(.int ia), (.int ib), (.int ic), (.int id_), (.int iq)] below meth c s₁ [] 0 0 := Stand.of_body Bd
  have e0 : s₁.heap = h0 := by rw [← hh, Bd.state]; rfl
  have N0 := Fr.nil n0
  refine Go.start (P := fun o U' => ∃ v L, o = .returned v ∧ Q_law Z ia ib ic id_ iq h0 n0 v U'.heap L ∧ FrameEnd s o U' L room_1.cells room_1.slots) (ef_law m ia ib ic id_ iq) ?_
  show Go p e below _ (s₁.setTop (mkF m 0 #[.val (.int ia), .val (.int ib), .val (.int ic), .val (.int id_), .val (.int iq), .unset, .unset, .unset, .unset, .unset, .unset, .unset, .unset] []))
  refine Go.by (fun t k => XS.iloadN X0.here hx rfl (hb hby at_0) rfl k) ?_
  show Go p e below _ (s₁.setTop (mkF m 1 #[.val (.int ia), .val (.int ib), .val (.int ic), .val (.int id_), .val (.int iq), .unset, .unset, .unset, .unset, .unset, .unset, .unset, .unset] [(.int ia)]))
  refine Go.by (fun t k => XS.bipush X0.here hx rfl (hb hby at_1) k) ?_
  show Go p e below _ (s₁.setTop (mkF m 3 #[.val (.int ia), .val (.int ib), .val (.int ic), .val (.int id_), .val (.int iq), .unset, .unset, .unset, .unset, .unset, .unset, .unset, .unset] [(.int (127 : Int32)), (.int ia)]))
  refine Go.by (fun t k => XS.iand X0.here hx rfl (hb hby at_3) rfl k) ?_
  show Go p e below _ (s₁.setTop (mkF m 4 #[.val (.int ia), .val (.int ib), .val (.int ic), .val (.int id_), .val (.int iq), .unset, .unset, .unset, .unset, .unset, .unset, .unset, .unset] [(.int (ia &&& (127 : Int32)))]))
  refine Go.by (fun t k => XS.istore X0.here hx rfl (hb hby at_4) rfl (l' := #[.val (.int ia), .val (.int ib), .val (.int ic), .val (.int id_), .val (.int iq), .val (.int (ia &&& (127 : Int32))), .unset, .unset, .unset, .unset, .unset, .unset, .unset]) rfl k) ?_
  show Go p e below _ (s₁.setTop (mkF m 6 #[.val (.int ia), .val (.int ib), .val (.int ic), .val (.int id_), .val (.int iq), .val (.int (ia &&& (127 : Int32))), .unset, .unset, .unset, .unset, .unset, .unset, .unset] []))
  refine Go.by (fun t k => XS.iload X0.here hx rfl (hb hby at_6) rfl k) ?_
  show Go p e below _ (s₁.setTop (mkF m 8 #[.val (.int ia), .val (.int ib), .val (.int ic), .val (.int id_), .val (.int iq), .val (.int (ia &&& (127 : Int32))), .unset, .unset, .unset, .unset, .unset, .unset, .unset] [(.int (ia &&& (127 : Int32)))]))
  refine Go.by (fun t k => XS.iconst X0.here hx rfl (hb hby at_8) k) ?_
  show Go p e below _ (s₁.setTop (mkF m 9 #[.val (.int ia), .val (.int ib), .val (.int ic), .val (.int id_), .val (.int iq), .val (.int (ia &&& (127 : Int32))), .unset, .unset, .unset, .unset, .unset, .unset, .unset] [(.int (1 : Int32)), (.int (ia &&& (127 : Int32)))]))
  refine Go.by (fun t k => XS.iadd X0.here hx rfl (hb hby at_9) rfl k) ?_
  show Go p e below _ (s₁.setTop (mkF m 10 #[.val (.int ia), .val (.int ib), .val (.int ic), .val (.int id_), .val (.int iq), .val (.int (ia &&& (127 : Int32))), .unset, .unset, .unset, .unset, .unset, .unset, .unset] [(.int ((ia &&& (127 : Int32)) + (1 : Int32)))]))
  refine Go.by (fun t k => XS.iloadN X0.here hx rfl (hb hby at_10) rfl k) ?_
  show Go p e below _ (s₁.setTop (mkF m 11 #[.val (.int ia), .val (.int ib), .val (.int ic), .val (.int id_), .val (.int iq), .val (.int (ia &&& (127 : Int32))), .unset, .unset, .unset, .unset, .unset, .unset, .unset] [(.int ib), (.int ((ia &&& (127 : Int32)) + (1 : Int32)))]))
  refine Go.by (fun t k => XS.bipush X0.here hx rfl (hb hby at_11) k) ?_
  show Go p e below _ (s₁.setTop (mkF m 13 #[.val (.int ia), .val (.int ib), .val (.int ic), .val (.int id_), .val (.int iq), .val (.int (ia &&& (127 : Int32))), .unset, .unset, .unset, .unset, .unset, .unset, .unset] [(.int (63 : Int32)), (.int ib), (.int ((ia &&& (127 : Int32)) + (1 : Int32)))]))
  refine Go.by (fun t k => XS.iand X0.here hx rfl (hb hby at_13) rfl k) ?_
  show Go p e below _ (s₁.setTop (mkF m 14 #[.val (.int ia), .val (.int ib), .val (.int ic), .val (.int id_), .val (.int iq), .val (.int (ia &&& (127 : Int32))), .unset, .unset, .unset, .unset, .unset, .unset, .unset] [(.int (ib &&& (63 : Int32))), (.int ((ia &&& (127 : Int32)) + (1 : Int32)))]))
  refine Go.by (fun t k => XS.iadd X0.here hx rfl (hb hby at_14) rfl k) ?_
  show Go p e below _ (s₁.setTop (mkF m 15 #[.val (.int ia), .val (.int ib), .val (.int ic), .val (.int id_), .val (.int iq), .val (.int (ia &&& (127 : Int32))), .unset, .unset, .unset, .unset, .unset, .unset, .unset] [(.int (((ia &&& (127 : Int32)) + (1 : Int32)) + (ib &&& (63 : Int32))))]))
  refine Go.by (fun t k => XS.istore X0.here hx rfl (hb hby at_15) rfl (l' := #[.val (.int ia), .val (.int ib), .val (.int ic), .val (.int id_), .val (.int iq), .val (.int (ia &&& (127 : Int32))), .val (.int (((ia &&& (127 : Int32)) + (1 : Int32)) + (ib &&& (63 : Int32)))), .unset, .unset, .unset, .unset, .unset, .unset]) rfl k) ?_
  show Go p e below _ (s₁.setTop (mkF m 17 #[.val (.int ia), .val (.int ib), .val (.int ic), .val (.int id_), .val (.int iq), .val (.int (ia &&& (127 : Int32))), .val (.int (((ia &&& (127 : Int32)) + (1 : Int32)) + (ib &&& (63 : Int32)))), .unset, .unset, .unset, .unset, .unset, .unset] []))
  refine Go.by (fun t k => XS.iload X0.here hx rfl (hb hby at_17) rfl k) ?_
  show Go p e below _ (s₁.setTop (mkF m 19 #[.val (.int ia), .val (.int ib), .val (.int ic), .val (.int id_), .val (.int iq), .val (.int (ia &&& (127 : Int32))), .val (.int (((ia &&& (127 : Int32)) + (1 : Int32)) + (ib &&& (63 : Int32)))), .unset, .unset, .unset, .unset, .unset, .unset] [(.int (((ia &&& (127 : Int32)) + (1 : Int32)) + (ib &&& (63 : Int32))))]))
  refine Go.by (fun t k => XS.iconst X0.here hx rfl (hb hby at_19) k) ?_
  show Go p e below _ (s₁.setTop (mkF m 20 #[.val (.int ia), .val (.int ib), .val (.int ic), .val (.int id_), .val (.int iq), .val (.int (ia &&& (127 : Int32))), .val (.int (((ia &&& (127 : Int32)) + (1 : Int32)) + (ib &&& (63 : Int32)))), .unset, .unset, .unset, .unset, .unset, .unset] [(.int (1 : Int32)), (.int (((ia &&& (127 : Int32)) + (1 : Int32)) + (ib &&& (63 : Int32))))]))
  refine Go.by (fun t k => XS.iadd X0.here hx rfl (hb hby at_20) rfl k) ?_
  show Go p e below _ (s₁.setTop (mkF m 21 #[.val (.int ia), .val (.int ib), .val (.int ic), .val (.int id_), .val (.int iq), .val (.int (ia &&& (127 : Int32))), .val (.int (((ia &&& (127 : Int32)) + (1 : Int32)) + (ib &&& (63 : Int32)))), .unset, .unset, .unset, .unset, .unset, .unset] [(.int ((((ia &&& (127 : Int32)) + (1 : Int32)) + (ib &&& (63 : Int32))) + (1 : Int32)))]))
  refine Go.by (fun t k => XS.iloadN X0.here hx rfl (hb hby at_21) rfl k) ?_
  show Go p e below _ (s₁.setTop (mkF m 22 #[.val (.int ia), .val (.int ib), .val (.int ic), .val (.int id_), .val (.int iq), .val (.int (ia &&& (127 : Int32))), .val (.int (((ia &&& (127 : Int32)) + (1 : Int32)) + (ib &&& (63 : Int32)))), .unset, .unset, .unset, .unset, .unset, .unset] [(.int ic), (.int ((((ia &&& (127 : Int32)) + (1 : Int32)) + (ib &&& (63 : Int32))) + (1 : Int32)))]))
  refine Go.by (fun t k => XS.bipush X0.here hx rfl (hb hby at_22) k) ?_
  show Go p e below _ (s₁.setTop (mkF m 24 #[.val (.int ia), .val (.int ib), .val (.int ic), .val (.int id_), .val (.int iq), .val (.int (ia &&& (127 : Int32))), .val (.int (((ia &&& (127 : Int32)) + (1 : Int32)) + (ib &&& (63 : Int32)))), .unset, .unset, .unset, .unset, .unset, .unset] [(.int (63 : Int32)), (.int ic), (.int ((((ia &&& (127 : Int32)) + (1 : Int32)) + (ib &&& (63 : Int32))) + (1 : Int32)))]))
  refine Go.by (fun t k => XS.iand X0.here hx rfl (hb hby at_24) rfl k) ?_
  show Go p e below _ (s₁.setTop (mkF m 25 #[.val (.int ia), .val (.int ib), .val (.int ic), .val (.int id_), .val (.int iq), .val (.int (ia &&& (127 : Int32))), .val (.int (((ia &&& (127 : Int32)) + (1 : Int32)) + (ib &&& (63 : Int32)))), .unset, .unset, .unset, .unset, .unset, .unset] [(.int (ic &&& (63 : Int32))), (.int ((((ia &&& (127 : Int32)) + (1 : Int32)) + (ib &&& (63 : Int32))) + (1 : Int32)))]))
  refine Go.by (fun t k => XS.iadd X0.here hx rfl (hb hby at_25) rfl k) ?_
  show Go p e below _ (s₁.setTop (mkF m 26 #[.val (.int ia), .val (.int ib), .val (.int ic), .val (.int id_), .val (.int iq), .val (.int (ia &&& (127 : Int32))), .val (.int (((ia &&& (127 : Int32)) + (1 : Int32)) + (ib &&& (63 : Int32)))), .unset, .unset, .unset, .unset, .unset, .unset] [(.int (((((ia &&& (127 : Int32)) + (1 : Int32)) + (ib &&& (63 : Int32))) + (1 : Int32)) + (ic &&& (63 : Int32))))]))
  refine Go.by (fun t k => XS.istore X0.here hx rfl (hb hby at_26) rfl (l' := #[.val (.int ia), .val (.int ib), .val (.int ic), .val (.int id_), .val (.int iq), .val (.int (ia &&& (127 : Int32))), .val (.int (((ia &&& (127 : Int32)) + (1 : Int32)) + (ib &&& (63 : Int32)))), .val (.int (((((ia &&& (127 : Int32)) + (1 : Int32)) + (ib &&& (63 : Int32))) + (1 : Int32)) + (ic &&& (63 : Int32)))), .unset, .unset, .unset, .unset, .unset]) rfl k) ?_
  show Go p e below _ (s₁.setTop (mkF m 28 #[.val (.int ia), .val (.int ib), .val (.int ic), .val (.int id_), .val (.int iq), .val (.int (ia &&& (127 : Int32))), .val (.int (((ia &&& (127 : Int32)) + (1 : Int32)) + (ib &&& (63 : Int32)))), .val (.int (((((ia &&& (127 : Int32)) + (1 : Int32)) + (ib &&& (63 : Int32))) + (1 : Int32)) + (ic &&& (63 : Int32)))), .unset, .unset, .unset, .unset, .unset] []))
  refine Go.by (fun t k => XS.iloadN X0.here hx rfl (hb hby at_28) rfl k) ?_
  show Go p e below _ (s₁.setTop (mkF m 29 #[.val (.int ia), .val (.int ib), .val (.int ic), .val (.int id_), .val (.int iq), .val (.int (ia &&& (127 : Int32))), .val (.int (((ia &&& (127 : Int32)) + (1 : Int32)) + (ib &&& (63 : Int32)))), .val (.int (((((ia &&& (127 : Int32)) + (1 : Int32)) + (ib &&& (63 : Int32))) + (1 : Int32)) + (ic &&& (63 : Int32)))), .unset, .unset, .unset, .unset, .unset] [(.int id_)]))
  refine Go.by (fun t k => XS.sipush X0.here hx rfl (hb hby at_29) k) ?_
  show Go p e below _ (s₁.setTop (mkF m 32 #[.val (.int ia), .val (.int ib), .val (.int ic), .val (.int id_), .val (.int iq), .val (.int (ia &&& (127 : Int32))), .val (.int (((ia &&& (127 : Int32)) + (1 : Int32)) + (ib &&& (63 : Int32)))), .val (.int (((((ia &&& (127 : Int32)) + (1 : Int32)) + (ib &&& (63 : Int32))) + (1 : Int32)) + (ic &&& (63 : Int32)))), .unset, .unset, .unset, .unset, .unset] [(.int (255 : Int32)), (.int id_)]))
  refine Go.by (fun t k => XS.iand X0.here hx rfl (hb hby at_32) rfl k) ?_
  show Go p e below _ (s₁.setTop (mkF m 33 #[.val (.int ia), .val (.int ib), .val (.int ic), .val (.int id_), .val (.int iq), .val (.int (ia &&& (127 : Int32))), .val (.int (((ia &&& (127 : Int32)) + (1 : Int32)) + (ib &&& (63 : Int32)))), .val (.int (((((ia &&& (127 : Int32)) + (1 : Int32)) + (ib &&& (63 : Int32))) + (1 : Int32)) + (ic &&& (63 : Int32)))), .unset, .unset, .unset, .unset, .unset] [(.int (id_ &&& (255 : Int32)))]))
  refine Go.by (fun t k => XS.istore X0.here hx rfl (hb hby at_33) rfl (l' := #[.val (.int ia), .val (.int ib), .val (.int ic), .val (.int id_), .val (.int iq), .val (.int (ia &&& (127 : Int32))), .val (.int (((ia &&& (127 : Int32)) + (1 : Int32)) + (ib &&& (63 : Int32)))), .val (.int (((((ia &&& (127 : Int32)) + (1 : Int32)) + (ib &&& (63 : Int32))) + (1 : Int32)) + (ic &&& (63 : Int32)))), .val (.int (id_ &&& (255 : Int32))), .unset, .unset, .unset, .unset]) rfl k) ?_
  show Go p e below _ (s₁.setTop (mkF m 35 #[.val (.int ia), .val (.int ib), .val (.int ic), .val (.int id_), .val (.int iq), .val (.int (ia &&& (127 : Int32))), .val (.int (((ia &&& (127 : Int32)) + (1 : Int32)) + (ib &&& (63 : Int32)))), .val (.int (((((ia &&& (127 : Int32)) + (1 : Int32)) + (ib &&& (63 : Int32))) + (1 : Int32)) + (ic &&& (63 : Int32)))), .val (.int (id_ &&& (255 : Int32))), .unset, .unset, .unset, .unset] []))
  have J35 : ∀ (j_s1 : Int32) (j_s2 : Int32) (j_s3 : Int32) (j_t : Int32) (hs : own_hyp j_s1 j_s2 j_s3 j_t), Go p e below (fun o U' => ∃ v L, o = .returned v ∧ Q_law Z ia ib ic id_ iq h0 n0 v U'.heap L ∧ FrameEnd s o U' L room_1.cells room_1.slots) (s₁.setTop (mkF m 35 #[.val (.int ia), .val (.int ib), .val (.int ic), .val (.int id_), .val (.int iq), .val (.int j_s1), .val (.int j_s2), .val (.int j_s3), .val (.int j_t), .unset, .unset, .unset, .unset] [])) := by
    intro j_s1 j_s2 j_s3 j_t hs
    show Go p e below _ (s₁.setTop (mkF m 35 #[.val (.int ia), .val (.int ib), .val (.int ic), .val (.int id_), .val (.int iq), .val (.int j_s1), .val (.int j_s2), .val (.int j_s3), .val (.int j_t), .unset, .unset, .unset, .unset] []))
    refine Go.by (fun t k => XS.iconst X0.here hx rfl (hb hby at_35) k) ?_
    show Go p e below _ (s₁.setTop (mkF m 36 #[.val (.int ia), .val (.int ib), .val (.int ic), .val (.int id_), .val (.int iq), .val (.int j_s1), .val (.int j_s2), .val (.int j_s3), .val (.int j_t), .unset, .unset, .unset, .unset] [(.int (3 : Int32))]))
    obtain ⟨T1, h1, k1, X1, e1, E1, A1, Q1, st1⟩ := newPE X0 hx hZ (hw _ (List.mem_of_getElem? (i := 0) rfl)) e0 (g := (mkF m 36 #[.val (.int ia), .val (.int ib), .val (.int ic), .val (.int id_), .val (.int iq), .val (.int j_s1), .val (.int j_s2), .val (.int j_s3), .val (.int j_t), .unset, .unset, .unset, .unset] [(.int (3 : Int32))])) rfl (hb hby at_36) rfl (by decide) (cap := 3) (by decide) (by decide) (by decide) (by decide) (ad := "[I") (by decide)
    obtain ⟨b1, g1⟩ : ∃ z, z = h0.size := ⟨_, rfl⟩
    rw [← g1] at A1 Q1 st1
    have gl1 : h0.size ≤ b1 := Nat.le_of_eq g1.symm
    have ge1 : n0 ≤ b1 := Nat.le_trans (own_old_size O0) gl1
    have sz1 : h0.size ≤ b1 := Nat.le_trans (Keep.refl h0 []).1 gl1
    have F2 : Arv Z h1 b1 k1 .int (3 : Int32) [(.int (0 : Int32)), (.int (0 : Int32)), (.int (0 : Int32))] (.int (0 : Int32)) := (Arv.new A1 (by decide)).pad (pad_rep [] (.int (0 : Int32)) 3)
    refine Go.by st1 ?_
    show Go p e below _ (T1.setTop (mkF m 38 #[.val (.int ia), .val (.int ib), .val (.int ic), .val (.int id_), .val (.int iq), .val (.int j_s1), .val (.int j_s2), .val (.int j_s3), .val (.int j_t), .unset, .unset, .unset, .unset] [(.ref b1)]))
    refine Go.by (fun t k => XS.dup X1.here hx rfl (hb hby at_38) rfl rfl k) ?_
    show Go p e below _ (T1.setTop (mkF m 39 #[.val (.int ia), .val (.int ib), .val (.int ic), .val (.int id_), .val (.int iq), .val (.int j_s1), .val (.int j_s2), .val (.int j_s3), .val (.int j_t), .unset, .unset, .unset, .unset] [(.ref b1), (.ref b1)]))
    refine Go.by (fun t k => XS.iconst X1.here hx rfl (hb hby at_39) k) ?_
    show Go p e below _ (T1.setTop (mkF m 40 #[.val (.int ia), .val (.int ib), .val (.int ic), .val (.int id_), .val (.int iq), .val (.int j_s1), .val (.int j_s2), .val (.int j_s3), .val (.int j_t), .unset, .unset, .unset, .unset] [(.int (0 : Int32)), (.ref b1), (.ref b1)]))
    refine Go.by (fun t k => XS.iload X1.here hx rfl (hb hby at_40) rfl k) ?_
    show Go p e below _ (T1.setTop (mkF m 42 #[.val (.int ia), .val (.int ib), .val (.int ic), .val (.int id_), .val (.int iq), .val (.int j_s1), .val (.int j_s2), .val (.int j_s3), .val (.int j_t), .unset, .unset, .unset, .unset] [(.int iq), (.int (0 : Int32)), (.ref b1), (.ref b1)]))
    obtain ⟨cl3, Ar3, qk3, sz3, nn3, Ha3, Gf3⟩ := id F2
    have hin4 : ¬ ((0 : Int32) < 0 ∨ cl3.slots.size ≤ ((0 : Int32)).toNatClampNeg) := inb_of sz3 ⟨by decide, by decide⟩
    obtain ⟨T5, h5, X5, e5, W5, st5⟩ := stI X1 hx hZ e1 Ar3 (j := (0 : Int32)) hin4 (g := (mkF m 42 #[.val (.int ia), .val (.int ib), .val (.int ic), .val (.int id_), .val (.int iq), .val (.int j_s1), .val (.int j_s2), .val (.int j_s3), .val (.int j_t), .unset, .unset, .unset, .unset] [(.int iq), (.int (0 : Int32)), (.ref b1), (.ref b1)])) rfl rfl (hb hby at_42)
    have N5 := Fr.snoc X5 N0 ge1
    have F6 : Arv Z h5 b1 k1 .int (3 : Int32) [(.int iq), (.int (0 : Int32)), (.int (0 : Int32))] (.int (0 : Int32)) := Arv.set Ar3 qk3 sz3 nn3 Ha3 Gf3 rfl W5 0 rfl (Nat.le_of_ble_eq_true rfl)
    refine Go.by st5 ?_
    show Go p e below _ (T5.setTop (mkF m 43 #[.val (.int ia), .val (.int ib), .val (.int ic), .val (.int id_), .val (.int iq), .val (.int j_s1), .val (.int j_s2), .val (.int j_s3), .val (.int j_t), .unset, .unset, .unset, .unset] [(.ref b1)]))
    refine Go.by (fun t k => XS.dup X5.here hx rfl (hb hby at_43) rfl rfl k) ?_
    show Go p e below _ (T5.setTop (mkF m 44 #[.val (.int ia), .val (.int ib), .val (.int ic), .val (.int id_), .val (.int iq), .val (.int j_s1), .val (.int j_s2), .val (.int j_s3), .val (.int j_t), .unset, .unset, .unset, .unset] [(.ref b1), (.ref b1)]))
    refine Go.by (fun t k => XS.iconst X5.here hx rfl (hb hby at_44) k) ?_
    show Go p e below _ (T5.setTop (mkF m 45 #[.val (.int ia), .val (.int ib), .val (.int ic), .val (.int id_), .val (.int iq), .val (.int j_s1), .val (.int j_s2), .val (.int j_s3), .val (.int j_t), .unset, .unset, .unset, .unset] [(.int (1 : Int32)), (.ref b1), (.ref b1)]))
    refine Go.by (fun t k => XS.iload X5.here hx rfl (hb hby at_45) rfl k) ?_
    show Go p e below _ (T5.setTop (mkF m 47 #[.val (.int ia), .val (.int ib), .val (.int ic), .val (.int id_), .val (.int iq), .val (.int j_s1), .val (.int j_s2), .val (.int j_s3), .val (.int j_t), .unset, .unset, .unset, .unset] [(.int iq), (.int (1 : Int32)), (.ref b1), (.ref b1)]))
    refine Go.by (fun t k => XS.iconst X5.here hx rfl (hb hby at_47) k) ?_
    show Go p e below _ (T5.setTop (mkF m 48 #[.val (.int ia), .val (.int ib), .val (.int ic), .val (.int id_), .val (.int iq), .val (.int j_s1), .val (.int j_s2), .val (.int j_s3), .val (.int j_t), .unset, .unset, .unset, .unset] [(.int (3 : Int32)), (.int iq), (.int (1 : Int32)), (.ref b1), (.ref b1)]))
    refine Go.by (fun t k => XS.iadd X5.here hx rfl (hb hby at_48) rfl k) ?_
    show Go p e below _ (T5.setTop (mkF m 49 #[.val (.int ia), .val (.int ib), .val (.int ic), .val (.int id_), .val (.int iq), .val (.int j_s1), .val (.int j_s2), .val (.int j_s3), .val (.int j_t), .unset, .unset, .unset, .unset] [(.int (iq + (3 : Int32))), (.int (1 : Int32)), (.ref b1), (.ref b1)]))
    obtain ⟨cl7, Ar7, qk7, sz7, nn7, Ha7, Gf7⟩ := id F6
    have hin8 : ¬ ((1 : Int32) < 0 ∨ cl7.slots.size ≤ ((1 : Int32)).toNatClampNeg) := inb_of sz7 ⟨by decide, by decide⟩
    obtain ⟨T9, h9, X9, e9, W9, st9⟩ := stI X5 hx hZ e5 Ar7 (j := (1 : Int32)) hin8 (g := (mkF m 49 #[.val (.int ia), .val (.int ib), .val (.int ic), .val (.int id_), .val (.int iq), .val (.int j_s1), .val (.int j_s2), .val (.int j_s3), .val (.int j_t), .unset, .unset, .unset, .unset] [(.int (iq + (3 : Int32))), (.int (1 : Int32)), (.ref b1), (.ref b1)])) rfl rfl (hb hby at_49)
    have N9 := Fr.snoc X9 N5 ge1
    have F10 : Arv Z h9 b1 k1 .int (3 : Int32) [(.int iq), (.int (iq + (3 : Int32))), (.int (0 : Int32))] (.int (0 : Int32)) := Arv.set Ar7 qk7 sz7 nn7 Ha7 Gf7 rfl W9 1 rfl (Nat.le_of_ble_eq_true rfl)
    refine Go.by st9 ?_
    show Go p e below _ (T9.setTop (mkF m 50 #[.val (.int ia), .val (.int ib), .val (.int ic), .val (.int id_), .val (.int iq), .val (.int j_s1), .val (.int j_s2), .val (.int j_s3), .val (.int j_t), .unset, .unset, .unset, .unset] [(.ref b1)]))
    refine Go.by (fun t k => XS.dup X9.here hx rfl (hb hby at_50) rfl rfl k) ?_
    show Go p e below _ (T9.setTop (mkF m 51 #[.val (.int ia), .val (.int ib), .val (.int ic), .val (.int id_), .val (.int iq), .val (.int j_s1), .val (.int j_s2), .val (.int j_s3), .val (.int j_t), .unset, .unset, .unset, .unset] [(.ref b1), (.ref b1)]))
    refine Go.by (fun t k => XS.iconst X9.here hx rfl (hb hby at_51) k) ?_
    show Go p e below _ (T9.setTop (mkF m 52 #[.val (.int ia), .val (.int ib), .val (.int ic), .val (.int id_), .val (.int iq), .val (.int j_s1), .val (.int j_s2), .val (.int j_s3), .val (.int j_t), .unset, .unset, .unset, .unset] [(.int (2 : Int32)), (.ref b1), (.ref b1)]))
    refine Go.by (fun t k => XS.iload X9.here hx rfl (hb hby at_52) rfl k) ?_
    show Go p e below _ (T9.setTop (mkF m 54 #[.val (.int ia), .val (.int ib), .val (.int ic), .val (.int id_), .val (.int iq), .val (.int j_s1), .val (.int j_s2), .val (.int j_s3), .val (.int j_t), .unset, .unset, .unset, .unset] [(.int iq), (.int (2 : Int32)), (.ref b1), (.ref b1)]))
    refine Go.by (fun t k => XS.iconst X9.here hx rfl (hb hby at_54) k) ?_
    show Go p e below _ (T9.setTop (mkF m 55 #[.val (.int ia), .val (.int ib), .val (.int ic), .val (.int id_), .val (.int iq), .val (.int j_s1), .val (.int j_s2), .val (.int j_s3), .val (.int j_t), .unset, .unset, .unset, .unset] [(.int (4 : Int32)), (.int iq), (.int (2 : Int32)), (.ref b1), (.ref b1)]))
    refine Go.by (fun t k => XS.iadd X9.here hx rfl (hb hby at_55) rfl k) ?_
    show Go p e below _ (T9.setTop (mkF m 56 #[.val (.int ia), .val (.int ib), .val (.int ic), .val (.int id_), .val (.int iq), .val (.int j_s1), .val (.int j_s2), .val (.int j_s3), .val (.int j_t), .unset, .unset, .unset, .unset] [(.int (iq + (4 : Int32))), (.int (2 : Int32)), (.ref b1), (.ref b1)]))
    obtain ⟨cl11, Ar11, qk11, sz11, nn11, Ha11, Gf11⟩ := id F10
    have hin12 : ¬ ((2 : Int32) < 0 ∨ cl11.slots.size ≤ ((2 : Int32)).toNatClampNeg) := inb_of sz11 ⟨by decide, by decide⟩
    obtain ⟨T13, h13, X13, e13, W13, st13⟩ := stI X9 hx hZ e9 Ar11 (j := (2 : Int32)) hin12 (g := (mkF m 56 #[.val (.int ia), .val (.int ib), .val (.int ic), .val (.int id_), .val (.int iq), .val (.int j_s1), .val (.int j_s2), .val (.int j_s3), .val (.int j_t), .unset, .unset, .unset, .unset] [(.int (iq + (4 : Int32))), (.int (2 : Int32)), (.ref b1), (.ref b1)])) rfl rfl (hb hby at_56)
    have N13 := Fr.snoc X13 N9 ge1
    have F14 : Arv Z h13 b1 k1 .int (3 : Int32) [(.int iq), (.int (iq + (3 : Int32))), (.int (iq + (4 : Int32)))] (.int (0 : Int32)) := Arv.set Ar11 qk11 sz11 nn11 Ha11 Gf11 rfl W13 2 rfl (Nat.le_of_ble_eq_true rfl)
    refine Go.by st13 ?_
    show Go p e below _ (T13.setTop (mkF m 57 #[.val (.int ia), .val (.int ib), .val (.int ic), .val (.int id_), .val (.int iq), .val (.int j_s1), .val (.int j_s2), .val (.int j_s3), .val (.int j_t), .unset, .unset, .unset, .unset] [(.ref b1)]))
    refine Go.by (fun t k => XS.astore X13.here hx rfl (hb hby at_57) rfl rfl (l' := #[.val (.int ia), .val (.int ib), .val (.int ic), .val (.int id_), .val (.int iq), .val (.int j_s1), .val (.int j_s2), .val (.int j_s3), .val (.int j_t), .val (.ref b1), .unset, .unset, .unset]) rfl k) ?_
    show Go p e below _ (T13.setTop (mkF m 59 #[.val (.int ia), .val (.int ib), .val (.int ic), .val (.int id_), .val (.int iq), .val (.int j_s1), .val (.int j_s2), .val (.int j_s3), .val (.int j_t), .val (.ref b1), .unset, .unset, .unset] []))
    refine Go.by (fun t k => XS.iconst X13.here hx rfl (hb hby at_59) k) ?_
    show Go p e below _ (T13.setTop (mkF m 60 #[.val (.int ia), .val (.int ib), .val (.int ic), .val (.int id_), .val (.int iq), .val (.int j_s1), .val (.int j_s2), .val (.int j_s3), .val (.int j_t), .val (.ref b1), .unset, .unset, .unset] [(.int (2 : Int32))]))
    have F15 : Exa Z h13 b1 "[I" := (((Q1.wr W5).wr W9).wr W13)
    have F16 : Old Z n0 h13 := ((((O0.ext E1).wr W5 ge1).wr W9 ge1).wr W13 ge1)
    have F17 : Keep h0 h13 [] := (((((Keep.refl h0 []).ext E1).wr W5 (Or.inr sz1)).wr W9 (Or.inr sz1)).wr W13 (Or.inr sz1))
    obtain ⟨T18, h18, k18, X18, e18, E18, A18, Q18, st18⟩ := newPE X13 hx hZ (hw _ (List.mem_of_getElem? (i := 0) rfl)) e13 (g := (mkF m 60 #[.val (.int ia), .val (.int ib), .val (.int ic), .val (.int id_), .val (.int iq), .val (.int j_s1), .val (.int j_s2), .val (.int j_s3), .val (.int j_t), .val (.ref b1), .unset, .unset, .unset] [(.int (2 : Int32))])) rfl (hb hby at_60) rfl (by decide) (cap := 2) (by decide) (by decide) (by decide) (by decide) (ad := "[I") (by decide)
    obtain ⟨b18, g18⟩ : ∃ z, z = h13.size := ⟨_, rfl⟩
    rw [← g18] at A18 Q18 st18
    have gl18 : h13.size ≤ b18 := Nat.le_of_eq g18.symm
    have ge18 : n0 ≤ b18 := Nat.le_trans (own_old_size F16) gl18
    have sz18 : h0.size ≤ b18 := Nat.le_trans F17.1 gl18
    have ne19 : b1 ≠ b18 := Nat.ne_of_lt (Nat.lt_of_lt_of_le F15.lt gl18)
    have F20 : Arv Z h18 b18 k18 .int (2 : Int32) [(.int (0 : Int32)), (.int (0 : Int32))] (.int (0 : Int32)) := (Arv.new A18 (by decide)).pad (pad_rep [] (.int (0 : Int32)) 2)
    refine Go.by st18 ?_
    show Go p e below _ (T18.setTop (mkF m 62 #[.val (.int ia), .val (.int ib), .val (.int ic), .val (.int id_), .val (.int iq), .val (.int j_s1), .val (.int j_s2), .val (.int j_s3), .val (.int j_t), .val (.ref b1), .unset, .unset, .unset] [(.ref b18)]))
    refine Go.by (fun t k => XS.dup X18.here hx rfl (hb hby at_62) rfl rfl k) ?_
    show Go p e below _ (T18.setTop (mkF m 63 #[.val (.int ia), .val (.int ib), .val (.int ic), .val (.int id_), .val (.int iq), .val (.int j_s1), .val (.int j_s2), .val (.int j_s3), .val (.int j_t), .val (.ref b1), .unset, .unset, .unset] [(.ref b18), (.ref b18)]))
    refine Go.by (fun t k => XS.iconst X18.here hx rfl (hb hby at_63) k) ?_
    show Go p e below _ (T18.setTop (mkF m 64 #[.val (.int ia), .val (.int ib), .val (.int ic), .val (.int id_), .val (.int iq), .val (.int j_s1), .val (.int j_s2), .val (.int j_s3), .val (.int j_t), .val (.ref b1), .unset, .unset, .unset] [(.int (0 : Int32)), (.ref b18), (.ref b18)]))
    refine Go.by (fun t k => XS.iload X18.here hx rfl (hb hby at_64) rfl k) ?_
    show Go p e below _ (T18.setTop (mkF m 66 #[.val (.int ia), .val (.int ib), .val (.int ic), .val (.int id_), .val (.int iq), .val (.int j_s1), .val (.int j_s2), .val (.int j_s3), .val (.int j_t), .val (.ref b1), .unset, .unset, .unset] [(.int j_s3), (.int (0 : Int32)), (.ref b18), (.ref b18)]))
    obtain ⟨cl21, Ar21, qk21, sz21, nn21, Ha21, Gf21⟩ := id F20
    have hin22 : ¬ ((0 : Int32) < 0 ∨ cl21.slots.size ≤ ((0 : Int32)).toNatClampNeg) := inb_of sz21 ⟨by decide, by decide⟩
    obtain ⟨T23, h23, X23, e23, W23, st23⟩ := stI X18 hx hZ e18 Ar21 (j := (0 : Int32)) hin22 (g := (mkF m 66 #[.val (.int ia), .val (.int ib), .val (.int ic), .val (.int id_), .val (.int iq), .val (.int j_s1), .val (.int j_s2), .val (.int j_s3), .val (.int j_t), .val (.ref b1), .unset, .unset, .unset] [(.int j_s3), (.int (0 : Int32)), (.ref b18), (.ref b18)])) rfl rfl (hb hby at_66)
    have N23 := Fr.snoc X23 N13 ge18
    have F24 : Arv Z h23 b18 k18 .int (2 : Int32) [(.int j_s3), (.int (0 : Int32))] (.int (0 : Int32)) := Arv.set Ar21 qk21 sz21 nn21 Ha21 Gf21 rfl W23 0 rfl (Nat.le_of_ble_eq_true rfl)
    refine Go.by st23 ?_
    show Go p e below _ (T23.setTop (mkF m 67 #[.val (.int ia), .val (.int ib), .val (.int ic), .val (.int id_), .val (.int iq), .val (.int j_s1), .val (.int j_s2), .val (.int j_s3), .val (.int j_t), .val (.ref b1), .unset, .unset, .unset] [(.ref b18)]))
    refine Go.by (fun t k => XS.dup X23.here hx rfl (hb hby at_67) rfl rfl k) ?_
    show Go p e below _ (T23.setTop (mkF m 68 #[.val (.int ia), .val (.int ib), .val (.int ic), .val (.int id_), .val (.int iq), .val (.int j_s1), .val (.int j_s2), .val (.int j_s3), .val (.int j_t), .val (.ref b1), .unset, .unset, .unset] [(.ref b18), (.ref b18)]))
    refine Go.by (fun t k => XS.iconst X23.here hx rfl (hb hby at_68) k) ?_
    show Go p e below _ (T23.setTop (mkF m 69 #[.val (.int ia), .val (.int ib), .val (.int ic), .val (.int id_), .val (.int iq), .val (.int j_s1), .val (.int j_s2), .val (.int j_s3), .val (.int j_t), .val (.ref b1), .unset, .unset, .unset] [(.int (1 : Int32)), (.ref b18), (.ref b18)]))
    refine Go.by (fun t k => XS.iload X23.here hx rfl (hb hby at_69) rfl k) ?_
    show Go p e below _ (T23.setTop (mkF m 71 #[.val (.int ia), .val (.int ib), .val (.int ic), .val (.int id_), .val (.int iq), .val (.int j_s1), .val (.int j_s2), .val (.int j_s3), .val (.int j_t), .val (.ref b1), .unset, .unset, .unset] [(.int j_t), (.int (1 : Int32)), (.ref b18), (.ref b18)]))
    obtain ⟨cl25, Ar25, qk25, sz25, nn25, Ha25, Gf25⟩ := id F24
    have hin26 : ¬ ((1 : Int32) < 0 ∨ cl25.slots.size ≤ ((1 : Int32)).toNatClampNeg) := inb_of sz25 ⟨by decide, by decide⟩
    obtain ⟨T27, h27, X27, e27, W27, st27⟩ := stI X23 hx hZ e23 Ar25 (j := (1 : Int32)) hin26 (g := (mkF m 71 #[.val (.int ia), .val (.int ib), .val (.int ic), .val (.int id_), .val (.int iq), .val (.int j_s1), .val (.int j_s2), .val (.int j_s3), .val (.int j_t), .val (.ref b1), .unset, .unset, .unset] [(.int j_t), (.int (1 : Int32)), (.ref b18), (.ref b18)])) rfl rfl (hb hby at_71)
    have N27 := Fr.snoc X27 N23 ge18
    have F28 : Arv Z h27 b18 k18 .int (2 : Int32) [(.int j_s3), (.int j_t)] (.int (0 : Int32)) := Arv.set Ar25 qk25 sz25 nn25 Ha25 Gf25 rfl W27 1 rfl (Nat.le_of_ble_eq_true rfl)
    refine Go.by st27 ?_
    show Go p e below _ (T27.setTop (mkF m 72 #[.val (.int ia), .val (.int ib), .val (.int ic), .val (.int id_), .val (.int iq), .val (.int j_s1), .val (.int j_s2), .val (.int j_s3), .val (.int j_t), .val (.ref b1), .unset, .unset, .unset] [(.ref b18)]))
    refine Go.by (fun t k => XS.astore X27.here hx rfl (hb hby at_72) rfl rfl (l' := #[.val (.int ia), .val (.int ib), .val (.int ic), .val (.int id_), .val (.int iq), .val (.int j_s1), .val (.int j_s2), .val (.int j_s3), .val (.int j_t), .val (.ref b1), .val (.ref b18), .unset, .unset]) rfl k) ?_
    show Go p e below _ (T27.setTop (mkF m 74 #[.val (.int ia), .val (.int ib), .val (.int ic), .val (.int id_), .val (.int iq), .val (.int j_s1), .val (.int j_s2), .val (.int j_s3), .val (.int j_t), .val (.ref b1), .val (.ref b18), .unset, .unset] []))
    have F29 : Exa Z h27 b1 "[I" := (((F15.ext E18).wr W23).wr W27)
    have F30 : Exa Z h27 b18 "[I" := ((Q18.wr W23).wr W27)
    have F31 : Old Z n0 h27 := (((F16.ext E18).wr W23 ge18).wr W27 ge18)
    have F32 : Keep h0 h27 [] := (((F17.ext E18).wr W23 (Or.inr sz18)).wr W27 (Or.inr sz18))
    obtain ⟨T33, h33, X33, e33, E33, A33, D33, -, st33⟩ := newO X27 hx hZ hown (hw _ (List.mem_of_getElem? (i := 1) rfl)) (hw _ (List.mem_of_getElem? (i := 2) rfl)) (hw _ (List.mem_of_getElem? (i := 3) rfl)) e27 (g := (mkF m 74 #[.val (.int ia), .val (.int ib), .val (.int ic), .val (.int id_), .val (.int iq), .val (.int j_s1), .val (.int j_s2), .val (.int j_s3), .val (.int j_t), .val (.ref b1), .val (.ref b18), .unset, .unset] [])) rfl (hb hby at_74) (by decide) (by decide)
    obtain ⟨b33, g33⟩ : ∃ z, z = h27.size := ⟨_, rfl⟩
    rw [← g33] at A33 D33 st33
    have gl33 : h27.size ≤ b33 := Nat.le_of_eq g33.symm
    have ge33 : n0 ≤ b33 := Nat.le_trans (own_old_size F31) gl33
    have sz33 : h0.size ≤ b33 := Nat.le_trans F32.1 gl33
    have ne34 : b1 ≠ b33 := Nat.ne_of_lt (Nat.lt_of_lt_of_le F29.lt gl33)
    have ne35 : b18 ≠ b33 := Nat.ne_of_lt (Nat.lt_of_lt_of_le F30.lt gl33)
    have F36 : Fld Z h33 b33 "com/example/wakepath/wakepath/automaton/NumberedStates" "bits" "[[J" .null := D33 (Or.inr (hw _ (List.mem_of_getElem? (i := 13) rfl))) (ty := (.array (.array .long))) (by decide)
    have F37 : Fld Z h33 b33 "com/example/wakepath/wakepath/automaton/NumberedStates" "firstNumber" "[[I" .null := D33 (Or.inr (hw _ (List.mem_of_getElem? (i := 17) rfl))) (ty := (.array (.array .int))) (by decide)
    refine Go.by st33 ?_
    show Go p e below _ (T33.setTop (mkF m 77 #[.val (.int ia), .val (.int ib), .val (.int ic), .val (.int id_), .val (.int iq), .val (.int j_s1), .val (.int j_s2), .val (.int j_s3), .val (.int j_t), .val (.ref b1), .val (.ref b18), .unset, .unset] [(.ref b33)]))
    refine Go.by (fun t k => XS.dup X33.here hx rfl (hb hby at_77) rfl rfl k) ?_
    show Go p e below _ (T33.setTop (mkF m 78 #[.val (.int ia), .val (.int ib), .val (.int ic), .val (.int id_), .val (.int iq), .val (.int j_s1), .val (.int j_s2), .val (.int j_s3), .val (.int j_t), .val (.ref b1), .val (.ref b18), .unset, .unset] [(.ref b33), (.ref b33)]))
    refine Go.by (fun t k => XS.aload X33.here hx rfl (hb hby at_78) rfl rfl k) ?_
    show Go p e below _ (T33.setTop (mkF m 80 #[.val (.int ia), .val (.int ib), .val (.int ic), .val (.int id_), .val (.int iq), .val (.int j_s1), .val (.int j_s2), .val (.int j_s3), .val (.int j_t), .val (.ref b1), .val (.ref b18), .unset, .unset] [(.ref b1), (.ref b33), (.ref b33)]))
    refine Go.by (fun t k => XS.aload X33.here hx rfl (hb hby at_80) rfl rfl k) ?_
    show Go p e below _ (T33.setTop (mkF m 82 #[.val (.int ia), .val (.int ib), .val (.int ic), .val (.int id_), .val (.int iq), .val (.int j_s1), .val (.int j_s2), .val (.int j_s3), .val (.int j_t), .val (.ref b1), .val (.ref b18), .unset, .unset] [(.ref b18), (.ref b1), (.ref b33), (.ref b33)]))
    have F39 : Old Z n0 h33 := (F31.ext E33)
    have F40 : Arv Z h33 b1 k1 .int (3 : Int32) [(.int iq), (.int (iq + (3 : Int32))), (.int (iq + (4 : Int32)))] (.int (0 : Int32)) := ((((F14.ext E18).other W23 ne19).other W27 ne19).ext E33)
    have F41 : Arv Z h33 b18 k18 .int (2 : Int32) [(.int j_s3), (.int j_t)] (.int (0 : Int32)) := (F28.ext E33)
    have F42 : Exa Z h33 b1 "[I" := (F29.ext E33)
    have F43 : Exa Z h33 b18 "[I" := (F30.ext E33)
    have F44 : Keep h0 h33 [] := (F32.ext E33)
    obtain ⟨_, _, ⟨T38, L38, k38, n38⟩, -, X38, ⟨Lc38, hQ38, l38, y38, z38⟩, st38⟩ := X33.specialBack hx (y := (⟨"com/example/wakepath/wakepath/automaton/NumberedStates", "<init>", "([I[I)V"⟩ : MethodName)) rfl hown (mvT hZ (hw _ (List.mem_of_getElem? (i := 4) rfl))) (mvT hZ (hw _ (List.mem_of_getElem? (i := 5) rfl))) (mvT hZ (hw _ (List.mem_of_getElem? (i := 6) rfl))) (by decide) (backOf (W := 1) (init l Z a0 hw [] b33 b1 b18 iq (iq + (3 : Int32)) (iq + (4 : Int32)) j_s3 j_t k1 k18 h33 n0 F39 A33 F36 F37 F40 F41 ge33 ne34 ne35 (own_d1 _) (own_d2 _) (own_h3 hs) (own_ht hs)) hZ (hw _ (List.mem_of_getElem? (i := 6) rfl)) (hw _ (List.mem_of_getElem? (i := 3) rfl)) (by decide) (by decide)) (g := (mkF m 82 #[.val (.int ia), .val (.int ib), .val (.int ic), .val (.int id_), .val (.int iq), .val (.int j_s1), .val (.int j_s2), .val (.int j_s3), .val (.int j_t), .val (.ref b1), .val (.ref b18), .unset, .unset] [(.ref b18), (.ref b1), (.ref b33), (.ref b33)])) rfl (by rw [hml]; rfl) (Steps.refl _) (a := b33) (argsL := [(.ref b1), (.ref b18)]) (rest := [(.ref b33)]) (lenOf pd_1 rfl) rfl (by show 2 * 0 + _ ≤ _; exact Nat.le_of_eq rfl) (hb hby at_82) (fun _ _ => ⟨rfl, e33, (by decide : 3 + 6 ≤ _), (by decide : 7 + 20 ≤ _)⟩)
    dsimp only [Pt.U, Pt.locs, Pt.cells, Pt.slots] at X38 l38 y38 z38 st38 hQ38
    subst l38 y38 z38
    obtain ⟨bb_38, gg_38, b0_38, g0_38, b1_38, g1_38, kb_38, kg_38, rfl, N38q, K38, fz38_bb, fz38_gg, fz38_b0, fz38_g0, fz38_b1, fz38_g1, F38_0, F38_1, F38_2, F38_3, F38_4, F38_5, F38_6, F38_7, F38_8, n_bb_gg_38, n_bb_b0_38, n_bb_g0_38, n_bb_b1_38, n_bb_g1_38, n_gg_b0_38, n_gg_g0_38, n_gg_b1_38, n_gg_g1_38, n_b0_g0_38, n_b0_b1_38, n_b0_g1_38, n_g0_b1_38, n_g0_g1_38, n_b1_g1_38⟩ := hQ38
    have N38 := Fr.app N27 N38q
    have ge_bb_38 : n0 ≤ bb_38 := Nat.le_trans (own_old_size F39) fz38_bb
    have sz_bb_38 : h0.size ≤ bb_38 := Nat.le_trans F44.1 fz38_bb
    have ne45 : b1 ≠ bb_38 := Nat.ne_of_lt (Nat.lt_of_lt_of_le F42.lt fz38_bb)
    have ne46 : b18 ≠ bb_38 := Nat.ne_of_lt (Nat.lt_of_lt_of_le F43.lt fz38_bb)
    have ne47 : b33 ≠ bb_38 := Nat.ne_of_lt (Nat.lt_of_lt_of_le A33.lt fz38_bb)
    have ge_gg_38 : n0 ≤ gg_38 := Nat.le_trans (own_old_size F39) fz38_gg
    have sz_gg_38 : h0.size ≤ gg_38 := Nat.le_trans F44.1 fz38_gg
    have ne48 : b1 ≠ gg_38 := Nat.ne_of_lt (Nat.lt_of_lt_of_le F42.lt fz38_gg)
    have ne49 : b18 ≠ gg_38 := Nat.ne_of_lt (Nat.lt_of_lt_of_le F43.lt fz38_gg)
    have ne50 : b33 ≠ gg_38 := Nat.ne_of_lt (Nat.lt_of_lt_of_le A33.lt fz38_gg)
    have ge_b0_38 : n0 ≤ b0_38 := Nat.le_trans (own_old_size F39) fz38_b0
    have sz_b0_38 : h0.size ≤ b0_38 := Nat.le_trans F44.1 fz38_b0
    have ne51 : b1 ≠ b0_38 := Nat.ne_of_lt (Nat.lt_of_lt_of_le F42.lt fz38_b0)
    have ne52 : b18 ≠ b0_38 := Nat.ne_of_lt (Nat.lt_of_lt_of_le F43.lt fz38_b0)
    have ne53 : b33 ≠ b0_38 := Nat.ne_of_lt (Nat.lt_of_lt_of_le A33.lt fz38_b0)
    have ge_g0_38 : n0 ≤ g0_38 := Nat.le_trans (own_old_size F39) fz38_g0
    have sz_g0_38 : h0.size ≤ g0_38 := Nat.le_trans F44.1 fz38_g0
    have ne54 : b1 ≠ g0_38 := Nat.ne_of_lt (Nat.lt_of_lt_of_le F42.lt fz38_g0)
    have ne55 : b18 ≠ g0_38 := Nat.ne_of_lt (Nat.lt_of_lt_of_le F43.lt fz38_g0)
    have ne56 : b33 ≠ g0_38 := Nat.ne_of_lt (Nat.lt_of_lt_of_le A33.lt fz38_g0)
    have ge_b1_38 : n0 ≤ b1_38 := Nat.le_trans (own_old_size F39) fz38_b1
    have sz_b1_38 : h0.size ≤ b1_38 := Nat.le_trans F44.1 fz38_b1
    have ne57 : b1 ≠ b1_38 := Nat.ne_of_lt (Nat.lt_of_lt_of_le F42.lt fz38_b1)
    have ne58 : b18 ≠ b1_38 := Nat.ne_of_lt (Nat.lt_of_lt_of_le F43.lt fz38_b1)
    have ne59 : b33 ≠ b1_38 := Nat.ne_of_lt (Nat.lt_of_lt_of_le A33.lt fz38_b1)
    have ge_g1_38 : n0 ≤ g1_38 := Nat.le_trans (own_old_size F39) fz38_g1
    have sz_g1_38 : h0.size ≤ g1_38 := Nat.le_trans F44.1 fz38_g1
    have ne60 : b1 ≠ g1_38 := Nat.ne_of_lt (Nat.lt_of_lt_of_le F42.lt fz38_g1)
    have ne61 : b18 ≠ g1_38 := Nat.ne_of_lt (Nat.lt_of_lt_of_le F43.lt fz38_g1)
    have ne62 : b33 ≠ g1_38 := Nat.ne_of_lt (Nat.lt_of_lt_of_le A33.lt fz38_g1)
    refine Go.tr st38 ?_
    show Go p e below _ (T38.setTop (mkF m 85 #[.val (.int ia), .val (.int ib), .val (.int ic), .val (.int id_), .val (.int iq), .val (.int j_s1), .val (.int j_s2), .val (.int j_s3), .val (.int j_t), .val (.ref b1), .val (.ref b18), .unset, .unset] [(.ref b33)]))
    refine Go.by (fun t k => XS.astore X38.here hx rfl (hb hby at_85) rfl rfl (l' := #[.val (.int ia), .val (.int ib), .val (.int ic), .val (.int id_), .val (.int iq), .val (.int j_s1), .val (.int j_s2), .val (.int j_s3), .val (.int j_t), .val (.ref b1), .val (.ref b18), .val (.ref b33), .unset]) rfl k) ?_
    show Go p e below _ (T38.setTop (mkF m 87 #[.val (.int ia), .val (.int ib), .val (.int ic), .val (.int id_), .val (.int iq), .val (.int j_s1), .val (.int j_s2), .val (.int j_s3), .val (.int j_t), .val (.ref b1), .val (.ref b18), .val (.ref b33), .unset] []))
    refine Go.by (fun t k => XS.aload X38.here hx rfl (hb hby at_87) rfl rfl k) ?_
    show Go p e below _ (T38.setTop (mkF m 89 #[.val (.int ia), .val (.int ib), .val (.int ic), .val (.int id_), .val (.int iq), .val (.int j_s1), .val (.int j_s2), .val (.int j_s3), .val (.int j_t), .val (.ref b1), .val (.ref b18), .val (.ref b33), .unset] [(.ref b33)]))
    refine Go.by (fun t k => XS.iconst X38.here hx rfl (hb hby at_89) k) ?_
    show Go p e below _ (T38.setTop (mkF m 90 #[.val (.int ia), .val (.int ib), .val (.int ic), .val (.int id_), .val (.int iq), .val (.int j_s1), .val (.int j_s2), .val (.int j_s3), .val (.int j_t), .val (.ref b1), .val (.ref b18), .val (.ref b33), .unset] [(.int (0 : Int32)), (.ref b33)]))
    refine Go.by (fun t k => XS.iload X38.here hx rfl (hb hby at_90) rfl k) ?_
    show Go p e below _ (T38.setTop (mkF m 92 #[.val (.int ia), .val (.int ib), .val (.int ic), .val (.int id_), .val (.int iq), .val (.int j_s1), .val (.int j_s2), .val (.int j_s3), .val (.int j_t), .val (.ref b1), .val (.ref b18), .val (.ref b33), .unset] [(.int j_s1), (.int (0 : Int32)), (.ref b33)]))
    refine Go.by (fun t k => XS.iload X38.here hx rfl (hb hby at_92) rfl k) ?_
    show Go p e below _ (T38.setTop (mkF m 94 #[.val (.int ia), .val (.int ib), .val (.int ic), .val (.int id_), .val (.int iq), .val (.int j_s1), .val (.int j_s2), .val (.int j_s3), .val (.int j_t), .val (.ref b1), .val (.ref b18), .val (.ref b33), .unset] [(.int iq), (.int j_s1), (.int (0 : Int32)), (.ref b33)]))
    have F64 : Old Z n0 T38.heap := (F39.keep K38 (allS ge33 all0))
    have F65 : Keep h0 T38.heap [] := (F44.trans K38 (allS (Or.inr sz33) all0))
    obtain ⟨cq63, kq63, q63a, q63b, q63c⟩ := isOf hZ rfl F38_0
    obtain ⟨_, _, ⟨T63, L63, k63, n63⟩, -, X63, ⟨Lc63, hQ63, l63, y63, z63⟩, st63⟩ := X38.virtualBack hx (y := (⟨"com/example/wakepath/wakepath/automaton/NumberedStates", "add", "(III)V"⟩ : MethodName)) (z := (⟨"com/example/wakepath/wakepath/automaton/NumberedStates", "add", "(III)V"⟩ : MethodName)) hown (mvT hZ (hw _ (List.mem_of_getElem? (i := 21) rfl))) (mvT hZ (hw _ (List.mem_of_getElem? (i := 22) rfl))) (notFace_of_selects (args := #[]) (mvT hZ (hw _ (List.mem_of_getElem? (i := 24) rfl)))) (mvT hZ (hw _ (List.mem_of_getElem? (i := 24) rfl))) (mvT hZ (hw _ (List.mem_of_getElem? (i := 23) rfl))) (by decide) (backOf (W := 0) (add_0 l Z a0 hw [] b33 j_s1 iq bb_38 gg_38 b0_38 g0_38 b1_38 g1_38 kb_38 kg_38 (((j_s3.toUInt32 >>> ((6 : Int32) &&& 31).toUInt32).toInt32) + (1 : Int32)) (fun _ => (0 : Int64)) (fun _ => (0 : Int32)) T38.heap n0 F64 F38_1 F38_2 F38_3 F38_4 F38_5 F38_6 ge_b0_38 ge_g0_38 n_b0_g0_38 ne53 ne56 n_bb_b0_38 n_bb_g0_38 n_gg_b0_38 n_gg_g0_38 (own_in1 hs)) hZ (hw _ (List.mem_of_getElem? (i := 25) rfl)) (hw _ (List.mem_of_getElem? (i := 3) rfl)) (by decide) (by decide)) q63a q63c (g := (mkF m 94 #[.val (.int ia), .val (.int ib), .val (.int ic), .val (.int id_), .val (.int iq), .val (.int j_s1), .val (.int j_s2), .val (.int j_s3), .val (.int j_t), .val (.ref b1), .val (.ref b18), .val (.ref b33), .unset] [(.int iq), (.int j_s1), (.int (0 : Int32)), (.ref b33)])) rfl (by rw [hml]; rfl) (Steps.refl _) (argsL := [(.int (0 : Int32)), (.int j_s1), (.int iq)]) (rest := []) (lenOf pd_2 rfl) rfl (by show 2 * 0 + _ ≤ _; exact Nat.le_of_eq rfl) (hb hby at_94) (fun _ _ => ⟨rfl, rfl, (by decide : 9 + 0 ≤ _), (by decide : 27 + 0 ≤ _)⟩)
    dsimp only [Pt.U, Pt.locs, Pt.cells, Pt.slots] at X63 l63 y63 z63 st63 hQ63
    subst l63 y63 z63
    obtain ⟨rfl, N63q, K63, F63_0, F63_1⟩ := hQ63
    have N63 := Fr.app N38 N63q
    refine Go.tr st63 ?_
    show Go p e below _ (T63.setTop (mkF m 97 #[.val (.int ia), .val (.int ib), .val (.int ic), .val (.int id_), .val (.int iq), .val (.int j_s1), .val (.int j_s2), .val (.int j_s3), .val (.int j_t), .val (.ref b1), .val (.ref b18), .val (.ref b33), .unset] []))
    refine Go.by (fun t k => XS.aload X63.here hx rfl (hb hby at_97) rfl rfl k) ?_
    show Go p e below _ (T63.setTop (mkF m 99 #[.val (.int ia), .val (.int ib), .val (.int ic), .val (.int id_), .val (.int iq), .val (.int j_s1), .val (.int j_s2), .val (.int j_s3), .val (.int j_t), .val (.ref b1), .val (.ref b18), .val (.ref b33), .unset] [(.ref b33)]))
    refine Go.by (fun t k => XS.iconst X63.here hx rfl (hb hby at_99) k) ?_
    show Go p e below _ (T63.setTop (mkF m 100 #[.val (.int ia), .val (.int ib), .val (.int ic), .val (.int id_), .val (.int iq), .val (.int j_s1), .val (.int j_s2), .val (.int j_s3), .val (.int j_t), .val (.ref b1), .val (.ref b18), .val (.ref b33), .unset] [(.int (0 : Int32)), (.ref b33)]))
    refine Go.by (fun t k => XS.iload X63.here hx rfl (hb hby at_100) rfl k) ?_
    show Go p e below _ (T63.setTop (mkF m 102 #[.val (.int ia), .val (.int ib), .val (.int ic), .val (.int id_), .val (.int iq), .val (.int j_s1), .val (.int j_s2), .val (.int j_s3), .val (.int j_t), .val (.ref b1), .val (.ref b18), .val (.ref b33), .unset] [(.int j_s2), (.int (0 : Int32)), (.ref b33)]))
    refine Go.by (fun t k => XS.iload X63.here hx rfl (hb hby at_102) rfl k) ?_
    show Go p e below _ (T63.setTop (mkF m 104 #[.val (.int ia), .val (.int ib), .val (.int ic), .val (.int id_), .val (.int iq), .val (.int j_s1), .val (.int j_s2), .val (.int j_s3), .val (.int j_t), .val (.ref b1), .val (.ref b18), .val (.ref b33), .unset] [(.int iq), (.int j_s2), (.int (0 : Int32)), (.ref b33)]))
    refine Go.by (fun t k => XS.iconst X63.here hx rfl (hb hby at_104) k) ?_
    show Go p e below _ (T63.setTop (mkF m 105 #[.val (.int ia), .val (.int ib), .val (.int ic), .val (.int id_), .val (.int iq), .val (.int j_s1), .val (.int j_s2), .val (.int j_s3), .val (.int j_t), .val (.ref b1), .val (.ref b18), .val (.ref b33), .unset] [(.int (1 : Int32)), (.int iq), (.int j_s2), (.int (0 : Int32)), (.ref b33)]))
    refine Go.by (fun t k => XS.iadd X63.here hx rfl (hb hby at_105) rfl k) ?_
    show Go p e below _ (T63.setTop (mkF m 106 #[.val (.int ia), .val (.int ib), .val (.int ic), .val (.int id_), .val (.int iq), .val (.int j_s1), .val (.int j_s2), .val (.int j_s3), .val (.int j_t), .val (.ref b1), .val (.ref b18), .val (.ref b33), .unset] [(.int (iq + (1 : Int32))), (.int j_s2), (.int (0 : Int32)), (.ref b33)]))
    have F67 : Old Z n0 T63.heap := (F64.keep K63 (allS ge_b0_38 (allS ge_g0_38 all0)))
    have F68 : Fld Z T63.heap b33 "com/example/wakepath/wakepath/automaton/NumberedStates" "bits" "[[J" (.ref bb_38) := (F38_1.keep K63 (ninS ne53 (ninS ne56 nin0)))
    have F69 : Fld Z T63.heap b33 "com/example/wakepath/wakepath/automaton/NumberedStates" "firstNumber" "[[I" (.ref gg_38) := (F38_2.keep K63 (ninS ne53 (ninS ne56 nin0)))
    have F70 : Arv Z T63.heap bb_38 kb_38 (.array .long) (2 : Int32) [(.ref b0_38), (.ref b1_38)] .null := (F38_3.keep K63 (ninS n_bb_b0_38 (ninS n_bb_g0_38 nin0)))
    have F71 : Arv Z T63.heap gg_38 kg_38 (.array .int) (2 : Int32) [(.ref g0_38), (.ref g1_38)] .null := (F38_4.keep K63 (ninS n_gg_b0_38 (ninS n_gg_g0_38 nin0)))
    have F72 : Keep h0 T63.heap [] := (F65.trans K63 (allS (Or.inr sz_b0_38) (allS (Or.inr sz_g0_38) all0)))
    have F73 : Exa Z T63.heap b33 "com/example/wakepath/wakepath/automaton/NumberedStates" := (F38_0.keep K63)
    obtain ⟨cq66, kq66, q66a, q66b, q66c⟩ := isOf hZ rfl F73
    obtain ⟨_, _, ⟨T66, L66, k66, n66⟩, -, X66, ⟨Lc66, hQ66, l66, y66, z66⟩, st66⟩ := X63.virtualBack hx (y := (⟨"com/example/wakepath/wakepath/automaton/NumberedStates", "add", "(III)V"⟩ : MethodName)) (z := (⟨"com/example/wakepath/wakepath/automaton/NumberedStates", "add", "(III)V"⟩ : MethodName)) hown (mvT hZ (hw _ (List.mem_of_getElem? (i := 21) rfl))) (mvT hZ (hw _ (List.mem_of_getElem? (i := 22) rfl))) (notFace_of_selects (args := #[]) (mvT hZ (hw _ (List.mem_of_getElem? (i := 24) rfl)))) (mvT hZ (hw _ (List.mem_of_getElem? (i := 24) rfl))) (mvT hZ (hw _ (List.mem_of_getElem? (i := 23) rfl))) (by decide) (backOf (W := 0) (add_0 l Z a0 hw [] b33 j_s2 (iq + (1 : Int32)) bb_38 gg_38 b0_38 g0_38 b1_38 g1_38 kb_38 kg_38 (((j_s3.toUInt32 >>> ((6 : Int32) &&& 31).toUInt32).toInt32) + (1 : Int32)) (own_addL (fun _ => (0 : Int64)) j_s1) (own_addI (fun _ => (0 : Int64)) (fun _ => (0 : Int32)) j_s1 iq) T63.heap n0 F67 F68 F69 F70 F71 F63_0 F63_1 ge_b0_38 ge_g0_38 n_b0_g0_38 ne53 ne56 n_bb_b0_38 n_bb_g0_38 n_gg_b0_38 n_gg_g0_38 (own_in2 hs)) hZ (hw _ (List.mem_of_getElem? (i := 25) rfl)) (hw _ (List.mem_of_getElem? (i := 3) rfl)) (by decide) (by decide)) q66a q66c (g := (mkF m 106 #[.val (.int ia), .val (.int ib), .val (.int ic), .val (.int id_), .val (.int iq), .val (.int j_s1), .val (.int j_s2), .val (.int j_s3), .val (.int j_t), .val (.ref b1), .val (.ref b18), .val (.ref b33), .unset] [(.int (iq + (1 : Int32))), (.int j_s2), (.int (0 : Int32)), (.ref b33)])) rfl (by rw [hml]; rfl) (Steps.refl _) (argsL := [(.int (0 : Int32)), (.int j_s2), (.int (iq + (1 : Int32)))]) (rest := []) (lenOf pd_2 rfl) rfl (by show 2 * 0 + _ ≤ _; exact Nat.le_of_eq rfl) (hb hby at_106) (fun _ _ => ⟨rfl, rfl, (by decide : 9 + 0 ≤ _), (by decide : 27 + 0 ≤ _)⟩)
    dsimp only [Pt.U, Pt.locs, Pt.cells, Pt.slots] at X66 l66 y66 z66 st66 hQ66
    subst l66 y66 z66
    obtain ⟨rfl, N66q, K66, F66_0, F66_1⟩ := hQ66
    have N66 := Fr.app N63 N66q
    refine Go.tr st66 ?_
    show Go p e below _ (T66.setTop (mkF m 109 #[.val (.int ia), .val (.int ib), .val (.int ic), .val (.int id_), .val (.int iq), .val (.int j_s1), .val (.int j_s2), .val (.int j_s3), .val (.int j_t), .val (.ref b1), .val (.ref b18), .val (.ref b33), .unset] []))
    refine Go.by (fun t k => XS.aload X66.here hx rfl (hb hby at_109) rfl rfl k) ?_
    show Go p e below _ (T66.setTop (mkF m 111 #[.val (.int ia), .val (.int ib), .val (.int ic), .val (.int id_), .val (.int iq), .val (.int j_s1), .val (.int j_s2), .val (.int j_s3), .val (.int j_t), .val (.ref b1), .val (.ref b18), .val (.ref b33), .unset] [(.ref b33)]))
    refine Go.by (fun t k => XS.iconst X66.here hx rfl (hb hby at_111) k) ?_
    show Go p e below _ (T66.setTop (mkF m 112 #[.val (.int ia), .val (.int ib), .val (.int ic), .val (.int id_), .val (.int iq), .val (.int j_s1), .val (.int j_s2), .val (.int j_s3), .val (.int j_t), .val (.ref b1), .val (.ref b18), .val (.ref b33), .unset] [(.int (1 : Int32)), (.ref b33)]))
    refine Go.by (fun t k => XS.iload X66.here hx rfl (hb hby at_112) rfl k) ?_
    show Go p e below _ (T66.setTop (mkF m 114 #[.val (.int ia), .val (.int ib), .val (.int ic), .val (.int id_), .val (.int iq), .val (.int j_s1), .val (.int j_s2), .val (.int j_s3), .val (.int j_t), .val (.ref b1), .val (.ref b18), .val (.ref b33), .unset] [(.int j_t), (.int (1 : Int32)), (.ref b33)]))
    refine Go.by (fun t k => XS.iload X66.here hx rfl (hb hby at_114) rfl k) ?_
    show Go p e below _ (T66.setTop (mkF m 116 #[.val (.int ia), .val (.int ib), .val (.int ic), .val (.int id_), .val (.int iq), .val (.int j_s1), .val (.int j_s2), .val (.int j_s3), .val (.int j_t), .val (.ref b1), .val (.ref b18), .val (.ref b33), .unset] [(.int iq), (.int j_t), (.int (1 : Int32)), (.ref b33)]))
    refine Go.by (fun t k => XS.iconst X66.here hx rfl (hb hby at_116) k) ?_
    show Go p e below _ (T66.setTop (mkF m 117 #[.val (.int ia), .val (.int ib), .val (.int ic), .val (.int id_), .val (.int iq), .val (.int j_s1), .val (.int j_s2), .val (.int j_s3), .val (.int j_t), .val (.ref b1), .val (.ref b18), .val (.ref b33), .unset] [(.int (3 : Int32)), (.int iq), (.int j_t), (.int (1 : Int32)), (.ref b33)]))
    refine Go.by (fun t k => XS.iadd X66.here hx rfl (hb hby at_117) rfl k) ?_
    show Go p e below _ (T66.setTop (mkF m 118 #[.val (.int ia), .val (.int ib), .val (.int ic), .val (.int id_), .val (.int iq), .val (.int j_s1), .val (.int j_s2), .val (.int j_s3), .val (.int j_t), .val (.ref b1), .val (.ref b18), .val (.ref b33), .unset] [(.int (iq + (3 : Int32))), (.int j_t), (.int (1 : Int32)), (.ref b33)]))
    have F75 : Old Z n0 T66.heap := (F67.keep K66 (allS ge_b0_38 (allS ge_g0_38 all0)))
    have F76 : Fld Z T66.heap b33 "com/example/wakepath/wakepath/automaton/NumberedStates" "bits" "[[J" (.ref bb_38) := (F68.keep K66 (ninS ne53 (ninS ne56 nin0)))
    have F77 : Fld Z T66.heap b33 "com/example/wakepath/wakepath/automaton/NumberedStates" "firstNumber" "[[I" (.ref gg_38) := (F69.keep K66 (ninS ne53 (ninS ne56 nin0)))
    have F78 : Arv Z T66.heap bb_38 kb_38 (.array .long) (2 : Int32) [(.ref b0_38), (.ref b1_38)] .null := (F70.keep K66 (ninS n_bb_b0_38 (ninS n_bb_g0_38 nin0)))
    have F79 : Arv Z T66.heap gg_38 kg_38 (.array .int) (2 : Int32) [(.ref g0_38), (.ref g1_38)] .null := (F71.keep K66 (ninS n_gg_b0_38 (ninS n_gg_g0_38 nin0)))
    have F80 : own_La Z T66.heap b1_38 (((j_t.toUInt32 >>> ((6 : Int32) &&& 31).toUInt32).toInt32) + (1 : Int32)) (fun _ => (0 : Int64)) := ((F38_7.keep K63 (ninS (Ne.symm n_b0_b1_38) (ninS (Ne.symm n_g0_b1_38) nin0))).keep K66 (ninS (Ne.symm n_b0_b1_38) (ninS (Ne.symm n_g0_b1_38) nin0)))
    have F81 : own_Ia Z T66.heap g1_38 (((j_t.toUInt32 >>> ((6 : Int32) &&& 31).toUInt32).toInt32) + (1 : Int32)) (fun _ => (0 : Int32)) := ((F38_8.keep K63 (ninS (Ne.symm n_b0_g1_38) (ninS (Ne.symm n_g0_g1_38) nin0))).keep K66 (ninS (Ne.symm n_b0_g1_38) (ninS (Ne.symm n_g0_g1_38) nin0)))
    have F82 : Keep h0 T66.heap [] := (F72.trans K66 (allS (Or.inr sz_b0_38) (allS (Or.inr sz_g0_38) all0)))
    have F83 : Exa Z T66.heap b33 "com/example/wakepath/wakepath/automaton/NumberedStates" := (F73.keep K66)
    obtain ⟨cq74, kq74, q74a, q74b, q74c⟩ := isOf hZ rfl F83
    obtain ⟨_, _, ⟨T74, L74, k74, n74⟩, -, X74, ⟨Lc74, hQ74, l74, y74, z74⟩, st74⟩ := X66.virtualBack hx (y := (⟨"com/example/wakepath/wakepath/automaton/NumberedStates", "add", "(III)V"⟩ : MethodName)) (z := (⟨"com/example/wakepath/wakepath/automaton/NumberedStates", "add", "(III)V"⟩ : MethodName)) hown (mvT hZ (hw _ (List.mem_of_getElem? (i := 21) rfl))) (mvT hZ (hw _ (List.mem_of_getElem? (i := 22) rfl))) (notFace_of_selects (args := #[]) (mvT hZ (hw _ (List.mem_of_getElem? (i := 24) rfl)))) (mvT hZ (hw _ (List.mem_of_getElem? (i := 24) rfl))) (mvT hZ (hw _ (List.mem_of_getElem? (i := 23) rfl))) (by decide) (backOf (W := 0) (add_1 l Z a0 hw [] b33 j_t (iq + (3 : Int32)) bb_38 gg_38 b0_38 g0_38 b1_38 g1_38 kb_38 kg_38 (((j_t.toUInt32 >>> ((6 : Int32) &&& 31).toUInt32).toInt32) + (1 : Int32)) (fun _ => (0 : Int64)) (fun _ => (0 : Int32)) T66.heap n0 F75 F76 F77 F78 F79 F80 F81 ge_b1_38 ge_g1_38 n_b1_g1_38 ne59 ne62 n_bb_b1_38 n_bb_g1_38 n_gg_b1_38 n_gg_g1_38 (own_int hs)) hZ (hw _ (List.mem_of_getElem? (i := 25) rfl)) (hw _ (List.mem_of_getElem? (i := 3) rfl)) (by decide) (by decide)) q74a q74c (g := (mkF m 118 #[.val (.int ia), .val (.int ib), .val (.int ic), .val (.int id_), .val (.int iq), .val (.int j_s1), .val (.int j_s2), .val (.int j_s3), .val (.int j_t), .val (.ref b1), .val (.ref b18), .val (.ref b33), .unset] [(.int (iq + (3 : Int32))), (.int j_t), (.int (1 : Int32)), (.ref b33)])) rfl (by rw [hml]; rfl) (Steps.refl _) (argsL := [(.int (1 : Int32)), (.int j_t), (.int (iq + (3 : Int32)))]) (rest := []) (lenOf pd_2 rfl) rfl (by show 2 * 0 + _ ≤ _; exact Nat.le_of_eq rfl) (hb hby at_118) (fun _ _ => ⟨rfl, rfl, (by decide : 9 + 0 ≤ _), (by decide : 27 + 0 ≤ _)⟩)
    dsimp only [Pt.U, Pt.locs, Pt.cells, Pt.slots] at X74 l74 y74 z74 st74 hQ74
    subst l74 y74 z74
    obtain ⟨rfl, N74q, K74, F74_0, F74_1⟩ := hQ74
    have N74 := Fr.app N66 N74q
    refine Go.tr st74 ?_
    show Go p e below _ (T74.setTop (mkF m 121 #[.val (.int ia), .val (.int ib), .val (.int ic), .val (.int id_), .val (.int iq), .val (.int j_s1), .val (.int j_s2), .val (.int j_s3), .val (.int j_t), .val (.ref b1), .val (.ref b18), .val (.ref b33), .unset] []))
    refine Go.by (fun t k => XS.aload X74.here hx rfl (hb hby at_121) rfl rfl k) ?_
    show Go p e below _ (T74.setTop (mkF m 123 #[.val (.int ia), .val (.int ib), .val (.int ic), .val (.int id_), .val (.int iq), .val (.int j_s1), .val (.int j_s2), .val (.int j_s3), .val (.int j_t), .val (.ref b1), .val (.ref b18), .val (.ref b33), .unset] [(.ref b33)]))
    refine Go.by (fun t k => XS.iconst X74.here hx rfl (hb hby at_123) k) ?_
    show Go p e below _ (T74.setTop (mkF m 124 #[.val (.int ia), .val (.int ib), .val (.int ic), .val (.int id_), .val (.int iq), .val (.int j_s1), .val (.int j_s2), .val (.int j_s3), .val (.int j_t), .val (.ref b1), .val (.ref b18), .val (.ref b33), .unset] [(.int (0 : Int32)), (.ref b33)]))
    refine Go.by (fun t k => XS.iload X74.here hx rfl (hb hby at_124) rfl k) ?_
    show Go p e below _ (T74.setTop (mkF m 126 #[.val (.int ia), .val (.int ib), .val (.int ic), .val (.int id_), .val (.int iq), .val (.int j_s1), .val (.int j_s2), .val (.int j_s3), .val (.int j_t), .val (.ref b1), .val (.ref b18), .val (.ref b33), .unset] [(.int j_s3), (.int (0 : Int32)), (.ref b33)]))
    refine Go.by (fun t k => XS.iload X74.here hx rfl (hb hby at_126) rfl k) ?_
    show Go p e below _ (T74.setTop (mkF m 128 #[.val (.int ia), .val (.int ib), .val (.int ic), .val (.int id_), .val (.int iq), .val (.int j_s1), .val (.int j_s2), .val (.int j_s3), .val (.int j_t), .val (.ref b1), .val (.ref b18), .val (.ref b33), .unset] [(.int iq), (.int j_s3), (.int (0 : Int32)), (.ref b33)]))
    refine Go.by (fun t k => XS.iconst X74.here hx rfl (hb hby at_128) k) ?_
    show Go p e below _ (T74.setTop (mkF m 129 #[.val (.int ia), .val (.int ib), .val (.int ic), .val (.int id_), .val (.int iq), .val (.int j_s1), .val (.int j_s2), .val (.int j_s3), .val (.int j_t), .val (.ref b1), .val (.ref b18), .val (.ref b33), .unset] [(.int (2 : Int32)), (.int iq), (.int j_s3), (.int (0 : Int32)), (.ref b33)]))
    refine Go.by (fun t k => XS.iadd X74.here hx rfl (hb hby at_129) rfl k) ?_
    show Go p e below _ (T74.setTop (mkF m 130 #[.val (.int ia), .val (.int ib), .val (.int ic), .val (.int id_), .val (.int iq), .val (.int j_s1), .val (.int j_s2), .val (.int j_s3), .val (.int j_t), .val (.ref b1), .val (.ref b18), .val (.ref b33), .unset] [(.int (iq + (2 : Int32))), (.int j_s3), (.int (0 : Int32)), (.ref b33)]))
    have F85 : Old Z n0 T74.heap := (F75.keep K74 (allS ge_b1_38 (allS ge_g1_38 all0)))
    have F86 : Fld Z T74.heap b33 "com/example/wakepath/wakepath/automaton/NumberedStates" "bits" "[[J" (.ref bb_38) := (F76.keep K74 (ninS ne59 (ninS ne62 nin0)))
    have F87 : Fld Z T74.heap b33 "com/example/wakepath/wakepath/automaton/NumberedStates" "firstNumber" "[[I" (.ref gg_38) := (F77.keep K74 (ninS ne59 (ninS ne62 nin0)))
    have F88 : Arv Z T74.heap bb_38 kb_38 (.array .long) (2 : Int32) [(.ref b0_38), (.ref b1_38)] .null := (F78.keep K74 (ninS n_bb_b1_38 (ninS n_bb_g1_38 nin0)))
    have F89 : Arv Z T74.heap gg_38 kg_38 (.array .int) (2 : Int32) [(.ref g0_38), (.ref g1_38)] .null := (F79.keep K74 (ninS n_gg_b1_38 (ninS n_gg_g1_38 nin0)))
    have F90 : own_La Z T74.heap b0_38 (((j_s3.toUInt32 >>> ((6 : Int32) &&& 31).toUInt32).toInt32) + (1 : Int32)) (own_addL (own_addL (fun _ => (0 : Int64)) j_s1) j_s2) := (F66_0.keep K74 (ninS n_b0_b1_38 (ninS n_b0_g1_38 nin0)))
    have F91 : own_Ia Z T74.heap g0_38 (((j_s3.toUInt32 >>> ((6 : Int32) &&& 31).toUInt32).toInt32) + (1 : Int32)) (own_addI (own_addL (fun _ => (0 : Int64)) j_s1) (own_addI (fun _ => (0 : Int64)) (fun _ => (0 : Int32)) j_s1 iq) j_s2 (iq + (1 : Int32))) := (F66_1.keep K74 (ninS n_g0_b1_38 (ninS n_g0_g1_38 nin0)))
    have F92 : Keep h0 T74.heap [] := (F82.trans K74 (allS (Or.inr sz_b1_38) (allS (Or.inr sz_g1_38) all0)))
    have F93 : Exa Z T74.heap b33 "com/example/wakepath/wakepath/automaton/NumberedStates" := (F83.keep K74)
    obtain ⟨cq84, kq84, q84a, q84b, q84c⟩ := isOf hZ rfl F93
    obtain ⟨_, _, ⟨T84, L84, k84, n84⟩, -, X84, ⟨Lc84, hQ84, l84, y84, z84⟩, st84⟩ := X74.virtualBack hx (y := (⟨"com/example/wakepath/wakepath/automaton/NumberedStates", "add", "(III)V"⟩ : MethodName)) (z := (⟨"com/example/wakepath/wakepath/automaton/NumberedStates", "add", "(III)V"⟩ : MethodName)) hown (mvT hZ (hw _ (List.mem_of_getElem? (i := 21) rfl))) (mvT hZ (hw _ (List.mem_of_getElem? (i := 22) rfl))) (notFace_of_selects (args := #[]) (mvT hZ (hw _ (List.mem_of_getElem? (i := 24) rfl)))) (mvT hZ (hw _ (List.mem_of_getElem? (i := 24) rfl))) (mvT hZ (hw _ (List.mem_of_getElem? (i := 23) rfl))) (by decide) (backOf (W := 0) (add_0 l Z a0 hw [] b33 j_s3 (iq + (2 : Int32)) bb_38 gg_38 b0_38 g0_38 b1_38 g1_38 kb_38 kg_38 (((j_s3.toUInt32 >>> ((6 : Int32) &&& 31).toUInt32).toInt32) + (1 : Int32)) (own_addL (own_addL (fun _ => (0 : Int64)) j_s1) j_s2) (own_addI (own_addL (fun _ => (0 : Int64)) j_s1) (own_addI (fun _ => (0 : Int64)) (fun _ => (0 : Int32)) j_s1 iq) j_s2 (iq + (1 : Int32))) T74.heap n0 F85 F86 F87 F88 F89 F90 F91 ge_b0_38 ge_g0_38 n_b0_g0_38 ne53 ne56 n_bb_b0_38 n_bb_g0_38 n_gg_b0_38 n_gg_g0_38 (own_in3 hs)) hZ (hw _ (List.mem_of_getElem? (i := 25) rfl)) (hw _ (List.mem_of_getElem? (i := 3) rfl)) (by decide) (by decide)) q84a q84c (g := (mkF m 130 #[.val (.int ia), .val (.int ib), .val (.int ic), .val (.int id_), .val (.int iq), .val (.int j_s1), .val (.int j_s2), .val (.int j_s3), .val (.int j_t), .val (.ref b1), .val (.ref b18), .val (.ref b33), .unset] [(.int (iq + (2 : Int32))), (.int j_s3), (.int (0 : Int32)), (.ref b33)])) rfl (by rw [hml]; rfl) (Steps.refl _) (argsL := [(.int (0 : Int32)), (.int j_s3), (.int (iq + (2 : Int32)))]) (rest := []) (lenOf pd_2 rfl) rfl (by show 2 * 0 + _ ≤ _; exact Nat.le_of_eq rfl) (hb hby at_130) (fun _ _ => ⟨rfl, rfl, (by decide : 9 + 0 ≤ _), (by decide : 27 + 0 ≤ _)⟩)
    dsimp only [Pt.U, Pt.locs, Pt.cells, Pt.slots] at X84 l84 y84 z84 st84 hQ84
    subst l84 y84 z84
    obtain ⟨rfl, N84q, K84, F84_0, F84_1⟩ := hQ84
    have N84 := Fr.app N74 N84q
    refine Go.tr st84 ?_
    show Go p e below _ (T84.setTop (mkF m 133 #[.val (.int ia), .val (.int ib), .val (.int ic), .val (.int id_), .val (.int iq), .val (.int j_s1), .val (.int j_s2), .val (.int j_s3), .val (.int j_t), .val (.ref b1), .val (.ref b18), .val (.ref b33), .unset] []))
    refine Go.by (fun t k => XS.aload X84.here hx rfl (hb hby at_133) rfl rfl k) ?_
    show Go p e below _ (T84.setTop (mkF m 135 #[.val (.int ia), .val (.int ib), .val (.int ic), .val (.int id_), .val (.int iq), .val (.int j_s1), .val (.int j_s2), .val (.int j_s3), .val (.int j_t), .val (.ref b1), .val (.ref b18), .val (.ref b33), .unset] [(.ref b33)]))
    have F94 : Fld Z T84.heap b33 "com/example/wakepath/wakepath/automaton/NumberedStates" "bits" "[[J" (.ref bb_38) := (F86.keep K84 (ninS ne53 (ninS ne56 nin0)))
    obtain ⟨T95, X95, e95, st95⟩ := getF X84 hx hZ hown (host := "") (Or.inl (hw _ (List.mem_of_getElem? (i := 26) rfl))) Via.refl rfl F94 (g := (mkF m 135 #[.val (.int ia), .val (.int ib), .val (.int ic), .val (.int id_), .val (.int iq), .val (.int j_s1), .val (.int j_s2), .val (.int j_s3), .val (.int j_t), .val (.ref b1), .val (.ref b18), .val (.ref b33), .unset] [(.ref b33)])) rfl rfl (hb hby at_135)
    refine Go.by st95 ?_
    show Go p e below _ (T95.setTop (mkF m 138 #[.val (.int ia), .val (.int ib), .val (.int ic), .val (.int id_), .val (.int iq), .val (.int j_s1), .val (.int j_s2), .val (.int j_s3), .val (.int j_t), .val (.ref b1), .val (.ref b18), .val (.ref b33), .unset] [(.ref bb_38)]))
    refine Go.by (fun t k => XS.iconst X95.here hx rfl (hb hby at_138) k) ?_
    show Go p e below _ (T95.setTop (mkF m 139 #[.val (.int ia), .val (.int ib), .val (.int ic), .val (.int id_), .val (.int iq), .val (.int j_s1), .val (.int j_s2), .val (.int j_s3), .val (.int j_t), .val (.ref b1), .val (.ref b18), .val (.ref b33), .unset] [(.int (0 : Int32)), (.ref bb_38)]))
    have F96 : Arv Z T84.heap bb_38 kb_38 (.array .long) (2 : Int32) [(.ref b0_38), (.ref b1_38)] .null := (F88.keep K84 (ninS n_bb_b0_38 (ninS n_bb_g0_38 nin0)))
    obtain ⟨cl97, Ar97, qk97, sz97, nn97, Ha97, Gf97⟩ := id F96
    have hin98 : ¬ ((0 : Int32) < 0 ∨ cl97.slots.size ≤ ((0 : Int32)).toNatClampNeg) := inb_of sz97 ⟨by decide, by decide⟩
    have hat99 : cl97.slots[((0 : Int32)).toNatClampNeg]? = some (.ref b0_38) := Has.at Ha97 hin98 rfl
    refine Go.by (fun t k => X95.aaload hx (j := (0 : Int32)) (v := (.ref b0_38)) (by rw [e95]; exact Ar97.1) (State.isArrayOf_alike hZ.alike Ar97.2.1) rfl Ar97.2.2 hin98 hat99 (g := (mkF m 139 #[.val (.int ia), .val (.int ib), .val (.int ic), .val (.int id_), .val (.int iq), .val (.int j_s1), .val (.int j_s2), .val (.int j_s3), .val (.int j_t), .val (.ref b1), .val (.ref b18), .val (.ref b33), .unset] [(.int (0 : Int32)), (.ref bb_38)])) rfl rfl (hb hby at_139) t k) ?_
    show Go p e below _ (T95.setTop (mkF m 140 #[.val (.int ia), .val (.int ib), .val (.int ic), .val (.int id_), .val (.int iq), .val (.int j_s1), .val (.int j_s2), .val (.int j_s3), .val (.int j_t), .val (.ref b1), .val (.ref b18), .val (.ref b33), .unset] [(.ref b0_38)]))
    obtain ⟨_, _, ⟨cl100, Ar100, -, sz100, nn100, -, -⟩, -⟩ := id F84_0
    have hl100 : cl100.slots.size.toInt32 = (((j_s3.toUInt32 >>> ((6 : Int32) &&& 31).toUInt32).toInt32) + (1 : Int32)) := len_of sz100 nn100
    refine Go.by (fun t k => X95.arraylength hx (by rw [e95]; exact Ar100.1) (State.isArrayOf_alike hZ.alike Ar100.2.1) (g := (mkF m 140 #[.val (.int ia), .val (.int ib), .val (.int ic), .val (.int id_), .val (.int iq), .val (.int j_s1), .val (.int j_s2), .val (.int j_s3), .val (.int j_t), .val (.ref b1), .val (.ref b18), .val (.ref b33), .unset] [(.ref b0_38)])) rfl rfl (hb hby at_140) t (by rw [hl100]; exact k)) ?_
    show Go p e below _ (T95.setTop (mkF m 141 #[.val (.int ia), .val (.int ib), .val (.int ic), .val (.int id_), .val (.int iq), .val (.int j_s1), .val (.int j_s2), .val (.int j_s3), .val (.int j_t), .val (.ref b1), .val (.ref b18), .val (.ref b33), .unset] [(.int (((j_s3.toUInt32 >>> ((6 : Int32) &&& 31).toUInt32).toInt32) + (1 : Int32)))]))
    refine Go.by (fun t k => XS.iload X95.here hx rfl (hb hby at_141) rfl k) ?_
    show Go p e below _ (T95.setTop (mkF m 143 #[.val (.int ia), .val (.int ib), .val (.int ic), .val (.int id_), .val (.int iq), .val (.int j_s1), .val (.int j_s2), .val (.int j_s3), .val (.int j_t), .val (.ref b1), .val (.ref b18), .val (.ref b33), .unset] [(.int j_s3), (.int (((j_s3.toUInt32 >>> ((6 : Int32) &&& 31).toUInt32).toInt32) + (1 : Int32)))]))
    refine Go.by (fun t k => XS.bipush X95.here hx rfl (hb hby at_143) k) ?_
    show Go p e below _ (T95.setTop (mkF m 145 #[.val (.int ia), .val (.int ib), .val (.int ic), .val (.int id_), .val (.int iq), .val (.int j_s1), .val (.int j_s2), .val (.int j_s3), .val (.int j_t), .val (.ref b1), .val (.ref b18), .val (.ref b33), .unset] [(.int (6 : Int32)), (.int j_s3), (.int (((j_s3.toUInt32 >>> ((6 : Int32) &&& 31).toUInt32).toInt32) + (1 : Int32)))]))
    refine Go.by (fun t k => XS.iushr X95.here hx rfl (hb hby at_145) rfl k) ?_
    show Go p e below _ (T95.setTop (mkF m 146 #[.val (.int ia), .val (.int ib), .val (.int ic), .val (.int id_), .val (.int iq), .val (.int j_s1), .val (.int j_s2), .val (.int j_s3), .val (.int j_t), .val (.ref b1), .val (.ref b18), .val (.ref b33), .unset] [(.int ((j_s3.toUInt32 >>> ((6 : Int32) &&& 31).toUInt32).toInt32)), (.int (((j_s3.toUInt32 >>> ((6 : Int32) &&& 31).toUInt32).toInt32) + (1 : Int32)))]))
    refine Go.by (fun t k => XS.iconst X95.here hx rfl (hb hby at_146) k) ?_
    show Go p e below _ (T95.setTop (mkF m 147 #[.val (.int ia), .val (.int ib), .val (.int ic), .val (.int id_), .val (.int iq), .val (.int j_s1), .val (.int j_s2), .val (.int j_s3), .val (.int j_t), .val (.ref b1), .val (.ref b18), .val (.ref b33), .unset] [(.int (1 : Int32)), (.int ((j_s3.toUInt32 >>> ((6 : Int32) &&& 31).toUInt32).toInt32)), (.int (((j_s3.toUInt32 >>> ((6 : Int32) &&& 31).toUInt32).toInt32) + (1 : Int32)))]))
    refine Go.by (fun t k => XS.iadd X95.here hx rfl (hb hby at_147) rfl k) ?_
    show Go p e below _ (T95.setTop (mkF m 148 #[.val (.int ia), .val (.int ib), .val (.int ic), .val (.int id_), .val (.int iq), .val (.int j_s1), .val (.int j_s2), .val (.int j_s3), .val (.int j_t), .val (.ref b1), .val (.ref b18), .val (.ref b33), .unset] [(.int (((j_s3.toUInt32 >>> ((6 : Int32) &&& 31).toUInt32).toInt32) + (1 : Int32))), (.int (((j_s3.toUInt32 >>> ((6 : Int32) &&& 31).toUInt32).toInt32) + (1 : Int32)))]))
    refine Go.by (fun t k => XS.icmpYes X95.here hx rfl (pc0 := 148) (pc' := 153) rfl (hb hby at_148) rfl (teq rfl).1 (by decide) (by decide) k) ?_
    show Go p e below _ (T95.setTop (mkF m 153 #[.val (.int ia), .val (.int ib), .val (.int ic), .val (.int id_), .val (.int iq), .val (.int j_s1), .val (.int j_s2), .val (.int j_s3), .val (.int j_t), .val (.ref b1), .val (.ref b18), .val (.ref b33), .unset] []))
    refine Go.by (fun t k => XS.aload X95.here hx rfl (hb hby at_153) rfl rfl k) ?_
    show Go p e below _ (T95.setTop (mkF m 155 #[.val (.int ia), .val (.int ib), .val (.int ic), .val (.int id_), .val (.int iq), .val (.int j_s1), .val (.int j_s2), .val (.int j_s3), .val (.int j_t), .val (.ref b1), .val (.ref b18), .val (.ref b33), .unset] [(.ref b33)]))
    obtain ⟨T101, X101, e101, st101⟩ := getF X95 hx hZ hown (host := "") (Or.inl (hw _ (List.mem_of_getElem? (i := 26) rfl))) Via.refl e95 F94 (g := (mkF m 155 #[.val (.int ia), .val (.int ib), .val (.int ic), .val (.int id_), .val (.int iq), .val (.int j_s1), .val (.int j_s2), .val (.int j_s3), .val (.int j_t), .val (.ref b1), .val (.ref b18), .val (.ref b33), .unset] [(.ref b33)])) rfl rfl (hb hby at_155)
    refine Go.by st101 ?_
    show Go p e below _ (T101.setTop (mkF m 158 #[.val (.int ia), .val (.int ib), .val (.int ic), .val (.int id_), .val (.int iq), .val (.int j_s1), .val (.int j_s2), .val (.int j_s3), .val (.int j_t), .val (.ref b1), .val (.ref b18), .val (.ref b33), .unset] [(.ref bb_38)]))
    refine Go.by (fun t k => XS.iconst X101.here hx rfl (hb hby at_158) k) ?_
    show Go p e below _ (T101.setTop (mkF m 159 #[.val (.int ia), .val (.int ib), .val (.int ic), .val (.int id_), .val (.int iq), .val (.int j_s1), .val (.int j_s2), .val (.int j_s3), .val (.int j_t), .val (.ref b1), .val (.ref b18), .val (.ref b33), .unset] [(.int (1 : Int32)), (.ref bb_38)]))
    obtain ⟨cl102, Ar102, qk102, sz102, nn102, Ha102, Gf102⟩ := id F96
    have hin103 : ¬ ((1 : Int32) < 0 ∨ cl102.slots.size ≤ ((1 : Int32)).toNatClampNeg) := inb_of sz102 ⟨by decide, by decide⟩
    have hat104 : cl102.slots[((1 : Int32)).toNatClampNeg]? = some (.ref b1_38) := Has.at Ha102 hin103 rfl
    refine Go.by (fun t k => X101.aaload hx (j := (1 : Int32)) (v := (.ref b1_38)) (by rw [e101]; exact Ar102.1) (State.isArrayOf_alike hZ.alike Ar102.2.1) rfl Ar102.2.2 hin103 hat104 (g := (mkF m 159 #[.val (.int ia), .val (.int ib), .val (.int ic), .val (.int id_), .val (.int iq), .val (.int j_s1), .val (.int j_s2), .val (.int j_s3), .val (.int j_t), .val (.ref b1), .val (.ref b18), .val (.ref b33), .unset] [(.int (1 : Int32)), (.ref bb_38)])) rfl rfl (hb hby at_159) t k) ?_
    show Go p e below _ (T101.setTop (mkF m 160 #[.val (.int ia), .val (.int ib), .val (.int ic), .val (.int id_), .val (.int iq), .val (.int j_s1), .val (.int j_s2), .val (.int j_s3), .val (.int j_t), .val (.ref b1), .val (.ref b18), .val (.ref b33), .unset] [(.ref b1_38)]))
    have F105 : own_La Z T84.heap b1_38 (((j_t.toUInt32 >>> ((6 : Int32) &&& 31).toUInt32).toInt32) + (1 : Int32)) (own_addL (fun _ => (0 : Int64)) j_t) := (F74_0.keep K84 (ninS (Ne.symm n_b0_b1_38) (ninS (Ne.symm n_g0_b1_38) nin0)))
    obtain ⟨_, _, ⟨cl106, Ar106, -, sz106, nn106, -, -⟩, -⟩ := id F105
    have hl106 : cl106.slots.size.toInt32 = (((j_t.toUInt32 >>> ((6 : Int32) &&& 31).toUInt32).toInt32) + (1 : Int32)) := len_of sz106 nn106
    refine Go.by (fun t k => X101.arraylength hx (by rw [e101]; exact Ar106.1) (State.isArrayOf_alike hZ.alike Ar106.2.1) (g := (mkF m 160 #[.val (.int ia), .val (.int ib), .val (.int ic), .val (.int id_), .val (.int iq), .val (.int j_s1), .val (.int j_s2), .val (.int j_s3), .val (.int j_t), .val (.ref b1), .val (.ref b18), .val (.ref b33), .unset] [(.ref b1_38)])) rfl rfl (hb hby at_160) t (by rw [hl106]; exact k)) ?_
    show Go p e below _ (T101.setTop (mkF m 161 #[.val (.int ia), .val (.int ib), .val (.int ic), .val (.int id_), .val (.int iq), .val (.int j_s1), .val (.int j_s2), .val (.int j_s3), .val (.int j_t), .val (.ref b1), .val (.ref b18), .val (.ref b33), .unset] [(.int (((j_t.toUInt32 >>> ((6 : Int32) &&& 31).toUInt32).toInt32) + (1 : Int32)))]))
    refine Go.by (fun t k => XS.iload X101.here hx rfl (hb hby at_161) rfl k) ?_
    show Go p e below _ (T101.setTop (mkF m 163 #[.val (.int ia), .val (.int ib), .val (.int ic), .val (.int id_), .val (.int iq), .val (.int j_s1), .val (.int j_s2), .val (.int j_s3), .val (.int j_t), .val (.ref b1), .val (.ref b18), .val (.ref b33), .unset] [(.int j_t), (.int (((j_t.toUInt32 >>> ((6 : Int32) &&& 31).toUInt32).toInt32) + (1 : Int32)))]))
    refine Go.by (fun t k => XS.bipush X101.here hx rfl (hb hby at_163) k) ?_
    show Go p e below _ (T101.setTop (mkF m 165 #[.val (.int ia), .val (.int ib), .val (.int ic), .val (.int id_), .val (.int iq), .val (.int j_s1), .val (.int j_s2), .val (.int j_s3), .val (.int j_t), .val (.ref b1), .val (.ref b18), .val (.ref b33), .unset] [(.int (6 : Int32)), (.int j_t), (.int (((j_t.toUInt32 >>> ((6 : Int32) &&& 31).toUInt32).toInt32) + (1 : Int32)))]))
    refine Go.by (fun t k => XS.iushr X101.here hx rfl (hb hby at_165) rfl k) ?_
    show Go p e below _ (T101.setTop (mkF m 166 #[.val (.int ia), .val (.int ib), .val (.int ic), .val (.int id_), .val (.int iq), .val (.int j_s1), .val (.int j_s2), .val (.int j_s3), .val (.int j_t), .val (.ref b1), .val (.ref b18), .val (.ref b33), .unset] [(.int ((j_t.toUInt32 >>> ((6 : Int32) &&& 31).toUInt32).toInt32)), (.int (((j_t.toUInt32 >>> ((6 : Int32) &&& 31).toUInt32).toInt32) + (1 : Int32)))]))
    refine Go.by (fun t k => XS.iconst X101.here hx rfl (hb hby at_166) k) ?_
    show Go p e below _ (T101.setTop (mkF m 167 #[.val (.int ia), .val (.int ib), .val (.int ic), .val (.int id_), .val (.int iq), .val (.int j_s1), .val (.int j_s2), .val (.int j_s3), .val (.int j_t), .val (.ref b1), .val (.ref b18), .val (.ref b33), .unset] [(.int (1 : Int32)), (.int ((j_t.toUInt32 >>> ((6 : Int32) &&& 31).toUInt32).toInt32)), (.int (((j_t.toUInt32 >>> ((6 : Int32) &&& 31).toUInt32).toInt32) + (1 : Int32)))]))
    refine Go.by (fun t k => XS.iadd X101.here hx rfl (hb hby at_167) rfl k) ?_
    show Go p e below _ (T101.setTop (mkF m 168 #[.val (.int ia), .val (.int ib), .val (.int ic), .val (.int id_), .val (.int iq), .val (.int j_s1), .val (.int j_s2), .val (.int j_s3), .val (.int j_t), .val (.ref b1), .val (.ref b18), .val (.ref b33), .unset] [(.int (((j_t.toUInt32 >>> ((6 : Int32) &&& 31).toUInt32).toInt32) + (1 : Int32))), (.int (((j_t.toUInt32 >>> ((6 : Int32) &&& 31).toUInt32).toInt32) + (1 : Int32)))]))
    refine Go.by (fun t k => XS.icmpYes X101.here hx rfl (pc0 := 168) (pc' := 173) rfl (hb hby at_168) rfl (teq rfl).1 (by decide) (by decide) k) ?_
    show Go p e below _ (T101.setTop (mkF m 173 #[.val (.int ia), .val (.int ib), .val (.int ic), .val (.int id_), .val (.int iq), .val (.int j_s1), .val (.int j_s2), .val (.int j_s3), .val (.int j_t), .val (.ref b1), .val (.ref b18), .val (.ref b33), .unset] []))
    refine Go.by (fun t k => XS.iconst X101.here hx rfl (hb hby at_173) k) ?_
    show Go p e below _ (T101.setTop (mkF m 174 #[.val (.int ia), .val (.int ib), .val (.int ic), .val (.int id_), .val (.int iq), .val (.int j_s1), .val (.int j_s2), .val (.int j_s3), .val (.int j_t), .val (.ref b1), .val (.ref b18), .val (.ref b33), .unset] [(.int (1 : Int32))]))
    refine Go.by (fun t k => XS.istore X101.here hx rfl (hb hby at_174) rfl (l' := #[.val (.int ia), .val (.int ib), .val (.int ic), .val (.int id_), .val (.int iq), .val (.int j_s1), .val (.int j_s2), .val (.int j_s3), .val (.int j_t), .val (.ref b1), .val (.ref b18), .val (.ref b33), .val (.int (1 : Int32))]) rfl k) ?_
    show Go p e below _ (T101.setTop (mkF m 176 #[.val (.int ia), .val (.int ib), .val (.int ic), .val (.int id_), .val (.int iq), .val (.int j_s1), .val (.int j_s2), .val (.int j_s3), .val (.int j_t), .val (.ref b1), .val (.ref b18), .val (.ref b33), .val (.int (1 : Int32))] []))
    refine Go.by (fun t k => XS.iload X101.here hx rfl (hb hby at_176) rfl k) ?_
    show Go p e below _ (T101.setTop (mkF m 178 #[.val (.int ia), .val (.int ib), .val (.int ic), .val (.int id_), .val (.int iq), .val (.int j_s1), .val (.int j_s2), .val (.int j_s3), .val (.int j_t), .val (.ref b1), .val (.ref b18), .val (.ref b33), .val (.int (1 : Int32))] [(.int (1 : Int32))]))
    refine Go.by (fun t k => XS.ifNo X101.here hx rfl (hb hby at_178) rfl ((if0 _ _).trans (feq (by decide : ¬ ((1 : Int32) = (0 : Int32)))).1) k) ?_
    show Go p e below _ (T101.setTop (mkF m 181 #[.val (.int ia), .val (.int ib), .val (.int ic), .val (.int id_), .val (.int iq), .val (.int j_s1), .val (.int j_s2), .val (.int j_s3), .val (.int j_t), .val (.ref b1), .val (.ref b18), .val (.ref b33), .val (.int (1 : Int32))] []))
    refine Go.by (fun t k => XS.aload X101.here hx rfl (hb hby at_181) rfl rfl k) ?_
    show Go p e below _ (T101.setTop (mkF m 183 #[.val (.int ia), .val (.int ib), .val (.int ic), .val (.int id_), .val (.int iq), .val (.int j_s1), .val (.int j_s2), .val (.int j_s3), .val (.int j_t), .val (.ref b1), .val (.ref b18), .val (.ref b33), .val (.int (1 : Int32))] [(.ref b33)]))
    obtain ⟨T107, X107, e107, st107⟩ := getF X101 hx hZ hown (host := "") (Or.inl (hw _ (List.mem_of_getElem? (i := 26) rfl))) Via.refl e101 F94 (g := (mkF m 183 #[.val (.int ia), .val (.int ib), .val (.int ic), .val (.int id_), .val (.int iq), .val (.int j_s1), .val (.int j_s2), .val (.int j_s3), .val (.int j_t), .val (.ref b1), .val (.ref b18), .val (.ref b33), .val (.int (1 : Int32))] [(.ref b33)])) rfl rfl (hb hby at_183)
    refine Go.by st107 ?_
    show Go p e below _ (T107.setTop (mkF m 186 #[.val (.int ia), .val (.int ib), .val (.int ic), .val (.int id_), .val (.int iq), .val (.int j_s1), .val (.int j_s2), .val (.int j_s3), .val (.int j_t), .val (.ref b1), .val (.ref b18), .val (.ref b33), .val (.int (1 : Int32))] [(.ref bb_38)]))
    refine Go.by (fun t k => XS.iconst X107.here hx rfl (hb hby at_186) k) ?_
    show Go p e below _ (T107.setTop (mkF m 187 #[.val (.int ia), .val (.int ib), .val (.int ic), .val (.int id_), .val (.int iq), .val (.int j_s1), .val (.int j_s2), .val (.int j_s3), .val (.int j_t), .val (.ref b1), .val (.ref b18), .val (.ref b33), .val (.int (1 : Int32))] [(.int (0 : Int32)), (.ref bb_38)]))
    obtain ⟨cl108, Ar108, qk108, sz108, nn108, Ha108, Gf108⟩ := id F96
    have hin109 : ¬ ((0 : Int32) < 0 ∨ cl108.slots.size ≤ ((0 : Int32)).toNatClampNeg) := inb_of sz108 ⟨by decide, by decide⟩
    have hat110 : cl108.slots[((0 : Int32)).toNatClampNeg]? = some (.ref b0_38) := Has.at Ha108 hin109 rfl
    refine Go.by (fun t k => X107.aaload hx (j := (0 : Int32)) (v := (.ref b0_38)) (by rw [e107]; exact Ar108.1) (State.isArrayOf_alike hZ.alike Ar108.2.1) rfl Ar108.2.2 hin109 hat110 (g := (mkF m 187 #[.val (.int ia), .val (.int ib), .val (.int ic), .val (.int id_), .val (.int iq), .val (.int j_s1), .val (.int j_s2), .val (.int j_s3), .val (.int j_t), .val (.ref b1), .val (.ref b18), .val (.ref b33), .val (.int (1 : Int32))] [(.int (0 : Int32)), (.ref bb_38)])) rfl rfl (hb hby at_187) t k) ?_
    show Go p e below _ (T107.setTop (mkF m 188 #[.val (.int ia), .val (.int ib), .val (.int ic), .val (.int id_), .val (.int iq), .val (.int j_s1), .val (.int j_s2), .val (.int j_s3), .val (.int j_t), .val (.ref b1), .val (.ref b18), .val (.ref b33), .val (.int (1 : Int32))] [(.ref b0_38)]))
    refine Go.by (fun t k => XS.aload X107.here hx rfl (hb hby at_188) rfl rfl k) ?_
    show Go p e below _ (T107.setTop (mkF m 190 #[.val (.int ia), .val (.int ib), .val (.int ic), .val (.int id_), .val (.int iq), .val (.int j_s1), .val (.int j_s2), .val (.int j_s3), .val (.int j_t), .val (.ref b1), .val (.ref b18), .val (.ref b33), .val (.int (1 : Int32))] [(.ref b33), (.ref b0_38)]))
    have F111 : Fld Z T84.heap b33 "com/example/wakepath/wakepath/automaton/NumberedStates" "firstNumber" "[[I" (.ref gg_38) := (F87.keep K84 (ninS ne53 (ninS ne56 nin0)))
    obtain ⟨T112, X112, e112, st112⟩ := getF X107 hx hZ hown (host := "") (Or.inl (hw _ (List.mem_of_getElem? (i := 27) rfl))) Via.refl e107 F111 (g := (mkF m 190 #[.val (.int ia), .val (.int ib), .val (.int ic), .val (.int id_), .val (.int iq), .val (.int j_s1), .val (.int j_s2), .val (.int j_s3), .val (.int j_t), .val (.ref b1), .val (.ref b18), .val (.ref b33), .val (.int (1 : Int32))] [(.ref b33), (.ref b0_38)])) rfl rfl (hb hby at_190)
    refine Go.by st112 ?_
    show Go p e below _ (T112.setTop (mkF m 193 #[.val (.int ia), .val (.int ib), .val (.int ic), .val (.int id_), .val (.int iq), .val (.int j_s1), .val (.int j_s2), .val (.int j_s3), .val (.int j_t), .val (.ref b1), .val (.ref b18), .val (.ref b33), .val (.int (1 : Int32))] [(.ref gg_38), (.ref b0_38)]))
    refine Go.by (fun t k => XS.iconst X112.here hx rfl (hb hby at_193) k) ?_
    show Go p e below _ (T112.setTop (mkF m 194 #[.val (.int ia), .val (.int ib), .val (.int ic), .val (.int id_), .val (.int iq), .val (.int j_s1), .val (.int j_s2), .val (.int j_s3), .val (.int j_t), .val (.ref b1), .val (.ref b18), .val (.ref b33), .val (.int (1 : Int32))] [(.int (0 : Int32)), (.ref gg_38), (.ref b0_38)]))
    have F113 : Arv Z T84.heap gg_38 kg_38 (.array .int) (2 : Int32) [(.ref g0_38), (.ref g1_38)] .null := (F89.keep K84 (ninS n_gg_b0_38 (ninS n_gg_g0_38 nin0)))
    obtain ⟨cl114, Ar114, qk114, sz114, nn114, Ha114, Gf114⟩ := id F113
    have hin115 : ¬ ((0 : Int32) < 0 ∨ cl114.slots.size ≤ ((0 : Int32)).toNatClampNeg) := inb_of sz114 ⟨by decide, by decide⟩
    have hat116 : cl114.slots[((0 : Int32)).toNatClampNeg]? = some (.ref g0_38) := Has.at Ha114 hin115 rfl
    refine Go.by (fun t k => X112.aaload hx (j := (0 : Int32)) (v := (.ref g0_38)) (by rw [e112]; exact Ar114.1) (State.isArrayOf_alike hZ.alike Ar114.2.1) rfl Ar114.2.2 hin115 hat116 (g := (mkF m 194 #[.val (.int ia), .val (.int ib), .val (.int ic), .val (.int id_), .val (.int iq), .val (.int j_s1), .val (.int j_s2), .val (.int j_s3), .val (.int j_t), .val (.ref b1), .val (.ref b18), .val (.ref b33), .val (.int (1 : Int32))] [(.int (0 : Int32)), (.ref gg_38), (.ref b0_38)])) rfl rfl (hb hby at_194) t k) ?_
    show Go p e below _ (T112.setTop (mkF m 195 #[.val (.int ia), .val (.int ib), .val (.int ic), .val (.int id_), .val (.int iq), .val (.int j_s1), .val (.int j_s2), .val (.int j_s3), .val (.int j_t), .val (.ref b1), .val (.ref b18), .val (.ref b33), .val (.int (1 : Int32))] [(.ref g0_38), (.ref b0_38)]))
    refine Go.by (fun t k => XS.iconst X112.here hx rfl (hb hby at_195) k) ?_
    show Go p e below _ (T112.setTop (mkF m 196 #[.val (.int ia), .val (.int ib), .val (.int ic), .val (.int id_), .val (.int iq), .val (.int j_s1), .val (.int j_s2), .val (.int j_s3), .val (.int j_t), .val (.ref b1), .val (.ref b18), .val (.ref b33), .val (.int (1 : Int32))] [(.int (0 : Int32)), (.ref g0_38), (.ref b0_38)]))
    refine Go.by (fun t k => XS.iload X112.here hx rfl (hb hby at_196) rfl k) ?_
    show Go p e below _ (T112.setTop (mkF m 198 #[.val (.int ia), .val (.int ib), .val (.int ic), .val (.int id_), .val (.int iq), .val (.int j_s1), .val (.int j_s2), .val (.int j_s3), .val (.int j_t), .val (.ref b1), .val (.ref b18), .val (.ref b33), .val (.int (1 : Int32))] [(.int j_s1), (.int (0 : Int32)), (.ref g0_38), (.ref b0_38)]))
    refine Go.by (fun t k => XS.iload X112.here hx rfl (hb hby at_198) rfl k) ?_
    show Go p e below _ (T112.setTop (mkF m 200 #[.val (.int ia), .val (.int ib), .val (.int ic), .val (.int id_), .val (.int iq), .val (.int j_s1), .val (.int j_s2), .val (.int j_s3), .val (.int j_t), .val (.ref b1), .val (.ref b18), .val (.ref b33), .val (.int (1 : Int32))] [(.int j_s2), (.int j_s1), (.int (0 : Int32)), (.ref g0_38), (.ref b0_38)]))
    refine Go.by (fun t k => XS.iload X112.here hx rfl (hb hby at_200) rfl k) ?_
    show Go p e below _ (T112.setTop (mkF m 202 #[.val (.int ia), .val (.int ib), .val (.int ic), .val (.int id_), .val (.int iq), .val (.int j_s1), .val (.int j_s2), .val (.int j_s3), .val (.int j_t), .val (.ref b1), .val (.ref b18), .val (.ref b33), .val (.int (1 : Int32))] [(.int j_s3), (.int j_s2), (.int j_s1), (.int (0 : Int32)), (.ref g0_38), (.ref b0_38)]))
    refine Go.by (fun t k => XS.iload X112.here hx rfl (hb hby at_202) rfl k) ?_
    show Go p e below _ (T112.setTop (mkF m 204 #[.val (.int ia), .val (.int ib), .val (.int ic), .val (.int id_), .val (.int iq), .val (.int j_s1), .val (.int j_s2), .val (.int j_s3), .val (.int j_t), .val (.ref b1), .val (.ref b18), .val (.ref b33), .val (.int (1 : Int32))] [(.int iq), (.int j_s3), (.int j_s2), (.int j_s1), (.int (0 : Int32)), (.ref g0_38), (.ref b0_38)]))
    have F118 : Old Z n0 T84.heap := (F85.keep K84 (allS ge_b0_38 (allS ge_g0_38 all0)))
    have F119 : Keep h0 T84.heap [] := (F92.trans K84 (allS (Or.inr sz_b0_38) (allS (Or.inr sz_g0_38) all0)))
    obtain ⟨_, _, ⟨T117, L117, k117, n117⟩, -, X117, ⟨Lc117, hQ117, l117, y117, z117⟩, st117⟩ := Jvm.LawKit.callS X112 hx (y := (⟨"com/example/wakepath/wakepath/automaton/NumberedStatesAddPinLaw", "wordOk", "([J[IIIIII)Z"⟩ : MethodName)) hown (mvT hZ (hw _ (List.mem_of_getElem? (i := 28) rfl))) (mvT hZ (hw _ (List.mem_of_getElem? (i := 29) rfl))) (mvT hZ (hw _ (List.mem_of_getElem? (i := 30) rfl))) (mvT hZ (hw _ (List.mem_of_getElem? (i := 31) rfl))) (by decide) (backOf (W := 0) (wordOk l Z a0 hw [] b0_38 g0_38 (0 : Int32) j_s1 j_s2 j_s3 iq (((j_s3.toUInt32 >>> ((6 : Int32) &&& 31).toUInt32).toInt32) + (1 : Int32)) (own_addL (own_addL (own_addL (fun _ => (0 : Int64)) j_s1) j_s2) j_s3) (own_addI (own_addL (own_addL (fun _ => (0 : Int64)) j_s1) j_s2) (own_addI (own_addL (fun _ => (0 : Int64)) j_s1) (own_addI (fun _ => (0 : Int64)) (fun _ => (0 : Int32)) j_s1 iq) j_s2 (iq + (1 : Int32))) j_s3 (iq + (2 : Int32))) T84.heap n0 F118 F84_0 F84_1 (by decide) (fun _ => own_mainB hs _ (by decide)) (fun _ => own_mainF hs _ _ (by decide))) hZ (hw _ (List.mem_of_getElem? (i := 31) rfl)) (hw _ (List.mem_of_getElem? (i := 30) rfl)) (by decide) (by decide)) (g := (mkF m 204 #[.val (.int ia), .val (.int ib), .val (.int ic), .val (.int id_), .val (.int iq), .val (.int j_s1), .val (.int j_s2), .val (.int j_s3), .val (.int j_t), .val (.ref b1), .val (.ref b18), .val (.ref b33), .val (.int (1 : Int32))] [(.int iq), (.int j_s3), (.int j_s2), (.int j_s1), (.int (0 : Int32)), (.ref g0_38), (.ref b0_38)])) rfl (by rw [hml]; rfl) (argsL := [(.ref b0_38), (.ref g0_38), (.int (0 : Int32)), (.int j_s1), (.int j_s2), (.int j_s3), (.int iq)]) (rest := []) (lenOf pd_3 rfl) rfl (by show 2 * 0 + _ ≤ _; exact Nat.le_of_eq rfl) (hb hby at_204) (fun _ _ => ⟨rfl, e112, (by decide : 9 + 0 ≤ _), (by decide : 27 + 0 ≤ _)⟩)
    dsimp only [Pt.U, Pt.locs, Pt.cells, Pt.slots] at X117 l117 y117 z117 st117 hQ117
    subst l117 y117 z117
    obtain ⟨rfl, N117q, e117⟩ := hQ117
    have N117 := Fr.app N84 N117q
    refine Go.by st117 ?_
    show Go p e below _ (T117.setTop (mkF m 207 #[.val (.int ia), .val (.int ib), .val (.int ic), .val (.int id_), .val (.int iq), .val (.int j_s1), .val (.int j_s2), .val (.int j_s3), .val (.int j_t), .val (.ref b1), .val (.ref b18), .val (.ref b33), .val (.int (1 : Int32))] [(.int (1 : Int32))]))
    refine Go.by (fun t k => XS.ifNo X117.here hx rfl (hb hby at_207) rfl ((if0 _ _).trans (feq (by decide : ¬ ((1 : Int32) = (0 : Int32)))).1) k) ?_
    show Go p e below _ (T117.setTop (mkF m 210 #[.val (.int ia), .val (.int ib), .val (.int ic), .val (.int id_), .val (.int iq), .val (.int j_s1), .val (.int j_s2), .val (.int j_s3), .val (.int j_t), .val (.ref b1), .val (.ref b18), .val (.ref b33), .val (.int (1 : Int32))] []))
    refine Go.by (fun t k => XS.iconst X117.here hx rfl (hb hby at_210) k) ?_
    show Go p e below _ (T117.setTop (mkF m 211 #[.val (.int ia), .val (.int ib), .val (.int ic), .val (.int id_), .val (.int iq), .val (.int j_s1), .val (.int j_s2), .val (.int j_s3), .val (.int j_t), .val (.ref b1), .val (.ref b18), .val (.ref b33), .val (.int (1 : Int32))] [(.int (1 : Int32))]))
    refine Go.by (fun t k => XS.goto X117.here hx rfl (pc0 := 211) (pc' := 215) rfl (hb hby at_211) (by decide) (by decide) k) ?_
    show Go p e below _ (T117.setTop (mkF m 215 #[.val (.int ia), .val (.int ib), .val (.int ic), .val (.int id_), .val (.int iq), .val (.int j_s1), .val (.int j_s2), .val (.int j_s3), .val (.int j_t), .val (.ref b1), .val (.ref b18), .val (.ref b33), .val (.int (1 : Int32))] [(.int (1 : Int32))]))
    refine Go.by (fun t k => XS.istore X117.here hx rfl (hb hby at_215) rfl (l' := #[.val (.int ia), .val (.int ib), .val (.int ic), .val (.int id_), .val (.int iq), .val (.int j_s1), .val (.int j_s2), .val (.int j_s3), .val (.int j_t), .val (.ref b1), .val (.ref b18), .val (.ref b33), .val (.int (1 : Int32))]) rfl k) ?_
    show Go p e below _ (T117.setTop (mkF m 217 #[.val (.int ia), .val (.int ib), .val (.int ic), .val (.int id_), .val (.int iq), .val (.int j_s1), .val (.int j_s2), .val (.int j_s3), .val (.int j_t), .val (.ref b1), .val (.ref b18), .val (.ref b33), .val (.int (1 : Int32))] []))
    refine Go.by (fun t k => XS.iload X117.here hx rfl (hb hby at_217) rfl k) ?_
    show Go p e below _ (T117.setTop (mkF m 219 #[.val (.int ia), .val (.int ib), .val (.int ic), .val (.int id_), .val (.int iq), .val (.int j_s1), .val (.int j_s2), .val (.int j_s3), .val (.int j_t), .val (.ref b1), .val (.ref b18), .val (.ref b33), .val (.int (1 : Int32))] [(.int (1 : Int32))]))
    refine Go.by (fun t k => XS.ifNo X117.here hx rfl (hb hby at_219) rfl ((if0 _ _).trans (feq (by decide : ¬ ((1 : Int32) = (0 : Int32)))).1) k) ?_
    show Go p e below _ (T117.setTop (mkF m 222 #[.val (.int ia), .val (.int ib), .val (.int ic), .val (.int id_), .val (.int iq), .val (.int j_s1), .val (.int j_s2), .val (.int j_s3), .val (.int j_t), .val (.ref b1), .val (.ref b18), .val (.ref b33), .val (.int (1 : Int32))] []))
    refine Go.by (fun t k => XS.aload X117.here hx rfl (hb hby at_222) rfl rfl k) ?_
    show Go p e below _ (T117.setTop (mkF m 224 #[.val (.int ia), .val (.int ib), .val (.int ic), .val (.int id_), .val (.int iq), .val (.int j_s1), .val (.int j_s2), .val (.int j_s3), .val (.int j_t), .val (.ref b1), .val (.ref b18), .val (.ref b33), .val (.int (1 : Int32))] [(.ref b33)]))
    obtain ⟨T120, X120, e120, st120⟩ := getF X117 hx hZ hown (host := "") (Or.inl (hw _ (List.mem_of_getElem? (i := 26) rfl))) Via.refl e117 F94 (g := (mkF m 224 #[.val (.int ia), .val (.int ib), .val (.int ic), .val (.int id_), .val (.int iq), .val (.int j_s1), .val (.int j_s2), .val (.int j_s3), .val (.int j_t), .val (.ref b1), .val (.ref b18), .val (.ref b33), .val (.int (1 : Int32))] [(.ref b33)])) rfl rfl (hb hby at_224)
    refine Go.by st120 ?_
    show Go p e below _ (T120.setTop (mkF m 227 #[.val (.int ia), .val (.int ib), .val (.int ic), .val (.int id_), .val (.int iq), .val (.int j_s1), .val (.int j_s2), .val (.int j_s3), .val (.int j_t), .val (.ref b1), .val (.ref b18), .val (.ref b33), .val (.int (1 : Int32))] [(.ref bb_38)]))
    refine Go.by (fun t k => XS.iconst X120.here hx rfl (hb hby at_227) k) ?_
    show Go p e below _ (T120.setTop (mkF m 228 #[.val (.int ia), .val (.int ib), .val (.int ic), .val (.int id_), .val (.int iq), .val (.int j_s1), .val (.int j_s2), .val (.int j_s3), .val (.int j_t), .val (.ref b1), .val (.ref b18), .val (.ref b33), .val (.int (1 : Int32))] [(.int (0 : Int32)), (.ref bb_38)]))
    obtain ⟨cl121, Ar121, qk121, sz121, nn121, Ha121, Gf121⟩ := id F96
    have hin122 : ¬ ((0 : Int32) < 0 ∨ cl121.slots.size ≤ ((0 : Int32)).toNatClampNeg) := inb_of sz121 ⟨by decide, by decide⟩
    have hat123 : cl121.slots[((0 : Int32)).toNatClampNeg]? = some (.ref b0_38) := Has.at Ha121 hin122 rfl
    refine Go.by (fun t k => X120.aaload hx (j := (0 : Int32)) (v := (.ref b0_38)) (by rw [e120]; exact Ar121.1) (State.isArrayOf_alike hZ.alike Ar121.2.1) rfl Ar121.2.2 hin122 hat123 (g := (mkF m 228 #[.val (.int ia), .val (.int ib), .val (.int ic), .val (.int id_), .val (.int iq), .val (.int j_s1), .val (.int j_s2), .val (.int j_s3), .val (.int j_t), .val (.ref b1), .val (.ref b18), .val (.ref b33), .val (.int (1 : Int32))] [(.int (0 : Int32)), (.ref bb_38)])) rfl rfl (hb hby at_228) t k) ?_
    show Go p e below _ (T120.setTop (mkF m 229 #[.val (.int ia), .val (.int ib), .val (.int ic), .val (.int id_), .val (.int iq), .val (.int j_s1), .val (.int j_s2), .val (.int j_s3), .val (.int j_t), .val (.ref b1), .val (.ref b18), .val (.ref b33), .val (.int (1 : Int32))] [(.ref b0_38)]))
    refine Go.by (fun t k => XS.aload X120.here hx rfl (hb hby at_229) rfl rfl k) ?_
    show Go p e below _ (T120.setTop (mkF m 231 #[.val (.int ia), .val (.int ib), .val (.int ic), .val (.int id_), .val (.int iq), .val (.int j_s1), .val (.int j_s2), .val (.int j_s3), .val (.int j_t), .val (.ref b1), .val (.ref b18), .val (.ref b33), .val (.int (1 : Int32))] [(.ref b33), (.ref b0_38)]))
    obtain ⟨T124, X124, e124, st124⟩ := getF X120 hx hZ hown (host := "") (Or.inl (hw _ (List.mem_of_getElem? (i := 27) rfl))) Via.refl e120 F111 (g := (mkF m 231 #[.val (.int ia), .val (.int ib), .val (.int ic), .val (.int id_), .val (.int iq), .val (.int j_s1), .val (.int j_s2), .val (.int j_s3), .val (.int j_t), .val (.ref b1), .val (.ref b18), .val (.ref b33), .val (.int (1 : Int32))] [(.ref b33), (.ref b0_38)])) rfl rfl (hb hby at_231)
    refine Go.by st124 ?_
    show Go p e below _ (T124.setTop (mkF m 234 #[.val (.int ia), .val (.int ib), .val (.int ic), .val (.int id_), .val (.int iq), .val (.int j_s1), .val (.int j_s2), .val (.int j_s3), .val (.int j_t), .val (.ref b1), .val (.ref b18), .val (.ref b33), .val (.int (1 : Int32))] [(.ref gg_38), (.ref b0_38)]))
    refine Go.by (fun t k => XS.iconst X124.here hx rfl (hb hby at_234) k) ?_
    show Go p e below _ (T124.setTop (mkF m 235 #[.val (.int ia), .val (.int ib), .val (.int ic), .val (.int id_), .val (.int iq), .val (.int j_s1), .val (.int j_s2), .val (.int j_s3), .val (.int j_t), .val (.ref b1), .val (.ref b18), .val (.ref b33), .val (.int (1 : Int32))] [(.int (0 : Int32)), (.ref gg_38), (.ref b0_38)]))
    obtain ⟨cl125, Ar125, qk125, sz125, nn125, Ha125, Gf125⟩ := id F113
    have hin126 : ¬ ((0 : Int32) < 0 ∨ cl125.slots.size ≤ ((0 : Int32)).toNatClampNeg) := inb_of sz125 ⟨by decide, by decide⟩
    have hat127 : cl125.slots[((0 : Int32)).toNatClampNeg]? = some (.ref g0_38) := Has.at Ha125 hin126 rfl
    refine Go.by (fun t k => X124.aaload hx (j := (0 : Int32)) (v := (.ref g0_38)) (by rw [e124]; exact Ar125.1) (State.isArrayOf_alike hZ.alike Ar125.2.1) rfl Ar125.2.2 hin126 hat127 (g := (mkF m 235 #[.val (.int ia), .val (.int ib), .val (.int ic), .val (.int id_), .val (.int iq), .val (.int j_s1), .val (.int j_s2), .val (.int j_s3), .val (.int j_t), .val (.ref b1), .val (.ref b18), .val (.ref b33), .val (.int (1 : Int32))] [(.int (0 : Int32)), (.ref gg_38), (.ref b0_38)])) rfl rfl (hb hby at_235) t k) ?_
    show Go p e below _ (T124.setTop (mkF m 236 #[.val (.int ia), .val (.int ib), .val (.int ic), .val (.int id_), .val (.int iq), .val (.int j_s1), .val (.int j_s2), .val (.int j_s3), .val (.int j_t), .val (.ref b1), .val (.ref b18), .val (.ref b33), .val (.int (1 : Int32))] [(.ref g0_38), (.ref b0_38)]))
    refine Go.by (fun t k => XS.iconst X124.here hx rfl (hb hby at_236) k) ?_
    show Go p e below _ (T124.setTop (mkF m 237 #[.val (.int ia), .val (.int ib), .val (.int ic), .val (.int id_), .val (.int iq), .val (.int j_s1), .val (.int j_s2), .val (.int j_s3), .val (.int j_t), .val (.ref b1), .val (.ref b18), .val (.ref b33), .val (.int (1 : Int32))] [(.int (1 : Int32)), (.ref g0_38), (.ref b0_38)]))
    refine Go.by (fun t k => XS.iload X124.here hx rfl (hb hby at_237) rfl k) ?_
    show Go p e below _ (T124.setTop (mkF m 239 #[.val (.int ia), .val (.int ib), .val (.int ic), .val (.int id_), .val (.int iq), .val (.int j_s1), .val (.int j_s2), .val (.int j_s3), .val (.int j_t), .val (.ref b1), .val (.ref b18), .val (.ref b33), .val (.int (1 : Int32))] [(.int j_s1), (.int (1 : Int32)), (.ref g0_38), (.ref b0_38)]))
    refine Go.by (fun t k => XS.iload X124.here hx rfl (hb hby at_239) rfl k) ?_
    show Go p e below _ (T124.setTop (mkF m 241 #[.val (.int ia), .val (.int ib), .val (.int ic), .val (.int id_), .val (.int iq), .val (.int j_s1), .val (.int j_s2), .val (.int j_s3), .val (.int j_t), .val (.ref b1), .val (.ref b18), .val (.ref b33), .val (.int (1 : Int32))] [(.int j_s2), (.int j_s1), (.int (1 : Int32)), (.ref g0_38), (.ref b0_38)]))
    refine Go.by (fun t k => XS.iload X124.here hx rfl (hb hby at_241) rfl k) ?_
    show Go p e below _ (T124.setTop (mkF m 243 #[.val (.int ia), .val (.int ib), .val (.int ic), .val (.int id_), .val (.int iq), .val (.int j_s1), .val (.int j_s2), .val (.int j_s3), .val (.int j_t), .val (.ref b1), .val (.ref b18), .val (.ref b33), .val (.int (1 : Int32))] [(.int j_s3), (.int j_s2), (.int j_s1), (.int (1 : Int32)), (.ref g0_38), (.ref b0_38)]))
    refine Go.by (fun t k => XS.iload X124.here hx rfl (hb hby at_243) rfl k) ?_
    show Go p e below _ (T124.setTop (mkF m 245 #[.val (.int ia), .val (.int ib), .val (.int ic), .val (.int id_), .val (.int iq), .val (.int j_s1), .val (.int j_s2), .val (.int j_s3), .val (.int j_t), .val (.ref b1), .val (.ref b18), .val (.ref b33), .val (.int (1 : Int32))] [(.int iq), (.int j_s3), (.int j_s2), (.int j_s1), (.int (1 : Int32)), (.ref g0_38), (.ref b0_38)]))
    obtain ⟨_, _, ⟨T128, L128, k128, n128⟩, -, X128, ⟨Lc128, hQ128, l128, y128, z128⟩, st128⟩ := Jvm.LawKit.callS X124 hx (y := (⟨"com/example/wakepath/wakepath/automaton/NumberedStatesAddPinLaw", "wordOk", "([J[IIIIII)Z"⟩ : MethodName)) hown (mvT hZ (hw _ (List.mem_of_getElem? (i := 28) rfl))) (mvT hZ (hw _ (List.mem_of_getElem? (i := 29) rfl))) (mvT hZ (hw _ (List.mem_of_getElem? (i := 30) rfl))) (mvT hZ (hw _ (List.mem_of_getElem? (i := 31) rfl))) (by decide) (backOf (W := 0) (wordOk l Z a0 hw [] b0_38 g0_38 (1 : Int32) j_s1 j_s2 j_s3 iq (((j_s3.toUInt32 >>> ((6 : Int32) &&& 31).toUInt32).toInt32) + (1 : Int32)) (own_addL (own_addL (own_addL (fun _ => (0 : Int64)) j_s1) j_s2) j_s3) (own_addI (own_addL (own_addL (fun _ => (0 : Int64)) j_s1) j_s2) (own_addI (own_addL (fun _ => (0 : Int64)) j_s1) (own_addI (fun _ => (0 : Int64)) (fun _ => (0 : Int32)) j_s1 iq) j_s2 (iq + (1 : Int32))) j_s3 (iq + (2 : Int32))) T84.heap n0 F118 F84_0 F84_1 (by decide) (fun _ => own_mainB hs _ (by decide)) (fun _ => own_mainF hs _ _ (by decide))) hZ (hw _ (List.mem_of_getElem? (i := 31) rfl)) (hw _ (List.mem_of_getElem? (i := 30) rfl)) (by decide) (by decide)) (g := (mkF m 245 #[.val (.int ia), .val (.int ib), .val (.int ic), .val (.int id_), .val (.int iq), .val (.int j_s1), .val (.int j_s2), .val (.int j_s3), .val (.int j_t), .val (.ref b1), .val (.ref b18), .val (.ref b33), .val (.int (1 : Int32))] [(.int iq), (.int j_s3), (.int j_s2), (.int j_s1), (.int (1 : Int32)), (.ref g0_38), (.ref b0_38)])) rfl (by rw [hml]; rfl) (argsL := [(.ref b0_38), (.ref g0_38), (.int (1 : Int32)), (.int j_s1), (.int j_s2), (.int j_s3), (.int iq)]) (rest := []) (lenOf pd_3 rfl) rfl (by show 2 * 0 + _ ≤ _; exact Nat.le_of_eq rfl) (hb hby at_245) (fun _ _ => ⟨rfl, e124, (by decide : 9 + 0 ≤ _), (by decide : 27 + 0 ≤ _)⟩)
    dsimp only [Pt.U, Pt.locs, Pt.cells, Pt.slots] at X128 l128 y128 z128 st128 hQ128
    subst l128 y128 z128
    obtain ⟨rfl, N128q, e128⟩ := hQ128
    have N128 := Fr.app N117 N128q
    refine Go.by st128 ?_
    show Go p e below _ (T128.setTop (mkF m 248 #[.val (.int ia), .val (.int ib), .val (.int ic), .val (.int id_), .val (.int iq), .val (.int j_s1), .val (.int j_s2), .val (.int j_s3), .val (.int j_t), .val (.ref b1), .val (.ref b18), .val (.ref b33), .val (.int (1 : Int32))] [(.int (1 : Int32))]))
    refine Go.by (fun t k => XS.ifNo X128.here hx rfl (hb hby at_248) rfl ((if0 _ _).trans (feq (by decide : ¬ ((1 : Int32) = (0 : Int32)))).1) k) ?_
    show Go p e below _ (T128.setTop (mkF m 251 #[.val (.int ia), .val (.int ib), .val (.int ic), .val (.int id_), .val (.int iq), .val (.int j_s1), .val (.int j_s2), .val (.int j_s3), .val (.int j_t), .val (.ref b1), .val (.ref b18), .val (.ref b33), .val (.int (1 : Int32))] []))
    refine Go.by (fun t k => XS.iconst X128.here hx rfl (hb hby at_251) k) ?_
    show Go p e below _ (T128.setTop (mkF m 252 #[.val (.int ia), .val (.int ib), .val (.int ic), .val (.int id_), .val (.int iq), .val (.int j_s1), .val (.int j_s2), .val (.int j_s3), .val (.int j_t), .val (.ref b1), .val (.ref b18), .val (.ref b33), .val (.int (1 : Int32))] [(.int (1 : Int32))]))
    refine Go.by (fun t k => XS.goto X128.here hx rfl (pc0 := 252) (pc' := 256) rfl (hb hby at_252) (by decide) (by decide) k) ?_
    show Go p e below _ (T128.setTop (mkF m 256 #[.val (.int ia), .val (.int ib), .val (.int ic), .val (.int id_), .val (.int iq), .val (.int j_s1), .val (.int j_s2), .val (.int j_s3), .val (.int j_t), .val (.ref b1), .val (.ref b18), .val (.ref b33), .val (.int (1 : Int32))] [(.int (1 : Int32))]))
    refine Go.by (fun t k => XS.istore X128.here hx rfl (hb hby at_256) rfl (l' := #[.val (.int ia), .val (.int ib), .val (.int ic), .val (.int id_), .val (.int iq), .val (.int j_s1), .val (.int j_s2), .val (.int j_s3), .val (.int j_t), .val (.ref b1), .val (.ref b18), .val (.ref b33), .val (.int (1 : Int32))]) rfl k) ?_
    show Go p e below _ (T128.setTop (mkF m 258 #[.val (.int ia), .val (.int ib), .val (.int ic), .val (.int id_), .val (.int iq), .val (.int j_s1), .val (.int j_s2), .val (.int j_s3), .val (.int j_t), .val (.ref b1), .val (.ref b18), .val (.ref b33), .val (.int (1 : Int32))] []))
    refine Go.by (fun t k => XS.iload X128.here hx rfl (hb hby at_258) rfl k) ?_
    show Go p e below _ (T128.setTop (mkF m 260 #[.val (.int ia), .val (.int ib), .val (.int ic), .val (.int id_), .val (.int iq), .val (.int j_s1), .val (.int j_s2), .val (.int j_s3), .val (.int j_t), .val (.ref b1), .val (.ref b18), .val (.ref b33), .val (.int (1 : Int32))] [(.int (1 : Int32))]))
    refine Go.by (fun t k => XS.ifNo X128.here hx rfl (hb hby at_260) rfl ((if0 _ _).trans (feq (by decide : ¬ ((1 : Int32) = (0 : Int32)))).1) k) ?_
    show Go p e below _ (T128.setTop (mkF m 263 #[.val (.int ia), .val (.int ib), .val (.int ic), .val (.int id_), .val (.int iq), .val (.int j_s1), .val (.int j_s2), .val (.int j_s3), .val (.int j_t), .val (.ref b1), .val (.ref b18), .val (.ref b33), .val (.int (1 : Int32))] []))
    refine Go.by (fun t k => XS.aload X128.here hx rfl (hb hby at_263) rfl rfl k) ?_
    show Go p e below _ (T128.setTop (mkF m 265 #[.val (.int ia), .val (.int ib), .val (.int ic), .val (.int id_), .val (.int iq), .val (.int j_s1), .val (.int j_s2), .val (.int j_s3), .val (.int j_t), .val (.ref b1), .val (.ref b18), .val (.ref b33), .val (.int (1 : Int32))] [(.ref b33)]))
    obtain ⟨T129, X129, e129, st129⟩ := getF X128 hx hZ hown (host := "") (Or.inl (hw _ (List.mem_of_getElem? (i := 26) rfl))) Via.refl e128 F94 (g := (mkF m 265 #[.val (.int ia), .val (.int ib), .val (.int ic), .val (.int id_), .val (.int iq), .val (.int j_s1), .val (.int j_s2), .val (.int j_s3), .val (.int j_t), .val (.ref b1), .val (.ref b18), .val (.ref b33), .val (.int (1 : Int32))] [(.ref b33)])) rfl rfl (hb hby at_265)
    refine Go.by st129 ?_
    show Go p e below _ (T129.setTop (mkF m 268 #[.val (.int ia), .val (.int ib), .val (.int ic), .val (.int id_), .val (.int iq), .val (.int j_s1), .val (.int j_s2), .val (.int j_s3), .val (.int j_t), .val (.ref b1), .val (.ref b18), .val (.ref b33), .val (.int (1 : Int32))] [(.ref bb_38)]))
    refine Go.by (fun t k => XS.iconst X129.here hx rfl (hb hby at_268) k) ?_
    show Go p e below _ (T129.setTop (mkF m 269 #[.val (.int ia), .val (.int ib), .val (.int ic), .val (.int id_), .val (.int iq), .val (.int j_s1), .val (.int j_s2), .val (.int j_s3), .val (.int j_t), .val (.ref b1), .val (.ref b18), .val (.ref b33), .val (.int (1 : Int32))] [(.int (0 : Int32)), (.ref bb_38)]))
    obtain ⟨cl130, Ar130, qk130, sz130, nn130, Ha130, Gf130⟩ := id F96
    have hin131 : ¬ ((0 : Int32) < 0 ∨ cl130.slots.size ≤ ((0 : Int32)).toNatClampNeg) := inb_of sz130 ⟨by decide, by decide⟩
    have hat132 : cl130.slots[((0 : Int32)).toNatClampNeg]? = some (.ref b0_38) := Has.at Ha130 hin131 rfl
    refine Go.by (fun t k => X129.aaload hx (j := (0 : Int32)) (v := (.ref b0_38)) (by rw [e129]; exact Ar130.1) (State.isArrayOf_alike hZ.alike Ar130.2.1) rfl Ar130.2.2 hin131 hat132 (g := (mkF m 269 #[.val (.int ia), .val (.int ib), .val (.int ic), .val (.int id_), .val (.int iq), .val (.int j_s1), .val (.int j_s2), .val (.int j_s3), .val (.int j_t), .val (.ref b1), .val (.ref b18), .val (.ref b33), .val (.int (1 : Int32))] [(.int (0 : Int32)), (.ref bb_38)])) rfl rfl (hb hby at_269) t k) ?_
    show Go p e below _ (T129.setTop (mkF m 270 #[.val (.int ia), .val (.int ib), .val (.int ic), .val (.int id_), .val (.int iq), .val (.int j_s1), .val (.int j_s2), .val (.int j_s3), .val (.int j_t), .val (.ref b1), .val (.ref b18), .val (.ref b33), .val (.int (1 : Int32))] [(.ref b0_38)]))
    refine Go.by (fun t k => XS.aload X129.here hx rfl (hb hby at_270) rfl rfl k) ?_
    show Go p e below _ (T129.setTop (mkF m 272 #[.val (.int ia), .val (.int ib), .val (.int ic), .val (.int id_), .val (.int iq), .val (.int j_s1), .val (.int j_s2), .val (.int j_s3), .val (.int j_t), .val (.ref b1), .val (.ref b18), .val (.ref b33), .val (.int (1 : Int32))] [(.ref b33), (.ref b0_38)]))
    obtain ⟨T133, X133, e133, st133⟩ := getF X129 hx hZ hown (host := "") (Or.inl (hw _ (List.mem_of_getElem? (i := 27) rfl))) Via.refl e129 F111 (g := (mkF m 272 #[.val (.int ia), .val (.int ib), .val (.int ic), .val (.int id_), .val (.int iq), .val (.int j_s1), .val (.int j_s2), .val (.int j_s3), .val (.int j_t), .val (.ref b1), .val (.ref b18), .val (.ref b33), .val (.int (1 : Int32))] [(.ref b33), (.ref b0_38)])) rfl rfl (hb hby at_272)
    refine Go.by st133 ?_
    show Go p e below _ (T133.setTop (mkF m 275 #[.val (.int ia), .val (.int ib), .val (.int ic), .val (.int id_), .val (.int iq), .val (.int j_s1), .val (.int j_s2), .val (.int j_s3), .val (.int j_t), .val (.ref b1), .val (.ref b18), .val (.ref b33), .val (.int (1 : Int32))] [(.ref gg_38), (.ref b0_38)]))
    refine Go.by (fun t k => XS.iconst X133.here hx rfl (hb hby at_275) k) ?_
    show Go p e below _ (T133.setTop (mkF m 276 #[.val (.int ia), .val (.int ib), .val (.int ic), .val (.int id_), .val (.int iq), .val (.int j_s1), .val (.int j_s2), .val (.int j_s3), .val (.int j_t), .val (.ref b1), .val (.ref b18), .val (.ref b33), .val (.int (1 : Int32))] [(.int (0 : Int32)), (.ref gg_38), (.ref b0_38)]))
    obtain ⟨cl134, Ar134, qk134, sz134, nn134, Ha134, Gf134⟩ := id F113
    have hin135 : ¬ ((0 : Int32) < 0 ∨ cl134.slots.size ≤ ((0 : Int32)).toNatClampNeg) := inb_of sz134 ⟨by decide, by decide⟩
    have hat136 : cl134.slots[((0 : Int32)).toNatClampNeg]? = some (.ref g0_38) := Has.at Ha134 hin135 rfl
    refine Go.by (fun t k => X133.aaload hx (j := (0 : Int32)) (v := (.ref g0_38)) (by rw [e133]; exact Ar134.1) (State.isArrayOf_alike hZ.alike Ar134.2.1) rfl Ar134.2.2 hin135 hat136 (g := (mkF m 276 #[.val (.int ia), .val (.int ib), .val (.int ic), .val (.int id_), .val (.int iq), .val (.int j_s1), .val (.int j_s2), .val (.int j_s3), .val (.int j_t), .val (.ref b1), .val (.ref b18), .val (.ref b33), .val (.int (1 : Int32))] [(.int (0 : Int32)), (.ref gg_38), (.ref b0_38)])) rfl rfl (hb hby at_276) t k) ?_
    show Go p e below _ (T133.setTop (mkF m 277 #[.val (.int ia), .val (.int ib), .val (.int ic), .val (.int id_), .val (.int iq), .val (.int j_s1), .val (.int j_s2), .val (.int j_s3), .val (.int j_t), .val (.ref b1), .val (.ref b18), .val (.ref b33), .val (.int (1 : Int32))] [(.ref g0_38), (.ref b0_38)]))
    refine Go.by (fun t k => XS.iconst X133.here hx rfl (hb hby at_277) k) ?_
    show Go p e below _ (T133.setTop (mkF m 278 #[.val (.int ia), .val (.int ib), .val (.int ic), .val (.int id_), .val (.int iq), .val (.int j_s1), .val (.int j_s2), .val (.int j_s3), .val (.int j_t), .val (.ref b1), .val (.ref b18), .val (.ref b33), .val (.int (1 : Int32))] [(.int (2 : Int32)), (.ref g0_38), (.ref b0_38)]))
    refine Go.by (fun t k => XS.iload X133.here hx rfl (hb hby at_278) rfl k) ?_
    show Go p e below _ (T133.setTop (mkF m 280 #[.val (.int ia), .val (.int ib), .val (.int ic), .val (.int id_), .val (.int iq), .val (.int j_s1), .val (.int j_s2), .val (.int j_s3), .val (.int j_t), .val (.ref b1), .val (.ref b18), .val (.ref b33), .val (.int (1 : Int32))] [(.int j_s1), (.int (2 : Int32)), (.ref g0_38), (.ref b0_38)]))
    refine Go.by (fun t k => XS.iload X133.here hx rfl (hb hby at_280) rfl k) ?_
    show Go p e below _ (T133.setTop (mkF m 282 #[.val (.int ia), .val (.int ib), .val (.int ic), .val (.int id_), .val (.int iq), .val (.int j_s1), .val (.int j_s2), .val (.int j_s3), .val (.int j_t), .val (.ref b1), .val (.ref b18), .val (.ref b33), .val (.int (1 : Int32))] [(.int j_s2), (.int j_s1), (.int (2 : Int32)), (.ref g0_38), (.ref b0_38)]))
    refine Go.by (fun t k => XS.iload X133.here hx rfl (hb hby at_282) rfl k) ?_
    show Go p e below _ (T133.setTop (mkF m 284 #[.val (.int ia), .val (.int ib), .val (.int ic), .val (.int id_), .val (.int iq), .val (.int j_s1), .val (.int j_s2), .val (.int j_s3), .val (.int j_t), .val (.ref b1), .val (.ref b18), .val (.ref b33), .val (.int (1 : Int32))] [(.int j_s3), (.int j_s2), (.int j_s1), (.int (2 : Int32)), (.ref g0_38), (.ref b0_38)]))
    refine Go.by (fun t k => XS.iload X133.here hx rfl (hb hby at_284) rfl k) ?_
    show Go p e below _ (T133.setTop (mkF m 286 #[.val (.int ia), .val (.int ib), .val (.int ic), .val (.int id_), .val (.int iq), .val (.int j_s1), .val (.int j_s2), .val (.int j_s3), .val (.int j_t), .val (.ref b1), .val (.ref b18), .val (.ref b33), .val (.int (1 : Int32))] [(.int iq), (.int j_s3), (.int j_s2), (.int j_s1), (.int (2 : Int32)), (.ref g0_38), (.ref b0_38)]))
    obtain ⟨_, _, ⟨T137, L137, k137, n137⟩, -, X137, ⟨Lc137, hQ137, l137, y137, z137⟩, st137⟩ := Jvm.LawKit.callS X133 hx (y := (⟨"com/example/wakepath/wakepath/automaton/NumberedStatesAddPinLaw", "wordOk", "([J[IIIIII)Z"⟩ : MethodName)) hown (mvT hZ (hw _ (List.mem_of_getElem? (i := 28) rfl))) (mvT hZ (hw _ (List.mem_of_getElem? (i := 29) rfl))) (mvT hZ (hw _ (List.mem_of_getElem? (i := 30) rfl))) (mvT hZ (hw _ (List.mem_of_getElem? (i := 31) rfl))) (by decide) (backOf (W := 0) (wordOk l Z a0 hw [] b0_38 g0_38 (2 : Int32) j_s1 j_s2 j_s3 iq (((j_s3.toUInt32 >>> ((6 : Int32) &&& 31).toUInt32).toInt32) + (1 : Int32)) (own_addL (own_addL (own_addL (fun _ => (0 : Int64)) j_s1) j_s2) j_s3) (own_addI (own_addL (own_addL (fun _ => (0 : Int64)) j_s1) j_s2) (own_addI (own_addL (fun _ => (0 : Int64)) j_s1) (own_addI (fun _ => (0 : Int64)) (fun _ => (0 : Int32)) j_s1 iq) j_s2 (iq + (1 : Int32))) j_s3 (iq + (2 : Int32))) T84.heap n0 F118 F84_0 F84_1 (by decide) (fun _ => own_mainB hs _ (by decide)) (fun _ => own_mainF hs _ _ (by decide))) hZ (hw _ (List.mem_of_getElem? (i := 31) rfl)) (hw _ (List.mem_of_getElem? (i := 30) rfl)) (by decide) (by decide)) (g := (mkF m 286 #[.val (.int ia), .val (.int ib), .val (.int ic), .val (.int id_), .val (.int iq), .val (.int j_s1), .val (.int j_s2), .val (.int j_s3), .val (.int j_t), .val (.ref b1), .val (.ref b18), .val (.ref b33), .val (.int (1 : Int32))] [(.int iq), (.int j_s3), (.int j_s2), (.int j_s1), (.int (2 : Int32)), (.ref g0_38), (.ref b0_38)])) rfl (by rw [hml]; rfl) (argsL := [(.ref b0_38), (.ref g0_38), (.int (2 : Int32)), (.int j_s1), (.int j_s2), (.int j_s3), (.int iq)]) (rest := []) (lenOf pd_3 rfl) rfl (by show 2 * 0 + _ ≤ _; exact Nat.le_of_eq rfl) (hb hby at_286) (fun _ _ => ⟨rfl, e133, (by decide : 9 + 0 ≤ _), (by decide : 27 + 0 ≤ _)⟩)
    dsimp only [Pt.U, Pt.locs, Pt.cells, Pt.slots] at X137 l137 y137 z137 st137 hQ137
    subst l137 y137 z137
    obtain ⟨rfl, N137q, e137⟩ := hQ137
    have N137 := Fr.app N128 N137q
    refine Go.by st137 ?_
    show Go p e below _ (T137.setTop (mkF m 289 #[.val (.int ia), .val (.int ib), .val (.int ic), .val (.int id_), .val (.int iq), .val (.int j_s1), .val (.int j_s2), .val (.int j_s3), .val (.int j_t), .val (.ref b1), .val (.ref b18), .val (.ref b33), .val (.int (1 : Int32))] [(.int (1 : Int32))]))
    refine Go.by (fun t k => XS.ifNo X137.here hx rfl (hb hby at_289) rfl ((if0 _ _).trans (feq (by decide : ¬ ((1 : Int32) = (0 : Int32)))).1) k) ?_
    show Go p e below _ (T137.setTop (mkF m 292 #[.val (.int ia), .val (.int ib), .val (.int ic), .val (.int id_), .val (.int iq), .val (.int j_s1), .val (.int j_s2), .val (.int j_s3), .val (.int j_t), .val (.ref b1), .val (.ref b18), .val (.ref b33), .val (.int (1 : Int32))] []))
    refine Go.by (fun t k => XS.iconst X137.here hx rfl (hb hby at_292) k) ?_
    show Go p e below _ (T137.setTop (mkF m 293 #[.val (.int ia), .val (.int ib), .val (.int ic), .val (.int id_), .val (.int iq), .val (.int j_s1), .val (.int j_s2), .val (.int j_s3), .val (.int j_t), .val (.ref b1), .val (.ref b18), .val (.ref b33), .val (.int (1 : Int32))] [(.int (1 : Int32))]))
    refine Go.by (fun t k => XS.goto X137.here hx rfl (pc0 := 293) (pc' := 297) rfl (hb hby at_293) (by decide) (by decide) k) ?_
    show Go p e below _ (T137.setTop (mkF m 297 #[.val (.int ia), .val (.int ib), .val (.int ic), .val (.int id_), .val (.int iq), .val (.int j_s1), .val (.int j_s2), .val (.int j_s3), .val (.int j_t), .val (.ref b1), .val (.ref b18), .val (.ref b33), .val (.int (1 : Int32))] [(.int (1 : Int32))]))
    refine Go.by (fun t k => XS.istore X137.here hx rfl (hb hby at_297) rfl (l' := #[.val (.int ia), .val (.int ib), .val (.int ic), .val (.int id_), .val (.int iq), .val (.int j_s1), .val (.int j_s2), .val (.int j_s3), .val (.int j_t), .val (.ref b1), .val (.ref b18), .val (.ref b33), .val (.int (1 : Int32))]) rfl k) ?_
    show Go p e below _ (T137.setTop (mkF m 299 #[.val (.int ia), .val (.int ib), .val (.int ic), .val (.int id_), .val (.int iq), .val (.int j_s1), .val (.int j_s2), .val (.int j_s3), .val (.int j_t), .val (.ref b1), .val (.ref b18), .val (.ref b33), .val (.int (1 : Int32))] []))
    refine Go.by (fun t k => XS.iload X137.here hx rfl (hb hby at_299) rfl k) ?_
    show Go p e below _ (T137.setTop (mkF m 301 #[.val (.int ia), .val (.int ib), .val (.int ic), .val (.int id_), .val (.int iq), .val (.int j_s1), .val (.int j_s2), .val (.int j_s3), .val (.int j_t), .val (.ref b1), .val (.ref b18), .val (.ref b33), .val (.int (1 : Int32))] [(.int (1 : Int32))]))
    refine Go.by (fun t k => XS.ifNo X137.here hx rfl (hb hby at_301) rfl ((if0 _ _).trans (feq (by decide : ¬ ((1 : Int32) = (0 : Int32)))).1) k) ?_
    show Go p e below _ (T137.setTop (mkF m 304 #[.val (.int ia), .val (.int ib), .val (.int ic), .val (.int id_), .val (.int iq), .val (.int j_s1), .val (.int j_s2), .val (.int j_s3), .val (.int j_t), .val (.ref b1), .val (.ref b18), .val (.ref b33), .val (.int (1 : Int32))] []))
    refine Go.by (fun t k => XS.aload X137.here hx rfl (hb hby at_304) rfl rfl k) ?_
    show Go p e below _ (T137.setTop (mkF m 306 #[.val (.int ia), .val (.int ib), .val (.int ic), .val (.int id_), .val (.int iq), .val (.int j_s1), .val (.int j_s2), .val (.int j_s3), .val (.int j_t), .val (.ref b1), .val (.ref b18), .val (.ref b33), .val (.int (1 : Int32))] [(.ref b33)]))
    obtain ⟨T138, X138, e138, st138⟩ := getF X137 hx hZ hown (host := "") (Or.inl (hw _ (List.mem_of_getElem? (i := 26) rfl))) Via.refl e137 F94 (g := (mkF m 306 #[.val (.int ia), .val (.int ib), .val (.int ic), .val (.int id_), .val (.int iq), .val (.int j_s1), .val (.int j_s2), .val (.int j_s3), .val (.int j_t), .val (.ref b1), .val (.ref b18), .val (.ref b33), .val (.int (1 : Int32))] [(.ref b33)])) rfl rfl (hb hby at_306)
    refine Go.by st138 ?_
    show Go p e below _ (T138.setTop (mkF m 309 #[.val (.int ia), .val (.int ib), .val (.int ic), .val (.int id_), .val (.int iq), .val (.int j_s1), .val (.int j_s2), .val (.int j_s3), .val (.int j_t), .val (.ref b1), .val (.ref b18), .val (.ref b33), .val (.int (1 : Int32))] [(.ref bb_38)]))
    refine Go.by (fun t k => XS.iconst X138.here hx rfl (hb hby at_309) k) ?_
    show Go p e below _ (T138.setTop (mkF m 310 #[.val (.int ia), .val (.int ib), .val (.int ic), .val (.int id_), .val (.int iq), .val (.int j_s1), .val (.int j_s2), .val (.int j_s3), .val (.int j_t), .val (.ref b1), .val (.ref b18), .val (.ref b33), .val (.int (1 : Int32))] [(.int (0 : Int32)), (.ref bb_38)]))
    obtain ⟨cl139, Ar139, qk139, sz139, nn139, Ha139, Gf139⟩ := id F96
    have hin140 : ¬ ((0 : Int32) < 0 ∨ cl139.slots.size ≤ ((0 : Int32)).toNatClampNeg) := inb_of sz139 ⟨by decide, by decide⟩
    have hat141 : cl139.slots[((0 : Int32)).toNatClampNeg]? = some (.ref b0_38) := Has.at Ha139 hin140 rfl
    refine Go.by (fun t k => X138.aaload hx (j := (0 : Int32)) (v := (.ref b0_38)) (by rw [e138]; exact Ar139.1) (State.isArrayOf_alike hZ.alike Ar139.2.1) rfl Ar139.2.2 hin140 hat141 (g := (mkF m 310 #[.val (.int ia), .val (.int ib), .val (.int ic), .val (.int id_), .val (.int iq), .val (.int j_s1), .val (.int j_s2), .val (.int j_s3), .val (.int j_t), .val (.ref b1), .val (.ref b18), .val (.ref b33), .val (.int (1 : Int32))] [(.int (0 : Int32)), (.ref bb_38)])) rfl rfl (hb hby at_310) t k) ?_
    show Go p e below _ (T138.setTop (mkF m 311 #[.val (.int ia), .val (.int ib), .val (.int ic), .val (.int id_), .val (.int iq), .val (.int j_s1), .val (.int j_s2), .val (.int j_s3), .val (.int j_t), .val (.ref b1), .val (.ref b18), .val (.ref b33), .val (.int (1 : Int32))] [(.ref b0_38)]))
    refine Go.by (fun t k => XS.aload X138.here hx rfl (hb hby at_311) rfl rfl k) ?_
    show Go p e below _ (T138.setTop (mkF m 313 #[.val (.int ia), .val (.int ib), .val (.int ic), .val (.int id_), .val (.int iq), .val (.int j_s1), .val (.int j_s2), .val (.int j_s3), .val (.int j_t), .val (.ref b1), .val (.ref b18), .val (.ref b33), .val (.int (1 : Int32))] [(.ref b33), (.ref b0_38)]))
    obtain ⟨T142, X142, e142, st142⟩ := getF X138 hx hZ hown (host := "") (Or.inl (hw _ (List.mem_of_getElem? (i := 27) rfl))) Via.refl e138 F111 (g := (mkF m 313 #[.val (.int ia), .val (.int ib), .val (.int ic), .val (.int id_), .val (.int iq), .val (.int j_s1), .val (.int j_s2), .val (.int j_s3), .val (.int j_t), .val (.ref b1), .val (.ref b18), .val (.ref b33), .val (.int (1 : Int32))] [(.ref b33), (.ref b0_38)])) rfl rfl (hb hby at_313)
    refine Go.by st142 ?_
    show Go p e below _ (T142.setTop (mkF m 316 #[.val (.int ia), .val (.int ib), .val (.int ic), .val (.int id_), .val (.int iq), .val (.int j_s1), .val (.int j_s2), .val (.int j_s3), .val (.int j_t), .val (.ref b1), .val (.ref b18), .val (.ref b33), .val (.int (1 : Int32))] [(.ref gg_38), (.ref b0_38)]))
    refine Go.by (fun t k => XS.iconst X142.here hx rfl (hb hby at_316) k) ?_
    show Go p e below _ (T142.setTop (mkF m 317 #[.val (.int ia), .val (.int ib), .val (.int ic), .val (.int id_), .val (.int iq), .val (.int j_s1), .val (.int j_s2), .val (.int j_s3), .val (.int j_t), .val (.ref b1), .val (.ref b18), .val (.ref b33), .val (.int (1 : Int32))] [(.int (0 : Int32)), (.ref gg_38), (.ref b0_38)]))
    obtain ⟨cl143, Ar143, qk143, sz143, nn143, Ha143, Gf143⟩ := id F113
    have hin144 : ¬ ((0 : Int32) < 0 ∨ cl143.slots.size ≤ ((0 : Int32)).toNatClampNeg) := inb_of sz143 ⟨by decide, by decide⟩
    have hat145 : cl143.slots[((0 : Int32)).toNatClampNeg]? = some (.ref g0_38) := Has.at Ha143 hin144 rfl
    refine Go.by (fun t k => X142.aaload hx (j := (0 : Int32)) (v := (.ref g0_38)) (by rw [e142]; exact Ar143.1) (State.isArrayOf_alike hZ.alike Ar143.2.1) rfl Ar143.2.2 hin144 hat145 (g := (mkF m 317 #[.val (.int ia), .val (.int ib), .val (.int ic), .val (.int id_), .val (.int iq), .val (.int j_s1), .val (.int j_s2), .val (.int j_s3), .val (.int j_t), .val (.ref b1), .val (.ref b18), .val (.ref b33), .val (.int (1 : Int32))] [(.int (0 : Int32)), (.ref gg_38), (.ref b0_38)])) rfl rfl (hb hby at_317) t k) ?_
    show Go p e below _ (T142.setTop (mkF m 318 #[.val (.int ia), .val (.int ib), .val (.int ic), .val (.int id_), .val (.int iq), .val (.int j_s1), .val (.int j_s2), .val (.int j_s3), .val (.int j_t), .val (.ref b1), .val (.ref b18), .val (.ref b33), .val (.int (1 : Int32))] [(.ref g0_38), (.ref b0_38)]))
    refine Go.by (fun t k => XS.iconst X142.here hx rfl (hb hby at_318) k) ?_
    show Go p e below _ (T142.setTop (mkF m 319 #[.val (.int ia), .val (.int ib), .val (.int ic), .val (.int id_), .val (.int iq), .val (.int j_s1), .val (.int j_s2), .val (.int j_s3), .val (.int j_t), .val (.ref b1), .val (.ref b18), .val (.ref b33), .val (.int (1 : Int32))] [(.int (3 : Int32)), (.ref g0_38), (.ref b0_38)]))
    refine Go.by (fun t k => XS.iload X142.here hx rfl (hb hby at_319) rfl k) ?_
    show Go p e below _ (T142.setTop (mkF m 321 #[.val (.int ia), .val (.int ib), .val (.int ic), .val (.int id_), .val (.int iq), .val (.int j_s1), .val (.int j_s2), .val (.int j_s3), .val (.int j_t), .val (.ref b1), .val (.ref b18), .val (.ref b33), .val (.int (1 : Int32))] [(.int j_s1), (.int (3 : Int32)), (.ref g0_38), (.ref b0_38)]))
    refine Go.by (fun t k => XS.iload X142.here hx rfl (hb hby at_321) rfl k) ?_
    show Go p e below _ (T142.setTop (mkF m 323 #[.val (.int ia), .val (.int ib), .val (.int ic), .val (.int id_), .val (.int iq), .val (.int j_s1), .val (.int j_s2), .val (.int j_s3), .val (.int j_t), .val (.ref b1), .val (.ref b18), .val (.ref b33), .val (.int (1 : Int32))] [(.int j_s2), (.int j_s1), (.int (3 : Int32)), (.ref g0_38), (.ref b0_38)]))
    refine Go.by (fun t k => XS.iload X142.here hx rfl (hb hby at_323) rfl k) ?_
    show Go p e below _ (T142.setTop (mkF m 325 #[.val (.int ia), .val (.int ib), .val (.int ic), .val (.int id_), .val (.int iq), .val (.int j_s1), .val (.int j_s2), .val (.int j_s3), .val (.int j_t), .val (.ref b1), .val (.ref b18), .val (.ref b33), .val (.int (1 : Int32))] [(.int j_s3), (.int j_s2), (.int j_s1), (.int (3 : Int32)), (.ref g0_38), (.ref b0_38)]))
    refine Go.by (fun t k => XS.iload X142.here hx rfl (hb hby at_325) rfl k) ?_
    show Go p e below _ (T142.setTop (mkF m 327 #[.val (.int ia), .val (.int ib), .val (.int ic), .val (.int id_), .val (.int iq), .val (.int j_s1), .val (.int j_s2), .val (.int j_s3), .val (.int j_t), .val (.ref b1), .val (.ref b18), .val (.ref b33), .val (.int (1 : Int32))] [(.int iq), (.int j_s3), (.int j_s2), (.int j_s1), (.int (3 : Int32)), (.ref g0_38), (.ref b0_38)]))
    obtain ⟨_, _, ⟨T146, L146, k146, n146⟩, -, X146, ⟨Lc146, hQ146, l146, y146, z146⟩, st146⟩ := Jvm.LawKit.callS X142 hx (y := (⟨"com/example/wakepath/wakepath/automaton/NumberedStatesAddPinLaw", "wordOk", "([J[IIIIII)Z"⟩ : MethodName)) hown (mvT hZ (hw _ (List.mem_of_getElem? (i := 28) rfl))) (mvT hZ (hw _ (List.mem_of_getElem? (i := 29) rfl))) (mvT hZ (hw _ (List.mem_of_getElem? (i := 30) rfl))) (mvT hZ (hw _ (List.mem_of_getElem? (i := 31) rfl))) (by decide) (backOf (W := 0) (wordOk l Z a0 hw [] b0_38 g0_38 (3 : Int32) j_s1 j_s2 j_s3 iq (((j_s3.toUInt32 >>> ((6 : Int32) &&& 31).toUInt32).toInt32) + (1 : Int32)) (own_addL (own_addL (own_addL (fun _ => (0 : Int64)) j_s1) j_s2) j_s3) (own_addI (own_addL (own_addL (fun _ => (0 : Int64)) j_s1) j_s2) (own_addI (own_addL (fun _ => (0 : Int64)) j_s1) (own_addI (fun _ => (0 : Int64)) (fun _ => (0 : Int32)) j_s1 iq) j_s2 (iq + (1 : Int32))) j_s3 (iq + (2 : Int32))) T84.heap n0 F118 F84_0 F84_1 (by decide) (fun _ => own_mainB hs _ (by decide)) (fun _ => own_mainF hs _ _ (by decide))) hZ (hw _ (List.mem_of_getElem? (i := 31) rfl)) (hw _ (List.mem_of_getElem? (i := 30) rfl)) (by decide) (by decide)) (g := (mkF m 327 #[.val (.int ia), .val (.int ib), .val (.int ic), .val (.int id_), .val (.int iq), .val (.int j_s1), .val (.int j_s2), .val (.int j_s3), .val (.int j_t), .val (.ref b1), .val (.ref b18), .val (.ref b33), .val (.int (1 : Int32))] [(.int iq), (.int j_s3), (.int j_s2), (.int j_s1), (.int (3 : Int32)), (.ref g0_38), (.ref b0_38)])) rfl (by rw [hml]; rfl) (argsL := [(.ref b0_38), (.ref g0_38), (.int (3 : Int32)), (.int j_s1), (.int j_s2), (.int j_s3), (.int iq)]) (rest := []) (lenOf pd_3 rfl) rfl (by show 2 * 0 + _ ≤ _; exact Nat.le_of_eq rfl) (hb hby at_327) (fun _ _ => ⟨rfl, e142, (by decide : 9 + 0 ≤ _), (by decide : 27 + 0 ≤ _)⟩)
    dsimp only [Pt.U, Pt.locs, Pt.cells, Pt.slots] at X146 l146 y146 z146 st146 hQ146
    subst l146 y146 z146
    obtain ⟨rfl, N146q, e146⟩ := hQ146
    have N146 := Fr.app N137 N146q
    refine Go.by st146 ?_
    show Go p e below _ (T146.setTop (mkF m 330 #[.val (.int ia), .val (.int ib), .val (.int ic), .val (.int id_), .val (.int iq), .val (.int j_s1), .val (.int j_s2), .val (.int j_s3), .val (.int j_t), .val (.ref b1), .val (.ref b18), .val (.ref b33), .val (.int (1 : Int32))] [(.int (1 : Int32))]))
    refine Go.by (fun t k => XS.ifNo X146.here hx rfl (hb hby at_330) rfl ((if0 _ _).trans (feq (by decide : ¬ ((1 : Int32) = (0 : Int32)))).1) k) ?_
    show Go p e below _ (T146.setTop (mkF m 333 #[.val (.int ia), .val (.int ib), .val (.int ic), .val (.int id_), .val (.int iq), .val (.int j_s1), .val (.int j_s2), .val (.int j_s3), .val (.int j_t), .val (.ref b1), .val (.ref b18), .val (.ref b33), .val (.int (1 : Int32))] []))
    refine Go.by (fun t k => XS.iconst X146.here hx rfl (hb hby at_333) k) ?_
    show Go p e below _ (T146.setTop (mkF m 334 #[.val (.int ia), .val (.int ib), .val (.int ic), .val (.int id_), .val (.int iq), .val (.int j_s1), .val (.int j_s2), .val (.int j_s3), .val (.int j_t), .val (.ref b1), .val (.ref b18), .val (.ref b33), .val (.int (1 : Int32))] [(.int (1 : Int32))]))
    refine Go.by (fun t k => XS.goto X146.here hx rfl (pc0 := 334) (pc' := 338) rfl (hb hby at_334) (by decide) (by decide) k) ?_
    show Go p e below _ (T146.setTop (mkF m 338 #[.val (.int ia), .val (.int ib), .val (.int ic), .val (.int id_), .val (.int iq), .val (.int j_s1), .val (.int j_s2), .val (.int j_s3), .val (.int j_t), .val (.ref b1), .val (.ref b18), .val (.ref b33), .val (.int (1 : Int32))] [(.int (1 : Int32))]))
    refine Go.by (fun t k => XS.istore X146.here hx rfl (hb hby at_338) rfl (l' := #[.val (.int ia), .val (.int ib), .val (.int ic), .val (.int id_), .val (.int iq), .val (.int j_s1), .val (.int j_s2), .val (.int j_s3), .val (.int j_t), .val (.ref b1), .val (.ref b18), .val (.ref b33), .val (.int (1 : Int32))]) rfl k) ?_
    show Go p e below _ (T146.setTop (mkF m 340 #[.val (.int ia), .val (.int ib), .val (.int ic), .val (.int id_), .val (.int iq), .val (.int j_s1), .val (.int j_s2), .val (.int j_s3), .val (.int j_t), .val (.ref b1), .val (.ref b18), .val (.ref b33), .val (.int (1 : Int32))] []))
    refine Go.by (fun t k => XS.iload X146.here hx rfl (hb hby at_340) rfl k) ?_
    show Go p e below _ (T146.setTop (mkF m 342 #[.val (.int ia), .val (.int ib), .val (.int ic), .val (.int id_), .val (.int iq), .val (.int j_s1), .val (.int j_s2), .val (.int j_s3), .val (.int j_t), .val (.ref b1), .val (.ref b18), .val (.ref b33), .val (.int (1 : Int32))] [(.int (1 : Int32))]))
    refine Go.by (fun t k => XS.ifNo X146.here hx rfl (hb hby at_342) rfl ((if0 _ _).trans (feq (by decide : ¬ ((1 : Int32) = (0 : Int32)))).1) k) ?_
    show Go p e below _ (T146.setTop (mkF m 345 #[.val (.int ia), .val (.int ib), .val (.int ic), .val (.int id_), .val (.int iq), .val (.int j_s1), .val (.int j_s2), .val (.int j_s3), .val (.int j_t), .val (.ref b1), .val (.ref b18), .val (.ref b33), .val (.int (1 : Int32))] []))
    refine Go.by (fun t k => XS.aload X146.here hx rfl (hb hby at_345) rfl rfl k) ?_
    show Go p e below _ (T146.setTop (mkF m 347 #[.val (.int ia), .val (.int ib), .val (.int ic), .val (.int id_), .val (.int iq), .val (.int j_s1), .val (.int j_s2), .val (.int j_s3), .val (.int j_t), .val (.ref b1), .val (.ref b18), .val (.ref b33), .val (.int (1 : Int32))] [(.ref b33)]))
    obtain ⟨T147, X147, e147, st147⟩ := getF X146 hx hZ hown (host := "") (Or.inl (hw _ (List.mem_of_getElem? (i := 26) rfl))) Via.refl e146 F94 (g := (mkF m 347 #[.val (.int ia), .val (.int ib), .val (.int ic), .val (.int id_), .val (.int iq), .val (.int j_s1), .val (.int j_s2), .val (.int j_s3), .val (.int j_t), .val (.ref b1), .val (.ref b18), .val (.ref b33), .val (.int (1 : Int32))] [(.ref b33)])) rfl rfl (hb hby at_347)
    refine Go.by st147 ?_
    show Go p e below _ (T147.setTop (mkF m 350 #[.val (.int ia), .val (.int ib), .val (.int ic), .val (.int id_), .val (.int iq), .val (.int j_s1), .val (.int j_s2), .val (.int j_s3), .val (.int j_t), .val (.ref b1), .val (.ref b18), .val (.ref b33), .val (.int (1 : Int32))] [(.ref bb_38)]))
    refine Go.by (fun t k => XS.iconst X147.here hx rfl (hb hby at_350) k) ?_
    show Go p e below _ (T147.setTop (mkF m 351 #[.val (.int ia), .val (.int ib), .val (.int ic), .val (.int id_), .val (.int iq), .val (.int j_s1), .val (.int j_s2), .val (.int j_s3), .val (.int j_t), .val (.ref b1), .val (.ref b18), .val (.ref b33), .val (.int (1 : Int32))] [(.int (1 : Int32)), (.ref bb_38)]))
    obtain ⟨cl148, Ar148, qk148, sz148, nn148, Ha148, Gf148⟩ := id F96
    have hin149 : ¬ ((1 : Int32) < 0 ∨ cl148.slots.size ≤ ((1 : Int32)).toNatClampNeg) := inb_of sz148 ⟨by decide, by decide⟩
    have hat150 : cl148.slots[((1 : Int32)).toNatClampNeg]? = some (.ref b1_38) := Has.at Ha148 hin149 rfl
    refine Go.by (fun t k => X147.aaload hx (j := (1 : Int32)) (v := (.ref b1_38)) (by rw [e147]; exact Ar148.1) (State.isArrayOf_alike hZ.alike Ar148.2.1) rfl Ar148.2.2 hin149 hat150 (g := (mkF m 351 #[.val (.int ia), .val (.int ib), .val (.int ic), .val (.int id_), .val (.int iq), .val (.int j_s1), .val (.int j_s2), .val (.int j_s3), .val (.int j_t), .val (.ref b1), .val (.ref b18), .val (.ref b33), .val (.int (1 : Int32))] [(.int (1 : Int32)), (.ref bb_38)])) rfl rfl (hb hby at_351) t k) ?_
    show Go p e below _ (T147.setTop (mkF m 352 #[.val (.int ia), .val (.int ib), .val (.int ic), .val (.int id_), .val (.int iq), .val (.int j_s1), .val (.int j_s2), .val (.int j_s3), .val (.int j_t), .val (.ref b1), .val (.ref b18), .val (.ref b33), .val (.int (1 : Int32))] [(.ref b1_38)]))
    refine Go.by (fun t k => XS.aload X147.here hx rfl (hb hby at_352) rfl rfl k) ?_
    show Go p e below _ (T147.setTop (mkF m 354 #[.val (.int ia), .val (.int ib), .val (.int ic), .val (.int id_), .val (.int iq), .val (.int j_s1), .val (.int j_s2), .val (.int j_s3), .val (.int j_t), .val (.ref b1), .val (.ref b18), .val (.ref b33), .val (.int (1 : Int32))] [(.ref b33), (.ref b1_38)]))
    obtain ⟨T151, X151, e151, st151⟩ := getF X147 hx hZ hown (host := "") (Or.inl (hw _ (List.mem_of_getElem? (i := 27) rfl))) Via.refl e147 F111 (g := (mkF m 354 #[.val (.int ia), .val (.int ib), .val (.int ic), .val (.int id_), .val (.int iq), .val (.int j_s1), .val (.int j_s2), .val (.int j_s3), .val (.int j_t), .val (.ref b1), .val (.ref b18), .val (.ref b33), .val (.int (1 : Int32))] [(.ref b33), (.ref b1_38)])) rfl rfl (hb hby at_354)
    refine Go.by st151 ?_
    show Go p e below _ (T151.setTop (mkF m 357 #[.val (.int ia), .val (.int ib), .val (.int ic), .val (.int id_), .val (.int iq), .val (.int j_s1), .val (.int j_s2), .val (.int j_s3), .val (.int j_t), .val (.ref b1), .val (.ref b18), .val (.ref b33), .val (.int (1 : Int32))] [(.ref gg_38), (.ref b1_38)]))
    refine Go.by (fun t k => XS.iconst X151.here hx rfl (hb hby at_357) k) ?_
    show Go p e below _ (T151.setTop (mkF m 358 #[.val (.int ia), .val (.int ib), .val (.int ic), .val (.int id_), .val (.int iq), .val (.int j_s1), .val (.int j_s2), .val (.int j_s3), .val (.int j_t), .val (.ref b1), .val (.ref b18), .val (.ref b33), .val (.int (1 : Int32))] [(.int (1 : Int32)), (.ref gg_38), (.ref b1_38)]))
    obtain ⟨cl152, Ar152, qk152, sz152, nn152, Ha152, Gf152⟩ := id F113
    have hin153 : ¬ ((1 : Int32) < 0 ∨ cl152.slots.size ≤ ((1 : Int32)).toNatClampNeg) := inb_of sz152 ⟨by decide, by decide⟩
    have hat154 : cl152.slots[((1 : Int32)).toNatClampNeg]? = some (.ref g1_38) := Has.at Ha152 hin153 rfl
    refine Go.by (fun t k => X151.aaload hx (j := (1 : Int32)) (v := (.ref g1_38)) (by rw [e151]; exact Ar152.1) (State.isArrayOf_alike hZ.alike Ar152.2.1) rfl Ar152.2.2 hin153 hat154 (g := (mkF m 358 #[.val (.int ia), .val (.int ib), .val (.int ic), .val (.int id_), .val (.int iq), .val (.int j_s1), .val (.int j_s2), .val (.int j_s3), .val (.int j_t), .val (.ref b1), .val (.ref b18), .val (.ref b33), .val (.int (1 : Int32))] [(.int (1 : Int32)), (.ref gg_38), (.ref b1_38)])) rfl rfl (hb hby at_358) t k) ?_
    show Go p e below _ (T151.setTop (mkF m 359 #[.val (.int ia), .val (.int ib), .val (.int ic), .val (.int id_), .val (.int iq), .val (.int j_s1), .val (.int j_s2), .val (.int j_s3), .val (.int j_t), .val (.ref b1), .val (.ref b18), .val (.ref b33), .val (.int (1 : Int32))] [(.ref g1_38), (.ref b1_38)]))
    refine Go.by (fun t k => XS.iconst X151.here hx rfl (hb hby at_359) k) ?_
    show Go p e below _ (T151.setTop (mkF m 360 #[.val (.int ia), .val (.int ib), .val (.int ic), .val (.int id_), .val (.int iq), .val (.int j_s1), .val (.int j_s2), .val (.int j_s3), .val (.int j_t), .val (.ref b1), .val (.ref b18), .val (.ref b33), .val (.int (1 : Int32))] [(.int (0 : Int32)), (.ref g1_38), (.ref b1_38)]))
    refine Go.by (fun t k => XS.iload X151.here hx rfl (hb hby at_360) rfl k) ?_
    show Go p e below _ (T151.setTop (mkF m 362 #[.val (.int ia), .val (.int ib), .val (.int ic), .val (.int id_), .val (.int iq), .val (.int j_s1), .val (.int j_s2), .val (.int j_s3), .val (.int j_t), .val (.ref b1), .val (.ref b18), .val (.ref b33), .val (.int (1 : Int32))] [(.int j_t), (.int (0 : Int32)), (.ref g1_38), (.ref b1_38)]))
    refine Go.by (fun t k => XS.iload X151.here hx rfl (hb hby at_362) rfl k) ?_
    show Go p e below _ (T151.setTop (mkF m 364 #[.val (.int ia), .val (.int ib), .val (.int ic), .val (.int id_), .val (.int iq), .val (.int j_s1), .val (.int j_s2), .val (.int j_s3), .val (.int j_t), .val (.ref b1), .val (.ref b18), .val (.ref b33), .val (.int (1 : Int32))] [(.int j_t), (.int j_t), (.int (0 : Int32)), (.ref g1_38), (.ref b1_38)]))
    refine Go.by (fun t k => XS.iload X151.here hx rfl (hb hby at_364) rfl k) ?_
    show Go p e below _ (T151.setTop (mkF m 366 #[.val (.int ia), .val (.int ib), .val (.int ic), .val (.int id_), .val (.int iq), .val (.int j_s1), .val (.int j_s2), .val (.int j_s3), .val (.int j_t), .val (.ref b1), .val (.ref b18), .val (.ref b33), .val (.int (1 : Int32))] [(.int j_t), (.int j_t), (.int j_t), (.int (0 : Int32)), (.ref g1_38), (.ref b1_38)]))
    refine Go.by (fun t k => XS.iload X151.here hx rfl (hb hby at_366) rfl k) ?_
    show Go p e below _ (T151.setTop (mkF m 368 #[.val (.int ia), .val (.int ib), .val (.int ic), .val (.int id_), .val (.int iq), .val (.int j_s1), .val (.int j_s2), .val (.int j_s3), .val (.int j_t), .val (.ref b1), .val (.ref b18), .val (.ref b33), .val (.int (1 : Int32))] [(.int iq), (.int j_t), (.int j_t), (.int j_t), (.int (0 : Int32)), (.ref g1_38), (.ref b1_38)]))
    refine Go.by (fun t k => XS.iconst X151.here hx rfl (hb hby at_368) k) ?_
    show Go p e below _ (T151.setTop (mkF m 369 #[.val (.int ia), .val (.int ib), .val (.int ic), .val (.int id_), .val (.int iq), .val (.int j_s1), .val (.int j_s2), .val (.int j_s3), .val (.int j_t), .val (.ref b1), .val (.ref b18), .val (.ref b33), .val (.int (1 : Int32))] [(.int (3 : Int32)), (.int iq), (.int j_t), (.int j_t), (.int j_t), (.int (0 : Int32)), (.ref g1_38), (.ref b1_38)]))
    refine Go.by (fun t k => XS.iadd X151.here hx rfl (hb hby at_369) rfl k) ?_
    show Go p e below _ (T151.setTop (mkF m 370 #[.val (.int ia), .val (.int ib), .val (.int ic), .val (.int id_), .val (.int iq), .val (.int j_s1), .val (.int j_s2), .val (.int j_s3), .val (.int j_t), .val (.ref b1), .val (.ref b18), .val (.ref b33), .val (.int (1 : Int32))] [(.int (iq + (3 : Int32))), (.int j_t), (.int j_t), (.int j_t), (.int (0 : Int32)), (.ref g1_38), (.ref b1_38)]))
    have F156 : own_Ia Z T84.heap g1_38 (((j_t.toUInt32 >>> ((6 : Int32) &&& 31).toUInt32).toInt32) + (1 : Int32)) (own_addI (fun _ => (0 : Int64)) (fun _ => (0 : Int32)) j_t (iq + (3 : Int32))) := (F74_1.keep K84 (ninS (Ne.symm n_b0_g1_38) (ninS (Ne.symm n_g0_g1_38) nin0)))
    obtain ⟨_, _, ⟨T155, L155, k155, n155⟩, -, X155, ⟨Lc155, hQ155, l155, y155, z155⟩, st155⟩ := Jvm.LawKit.callS X151 hx (y := (⟨"com/example/wakepath/wakepath/automaton/NumberedStatesAddPinLaw", "wordOk", "([J[IIIIII)Z"⟩ : MethodName)) hown (mvT hZ (hw _ (List.mem_of_getElem? (i := 28) rfl))) (mvT hZ (hw _ (List.mem_of_getElem? (i := 29) rfl))) (mvT hZ (hw _ (List.mem_of_getElem? (i := 30) rfl))) (mvT hZ (hw _ (List.mem_of_getElem? (i := 31) rfl))) (by decide) (backOf (W := 0) (wordOk l Z a0 hw [] b1_38 g1_38 (0 : Int32) j_t j_t j_t (iq + (3 : Int32)) (((j_t.toUInt32 >>> ((6 : Int32) &&& 31).toUInt32).toInt32) + (1 : Int32)) (own_addL (fun _ => (0 : Int64)) j_t) (own_addI (fun _ => (0 : Int64)) (fun _ => (0 : Int32)) j_t (iq + (3 : Int32))) T84.heap n0 F118 F105 F156 (by decide) (fun _ => own_mainBt hs _ (by decide)) (fun _ => own_mainFt hs _ _ (by decide))) hZ (hw _ (List.mem_of_getElem? (i := 31) rfl)) (hw _ (List.mem_of_getElem? (i := 30) rfl)) (by decide) (by decide)) (g := (mkF m 370 #[.val (.int ia), .val (.int ib), .val (.int ic), .val (.int id_), .val (.int iq), .val (.int j_s1), .val (.int j_s2), .val (.int j_s3), .val (.int j_t), .val (.ref b1), .val (.ref b18), .val (.ref b33), .val (.int (1 : Int32))] [(.int (iq + (3 : Int32))), (.int j_t), (.int j_t), (.int j_t), (.int (0 : Int32)), (.ref g1_38), (.ref b1_38)])) rfl (by rw [hml]; rfl) (argsL := [(.ref b1_38), (.ref g1_38), (.int (0 : Int32)), (.int j_t), (.int j_t), (.int j_t), (.int (iq + (3 : Int32)))]) (rest := []) (lenOf pd_3 rfl) rfl (by show 2 * 0 + _ ≤ _; exact Nat.le_of_eq rfl) (hb hby at_370) (fun _ _ => ⟨rfl, e151, (by decide : 9 + 0 ≤ _), (by decide : 27 + 0 ≤ _)⟩)
    dsimp only [Pt.U, Pt.locs, Pt.cells, Pt.slots] at X155 l155 y155 z155 st155 hQ155
    subst l155 y155 z155
    obtain ⟨rfl, N155q, e155⟩ := hQ155
    have N155 := Fr.app N146 N155q
    refine Go.by st155 ?_
    show Go p e below _ (T155.setTop (mkF m 373 #[.val (.int ia), .val (.int ib), .val (.int ic), .val (.int id_), .val (.int iq), .val (.int j_s1), .val (.int j_s2), .val (.int j_s3), .val (.int j_t), .val (.ref b1), .val (.ref b18), .val (.ref b33), .val (.int (1 : Int32))] [(.int (1 : Int32))]))
    refine Go.by (fun t k => XS.ifNo X155.here hx rfl (hb hby at_373) rfl ((if0 _ _).trans (feq (by decide : ¬ ((1 : Int32) = (0 : Int32)))).1) k) ?_
    show Go p e below _ (T155.setTop (mkF m 376 #[.val (.int ia), .val (.int ib), .val (.int ic), .val (.int id_), .val (.int iq), .val (.int j_s1), .val (.int j_s2), .val (.int j_s3), .val (.int j_t), .val (.ref b1), .val (.ref b18), .val (.ref b33), .val (.int (1 : Int32))] []))
    refine Go.by (fun t k => XS.iconst X155.here hx rfl (hb hby at_376) k) ?_
    show Go p e below _ (T155.setTop (mkF m 377 #[.val (.int ia), .val (.int ib), .val (.int ic), .val (.int id_), .val (.int iq), .val (.int j_s1), .val (.int j_s2), .val (.int j_s3), .val (.int j_t), .val (.ref b1), .val (.ref b18), .val (.ref b33), .val (.int (1 : Int32))] [(.int (1 : Int32))]))
    refine Go.by (fun t k => XS.goto X155.here hx rfl (pc0 := 377) (pc' := 381) rfl (hb hby at_377) (by decide) (by decide) k) ?_
    show Go p e below _ (T155.setTop (mkF m 381 #[.val (.int ia), .val (.int ib), .val (.int ic), .val (.int id_), .val (.int iq), .val (.int j_s1), .val (.int j_s2), .val (.int j_s3), .val (.int j_t), .val (.ref b1), .val (.ref b18), .val (.ref b33), .val (.int (1 : Int32))] [(.int (1 : Int32))]))
    refine Go.by (fun t k => XS.istore X155.here hx rfl (hb hby at_381) rfl (l' := #[.val (.int ia), .val (.int ib), .val (.int ic), .val (.int id_), .val (.int iq), .val (.int j_s1), .val (.int j_s2), .val (.int j_s3), .val (.int j_t), .val (.ref b1), .val (.ref b18), .val (.ref b33), .val (.int (1 : Int32))]) rfl k) ?_
    show Go p e below _ (T155.setTop (mkF m 383 #[.val (.int ia), .val (.int ib), .val (.int ic), .val (.int id_), .val (.int iq), .val (.int j_s1), .val (.int j_s2), .val (.int j_s3), .val (.int j_t), .val (.ref b1), .val (.ref b18), .val (.ref b33), .val (.int (1 : Int32))] []))
    refine Go.by (fun t k => XS.iload X155.here hx rfl (hb hby at_383) rfl k) ?_
    show Go p e below _ (T155.setTop (mkF m 385 #[.val (.int ia), .val (.int ib), .val (.int ic), .val (.int id_), .val (.int iq), .val (.int j_s1), .val (.int j_s2), .val (.int j_s3), .val (.int j_t), .val (.ref b1), .val (.ref b18), .val (.ref b33), .val (.int (1 : Int32))] [(.int (1 : Int32))]))
    refine Go.by (fun t k => XS.ifNo X155.here hx rfl (hb hby at_385) rfl ((if0 _ _).trans (feq (by decide : ¬ ((1 : Int32) = (0 : Int32)))).1) k) ?_
    show Go p e below _ (T155.setTop (mkF m 388 #[.val (.int ia), .val (.int ib), .val (.int ic), .val (.int id_), .val (.int iq), .val (.int j_s1), .val (.int j_s2), .val (.int j_s3), .val (.int j_t), .val (.ref b1), .val (.ref b18), .val (.ref b33), .val (.int (1 : Int32))] []))
    refine Go.by (fun t k => XS.aload X155.here hx rfl (hb hby at_388) rfl rfl k) ?_
    show Go p e below _ (T155.setTop (mkF m 390 #[.val (.int ia), .val (.int ib), .val (.int ic), .val (.int id_), .val (.int iq), .val (.int j_s1), .val (.int j_s2), .val (.int j_s3), .val (.int j_t), .val (.ref b1), .val (.ref b18), .val (.ref b33), .val (.int (1 : Int32))] [(.ref b33)]))
    obtain ⟨T157, X157, e157, st157⟩ := getF X155 hx hZ hown (host := "") (Or.inl (hw _ (List.mem_of_getElem? (i := 26) rfl))) Via.refl e155 F94 (g := (mkF m 390 #[.val (.int ia), .val (.int ib), .val (.int ic), .val (.int id_), .val (.int iq), .val (.int j_s1), .val (.int j_s2), .val (.int j_s3), .val (.int j_t), .val (.ref b1), .val (.ref b18), .val (.ref b33), .val (.int (1 : Int32))] [(.ref b33)])) rfl rfl (hb hby at_390)
    refine Go.by st157 ?_
    show Go p e below _ (T157.setTop (mkF m 393 #[.val (.int ia), .val (.int ib), .val (.int ic), .val (.int id_), .val (.int iq), .val (.int j_s1), .val (.int j_s2), .val (.int j_s3), .val (.int j_t), .val (.ref b1), .val (.ref b18), .val (.ref b33), .val (.int (1 : Int32))] [(.ref bb_38)]))
    refine Go.by (fun t k => XS.iconst X157.here hx rfl (hb hby at_393) k) ?_
    show Go p e below _ (T157.setTop (mkF m 394 #[.val (.int ia), .val (.int ib), .val (.int ic), .val (.int id_), .val (.int iq), .val (.int j_s1), .val (.int j_s2), .val (.int j_s3), .val (.int j_t), .val (.ref b1), .val (.ref b18), .val (.ref b33), .val (.int (1 : Int32))] [(.int (1 : Int32)), (.ref bb_38)]))
    obtain ⟨cl158, Ar158, qk158, sz158, nn158, Ha158, Gf158⟩ := id F96
    have hin159 : ¬ ((1 : Int32) < 0 ∨ cl158.slots.size ≤ ((1 : Int32)).toNatClampNeg) := inb_of sz158 ⟨by decide, by decide⟩
    have hat160 : cl158.slots[((1 : Int32)).toNatClampNeg]? = some (.ref b1_38) := Has.at Ha158 hin159 rfl
    refine Go.by (fun t k => X157.aaload hx (j := (1 : Int32)) (v := (.ref b1_38)) (by rw [e157]; exact Ar158.1) (State.isArrayOf_alike hZ.alike Ar158.2.1) rfl Ar158.2.2 hin159 hat160 (g := (mkF m 394 #[.val (.int ia), .val (.int ib), .val (.int ic), .val (.int id_), .val (.int iq), .val (.int j_s1), .val (.int j_s2), .val (.int j_s3), .val (.int j_t), .val (.ref b1), .val (.ref b18), .val (.ref b33), .val (.int (1 : Int32))] [(.int (1 : Int32)), (.ref bb_38)])) rfl rfl (hb hby at_394) t k) ?_
    show Go p e below _ (T157.setTop (mkF m 395 #[.val (.int ia), .val (.int ib), .val (.int ic), .val (.int id_), .val (.int iq), .val (.int j_s1), .val (.int j_s2), .val (.int j_s3), .val (.int j_t), .val (.ref b1), .val (.ref b18), .val (.ref b33), .val (.int (1 : Int32))] [(.ref b1_38)]))
    refine Go.by (fun t k => XS.aload X157.here hx rfl (hb hby at_395) rfl rfl k) ?_
    show Go p e below _ (T157.setTop (mkF m 397 #[.val (.int ia), .val (.int ib), .val (.int ic), .val (.int id_), .val (.int iq), .val (.int j_s1), .val (.int j_s2), .val (.int j_s3), .val (.int j_t), .val (.ref b1), .val (.ref b18), .val (.ref b33), .val (.int (1 : Int32))] [(.ref b33), (.ref b1_38)]))
    obtain ⟨T161, X161, e161, st161⟩ := getF X157 hx hZ hown (host := "") (Or.inl (hw _ (List.mem_of_getElem? (i := 27) rfl))) Via.refl e157 F111 (g := (mkF m 397 #[.val (.int ia), .val (.int ib), .val (.int ic), .val (.int id_), .val (.int iq), .val (.int j_s1), .val (.int j_s2), .val (.int j_s3), .val (.int j_t), .val (.ref b1), .val (.ref b18), .val (.ref b33), .val (.int (1 : Int32))] [(.ref b33), (.ref b1_38)])) rfl rfl (hb hby at_397)
    refine Go.by st161 ?_
    show Go p e below _ (T161.setTop (mkF m 400 #[.val (.int ia), .val (.int ib), .val (.int ic), .val (.int id_), .val (.int iq), .val (.int j_s1), .val (.int j_s2), .val (.int j_s3), .val (.int j_t), .val (.ref b1), .val (.ref b18), .val (.ref b33), .val (.int (1 : Int32))] [(.ref gg_38), (.ref b1_38)]))
    refine Go.by (fun t k => XS.iconst X161.here hx rfl (hb hby at_400) k) ?_
    show Go p e below _ (T161.setTop (mkF m 401 #[.val (.int ia), .val (.int ib), .val (.int ic), .val (.int id_), .val (.int iq), .val (.int j_s1), .val (.int j_s2), .val (.int j_s3), .val (.int j_t), .val (.ref b1), .val (.ref b18), .val (.ref b33), .val (.int (1 : Int32))] [(.int (1 : Int32)), (.ref gg_38), (.ref b1_38)]))
    obtain ⟨cl162, Ar162, qk162, sz162, nn162, Ha162, Gf162⟩ := id F113
    have hin163 : ¬ ((1 : Int32) < 0 ∨ cl162.slots.size ≤ ((1 : Int32)).toNatClampNeg) := inb_of sz162 ⟨by decide, by decide⟩
    have hat164 : cl162.slots[((1 : Int32)).toNatClampNeg]? = some (.ref g1_38) := Has.at Ha162 hin163 rfl
    refine Go.by (fun t k => X161.aaload hx (j := (1 : Int32)) (v := (.ref g1_38)) (by rw [e161]; exact Ar162.1) (State.isArrayOf_alike hZ.alike Ar162.2.1) rfl Ar162.2.2 hin163 hat164 (g := (mkF m 401 #[.val (.int ia), .val (.int ib), .val (.int ic), .val (.int id_), .val (.int iq), .val (.int j_s1), .val (.int j_s2), .val (.int j_s3), .val (.int j_t), .val (.ref b1), .val (.ref b18), .val (.ref b33), .val (.int (1 : Int32))] [(.int (1 : Int32)), (.ref gg_38), (.ref b1_38)])) rfl rfl (hb hby at_401) t k) ?_
    show Go p e below _ (T161.setTop (mkF m 402 #[.val (.int ia), .val (.int ib), .val (.int ic), .val (.int id_), .val (.int iq), .val (.int j_s1), .val (.int j_s2), .val (.int j_s3), .val (.int j_t), .val (.ref b1), .val (.ref b18), .val (.ref b33), .val (.int (1 : Int32))] [(.ref g1_38), (.ref b1_38)]))
    refine Go.by (fun t k => XS.iconst X161.here hx rfl (hb hby at_402) k) ?_
    show Go p e below _ (T161.setTop (mkF m 403 #[.val (.int ia), .val (.int ib), .val (.int ic), .val (.int id_), .val (.int iq), .val (.int j_s1), .val (.int j_s2), .val (.int j_s3), .val (.int j_t), .val (.ref b1), .val (.ref b18), .val (.ref b33), .val (.int (1 : Int32))] [(.int (1 : Int32)), (.ref g1_38), (.ref b1_38)]))
    refine Go.by (fun t k => XS.iload X161.here hx rfl (hb hby at_403) rfl k) ?_
    show Go p e below _ (T161.setTop (mkF m 405 #[.val (.int ia), .val (.int ib), .val (.int ic), .val (.int id_), .val (.int iq), .val (.int j_s1), .val (.int j_s2), .val (.int j_s3), .val (.int j_t), .val (.ref b1), .val (.ref b18), .val (.ref b33), .val (.int (1 : Int32))] [(.int j_t), (.int (1 : Int32)), (.ref g1_38), (.ref b1_38)]))
    refine Go.by (fun t k => XS.iload X161.here hx rfl (hb hby at_405) rfl k) ?_
    show Go p e below _ (T161.setTop (mkF m 407 #[.val (.int ia), .val (.int ib), .val (.int ic), .val (.int id_), .val (.int iq), .val (.int j_s1), .val (.int j_s2), .val (.int j_s3), .val (.int j_t), .val (.ref b1), .val (.ref b18), .val (.ref b33), .val (.int (1 : Int32))] [(.int j_t), (.int j_t), (.int (1 : Int32)), (.ref g1_38), (.ref b1_38)]))
    refine Go.by (fun t k => XS.iload X161.here hx rfl (hb hby at_407) rfl k) ?_
    show Go p e below _ (T161.setTop (mkF m 409 #[.val (.int ia), .val (.int ib), .val (.int ic), .val (.int id_), .val (.int iq), .val (.int j_s1), .val (.int j_s2), .val (.int j_s3), .val (.int j_t), .val (.ref b1), .val (.ref b18), .val (.ref b33), .val (.int (1 : Int32))] [(.int j_t), (.int j_t), (.int j_t), (.int (1 : Int32)), (.ref g1_38), (.ref b1_38)]))
    refine Go.by (fun t k => XS.iload X161.here hx rfl (hb hby at_409) rfl k) ?_
    show Go p e below _ (T161.setTop (mkF m 411 #[.val (.int ia), .val (.int ib), .val (.int ic), .val (.int id_), .val (.int iq), .val (.int j_s1), .val (.int j_s2), .val (.int j_s3), .val (.int j_t), .val (.ref b1), .val (.ref b18), .val (.ref b33), .val (.int (1 : Int32))] [(.int iq), (.int j_t), (.int j_t), (.int j_t), (.int (1 : Int32)), (.ref g1_38), (.ref b1_38)]))
    refine Go.by (fun t k => XS.iconst X161.here hx rfl (hb hby at_411) k) ?_
    show Go p e below _ (T161.setTop (mkF m 412 #[.val (.int ia), .val (.int ib), .val (.int ic), .val (.int id_), .val (.int iq), .val (.int j_s1), .val (.int j_s2), .val (.int j_s3), .val (.int j_t), .val (.ref b1), .val (.ref b18), .val (.ref b33), .val (.int (1 : Int32))] [(.int (3 : Int32)), (.int iq), (.int j_t), (.int j_t), (.int j_t), (.int (1 : Int32)), (.ref g1_38), (.ref b1_38)]))
    refine Go.by (fun t k => XS.iadd X161.here hx rfl (hb hby at_412) rfl k) ?_
    show Go p e below _ (T161.setTop (mkF m 413 #[.val (.int ia), .val (.int ib), .val (.int ic), .val (.int id_), .val (.int iq), .val (.int j_s1), .val (.int j_s2), .val (.int j_s3), .val (.int j_t), .val (.ref b1), .val (.ref b18), .val (.ref b33), .val (.int (1 : Int32))] [(.int (iq + (3 : Int32))), (.int j_t), (.int j_t), (.int j_t), (.int (1 : Int32)), (.ref g1_38), (.ref b1_38)]))
    obtain ⟨_, _, ⟨T165, L165, k165, n165⟩, -, X165, ⟨Lc165, hQ165, l165, y165, z165⟩, st165⟩ := Jvm.LawKit.callS X161 hx (y := (⟨"com/example/wakepath/wakepath/automaton/NumberedStatesAddPinLaw", "wordOk", "([J[IIIIII)Z"⟩ : MethodName)) hown (mvT hZ (hw _ (List.mem_of_getElem? (i := 28) rfl))) (mvT hZ (hw _ (List.mem_of_getElem? (i := 29) rfl))) (mvT hZ (hw _ (List.mem_of_getElem? (i := 30) rfl))) (mvT hZ (hw _ (List.mem_of_getElem? (i := 31) rfl))) (by decide) (backOf (W := 0) (wordOk l Z a0 hw [] b1_38 g1_38 (1 : Int32) j_t j_t j_t (iq + (3 : Int32)) (((j_t.toUInt32 >>> ((6 : Int32) &&& 31).toUInt32).toInt32) + (1 : Int32)) (own_addL (fun _ => (0 : Int64)) j_t) (own_addI (fun _ => (0 : Int64)) (fun _ => (0 : Int32)) j_t (iq + (3 : Int32))) T84.heap n0 F118 F105 F156 (by decide) (fun _ => own_mainBt hs _ (by decide)) (fun _ => own_mainFt hs _ _ (by decide))) hZ (hw _ (List.mem_of_getElem? (i := 31) rfl)) (hw _ (List.mem_of_getElem? (i := 30) rfl)) (by decide) (by decide)) (g := (mkF m 413 #[.val (.int ia), .val (.int ib), .val (.int ic), .val (.int id_), .val (.int iq), .val (.int j_s1), .val (.int j_s2), .val (.int j_s3), .val (.int j_t), .val (.ref b1), .val (.ref b18), .val (.ref b33), .val (.int (1 : Int32))] [(.int (iq + (3 : Int32))), (.int j_t), (.int j_t), (.int j_t), (.int (1 : Int32)), (.ref g1_38), (.ref b1_38)])) rfl (by rw [hml]; rfl) (argsL := [(.ref b1_38), (.ref g1_38), (.int (1 : Int32)), (.int j_t), (.int j_t), (.int j_t), (.int (iq + (3 : Int32)))]) (rest := []) (lenOf pd_3 rfl) rfl (by show 2 * 0 + _ ≤ _; exact Nat.le_of_eq rfl) (hb hby at_413) (fun _ _ => ⟨rfl, e161, (by decide : 9 + 0 ≤ _), (by decide : 27 + 0 ≤ _)⟩)
    dsimp only [Pt.U, Pt.locs, Pt.cells, Pt.slots] at X165 l165 y165 z165 st165 hQ165
    subst l165 y165 z165
    obtain ⟨rfl, N165q, e165⟩ := hQ165
    have N165 := Fr.app N155 N165q
    refine Go.by st165 ?_
    show Go p e below _ (T165.setTop (mkF m 416 #[.val (.int ia), .val (.int ib), .val (.int ic), .val (.int id_), .val (.int iq), .val (.int j_s1), .val (.int j_s2), .val (.int j_s3), .val (.int j_t), .val (.ref b1), .val (.ref b18), .val (.ref b33), .val (.int (1 : Int32))] [(.int (1 : Int32))]))
    refine Go.by (fun t k => XS.ifNo X165.here hx rfl (hb hby at_416) rfl ((if0 _ _).trans (feq (by decide : ¬ ((1 : Int32) = (0 : Int32)))).1) k) ?_
    show Go p e below _ (T165.setTop (mkF m 419 #[.val (.int ia), .val (.int ib), .val (.int ic), .val (.int id_), .val (.int iq), .val (.int j_s1), .val (.int j_s2), .val (.int j_s3), .val (.int j_t), .val (.ref b1), .val (.ref b18), .val (.ref b33), .val (.int (1 : Int32))] []))
    refine Go.by (fun t k => XS.iconst X165.here hx rfl (hb hby at_419) k) ?_
    show Go p e below _ (T165.setTop (mkF m 420 #[.val (.int ia), .val (.int ib), .val (.int ic), .val (.int id_), .val (.int iq), .val (.int j_s1), .val (.int j_s2), .val (.int j_s3), .val (.int j_t), .val (.ref b1), .val (.ref b18), .val (.ref b33), .val (.int (1 : Int32))] [(.int (1 : Int32))]))
    refine Go.by (fun t k => XS.goto X165.here hx rfl (pc0 := 420) (pc' := 424) rfl (hb hby at_420) (by decide) (by decide) k) ?_
    show Go p e below _ (T165.setTop (mkF m 424 #[.val (.int ia), .val (.int ib), .val (.int ic), .val (.int id_), .val (.int iq), .val (.int j_s1), .val (.int j_s2), .val (.int j_s3), .val (.int j_t), .val (.ref b1), .val (.ref b18), .val (.ref b33), .val (.int (1 : Int32))] [(.int (1 : Int32))]))
    refine Go.by (fun t k => XS.istore X165.here hx rfl (hb hby at_424) rfl (l' := #[.val (.int ia), .val (.int ib), .val (.int ic), .val (.int id_), .val (.int iq), .val (.int j_s1), .val (.int j_s2), .val (.int j_s3), .val (.int j_t), .val (.ref b1), .val (.ref b18), .val (.ref b33), .val (.int (1 : Int32))]) rfl k) ?_
    show Go p e below _ (T165.setTop (mkF m 426 #[.val (.int ia), .val (.int ib), .val (.int ic), .val (.int id_), .val (.int iq), .val (.int j_s1), .val (.int j_s2), .val (.int j_s3), .val (.int j_t), .val (.ref b1), .val (.ref b18), .val (.ref b33), .val (.int (1 : Int32))] []))
    refine Go.by (fun t k => XS.iload X165.here hx rfl (hb hby at_426) rfl k) ?_
    show Go p e below _ (T165.setTop (mkF m 428 #[.val (.int ia), .val (.int ib), .val (.int ic), .val (.int id_), .val (.int iq), .val (.int j_s1), .val (.int j_s2), .val (.int j_s3), .val (.int j_t), .val (.ref b1), .val (.ref b18), .val (.ref b33), .val (.int (1 : Int32))] [(.int (1 : Int32))]))
    refine Go.by (fun t k => XS.ifNo X165.here hx rfl (hb hby at_428) rfl ((if0 _ _).trans (feq (by decide : ¬ ((1 : Int32) = (0 : Int32)))).1) k) ?_
    show Go p e below _ (T165.setTop (mkF m 431 #[.val (.int ia), .val (.int ib), .val (.int ic), .val (.int id_), .val (.int iq), .val (.int j_s1), .val (.int j_s2), .val (.int j_s3), .val (.int j_t), .val (.ref b1), .val (.ref b18), .val (.ref b33), .val (.int (1 : Int32))] []))
    refine Go.by (fun t k => XS.aload X165.here hx rfl (hb hby at_431) rfl rfl k) ?_
    show Go p e below _ (T165.setTop (mkF m 433 #[.val (.int ia), .val (.int ib), .val (.int ic), .val (.int id_), .val (.int iq), .val (.int j_s1), .val (.int j_s2), .val (.int j_s3), .val (.int j_t), .val (.ref b1), .val (.ref b18), .val (.ref b33), .val (.int (1 : Int32))] [(.ref b33)]))
    obtain ⟨T166, X166, e166, st166⟩ := getF X165 hx hZ hown (host := "") (Or.inl (hw _ (List.mem_of_getElem? (i := 26) rfl))) Via.refl e165 F94 (g := (mkF m 433 #[.val (.int ia), .val (.int ib), .val (.int ic), .val (.int id_), .val (.int iq), .val (.int j_s1), .val (.int j_s2), .val (.int j_s3), .val (.int j_t), .val (.ref b1), .val (.ref b18), .val (.ref b33), .val (.int (1 : Int32))] [(.ref b33)])) rfl rfl (hb hby at_433)
    refine Go.by st166 ?_
    show Go p e below _ (T166.setTop (mkF m 436 #[.val (.int ia), .val (.int ib), .val (.int ic), .val (.int id_), .val (.int iq), .val (.int j_s1), .val (.int j_s2), .val (.int j_s3), .val (.int j_t), .val (.ref b1), .val (.ref b18), .val (.ref b33), .val (.int (1 : Int32))] [(.ref bb_38)]))
    refine Go.by (fun t k => XS.iconst X166.here hx rfl (hb hby at_436) k) ?_
    show Go p e below _ (T166.setTop (mkF m 437 #[.val (.int ia), .val (.int ib), .val (.int ic), .val (.int id_), .val (.int iq), .val (.int j_s1), .val (.int j_s2), .val (.int j_s3), .val (.int j_t), .val (.ref b1), .val (.ref b18), .val (.ref b33), .val (.int (1 : Int32))] [(.int (1 : Int32)), (.ref bb_38)]))
    obtain ⟨cl167, Ar167, qk167, sz167, nn167, Ha167, Gf167⟩ := id F96
    have hin168 : ¬ ((1 : Int32) < 0 ∨ cl167.slots.size ≤ ((1 : Int32)).toNatClampNeg) := inb_of sz167 ⟨by decide, by decide⟩
    have hat169 : cl167.slots[((1 : Int32)).toNatClampNeg]? = some (.ref b1_38) := Has.at Ha167 hin168 rfl
    refine Go.by (fun t k => X166.aaload hx (j := (1 : Int32)) (v := (.ref b1_38)) (by rw [e166]; exact Ar167.1) (State.isArrayOf_alike hZ.alike Ar167.2.1) rfl Ar167.2.2 hin168 hat169 (g := (mkF m 437 #[.val (.int ia), .val (.int ib), .val (.int ic), .val (.int id_), .val (.int iq), .val (.int j_s1), .val (.int j_s2), .val (.int j_s3), .val (.int j_t), .val (.ref b1), .val (.ref b18), .val (.ref b33), .val (.int (1 : Int32))] [(.int (1 : Int32)), (.ref bb_38)])) rfl rfl (hb hby at_437) t k) ?_
    show Go p e below _ (T166.setTop (mkF m 438 #[.val (.int ia), .val (.int ib), .val (.int ic), .val (.int id_), .val (.int iq), .val (.int j_s1), .val (.int j_s2), .val (.int j_s3), .val (.int j_t), .val (.ref b1), .val (.ref b18), .val (.ref b33), .val (.int (1 : Int32))] [(.ref b1_38)]))
    refine Go.by (fun t k => XS.aload X166.here hx rfl (hb hby at_438) rfl rfl k) ?_
    show Go p e below _ (T166.setTop (mkF m 440 #[.val (.int ia), .val (.int ib), .val (.int ic), .val (.int id_), .val (.int iq), .val (.int j_s1), .val (.int j_s2), .val (.int j_s3), .val (.int j_t), .val (.ref b1), .val (.ref b18), .val (.ref b33), .val (.int (1 : Int32))] [(.ref b33), (.ref b1_38)]))
    obtain ⟨T170, X170, e170, st170⟩ := getF X166 hx hZ hown (host := "") (Or.inl (hw _ (List.mem_of_getElem? (i := 27) rfl))) Via.refl e166 F111 (g := (mkF m 440 #[.val (.int ia), .val (.int ib), .val (.int ic), .val (.int id_), .val (.int iq), .val (.int j_s1), .val (.int j_s2), .val (.int j_s3), .val (.int j_t), .val (.ref b1), .val (.ref b18), .val (.ref b33), .val (.int (1 : Int32))] [(.ref b33), (.ref b1_38)])) rfl rfl (hb hby at_440)
    refine Go.by st170 ?_
    show Go p e below _ (T170.setTop (mkF m 443 #[.val (.int ia), .val (.int ib), .val (.int ic), .val (.int id_), .val (.int iq), .val (.int j_s1), .val (.int j_s2), .val (.int j_s3), .val (.int j_t), .val (.ref b1), .val (.ref b18), .val (.ref b33), .val (.int (1 : Int32))] [(.ref gg_38), (.ref b1_38)]))
    refine Go.by (fun t k => XS.iconst X170.here hx rfl (hb hby at_443) k) ?_
    show Go p e below _ (T170.setTop (mkF m 444 #[.val (.int ia), .val (.int ib), .val (.int ic), .val (.int id_), .val (.int iq), .val (.int j_s1), .val (.int j_s2), .val (.int j_s3), .val (.int j_t), .val (.ref b1), .val (.ref b18), .val (.ref b33), .val (.int (1 : Int32))] [(.int (1 : Int32)), (.ref gg_38), (.ref b1_38)]))
    obtain ⟨cl171, Ar171, qk171, sz171, nn171, Ha171, Gf171⟩ := id F113
    have hin172 : ¬ ((1 : Int32) < 0 ∨ cl171.slots.size ≤ ((1 : Int32)).toNatClampNeg) := inb_of sz171 ⟨by decide, by decide⟩
    have hat173 : cl171.slots[((1 : Int32)).toNatClampNeg]? = some (.ref g1_38) := Has.at Ha171 hin172 rfl
    refine Go.by (fun t k => X170.aaload hx (j := (1 : Int32)) (v := (.ref g1_38)) (by rw [e170]; exact Ar171.1) (State.isArrayOf_alike hZ.alike Ar171.2.1) rfl Ar171.2.2 hin172 hat173 (g := (mkF m 444 #[.val (.int ia), .val (.int ib), .val (.int ic), .val (.int id_), .val (.int iq), .val (.int j_s1), .val (.int j_s2), .val (.int j_s3), .val (.int j_t), .val (.ref b1), .val (.ref b18), .val (.ref b33), .val (.int (1 : Int32))] [(.int (1 : Int32)), (.ref gg_38), (.ref b1_38)])) rfl rfl (hb hby at_444) t k) ?_
    show Go p e below _ (T170.setTop (mkF m 445 #[.val (.int ia), .val (.int ib), .val (.int ic), .val (.int id_), .val (.int iq), .val (.int j_s1), .val (.int j_s2), .val (.int j_s3), .val (.int j_t), .val (.ref b1), .val (.ref b18), .val (.ref b33), .val (.int (1 : Int32))] [(.ref g1_38), (.ref b1_38)]))
    refine Go.by (fun t k => XS.iconst X170.here hx rfl (hb hby at_445) k) ?_
    show Go p e below _ (T170.setTop (mkF m 446 #[.val (.int ia), .val (.int ib), .val (.int ic), .val (.int id_), .val (.int iq), .val (.int j_s1), .val (.int j_s2), .val (.int j_s3), .val (.int j_t), .val (.ref b1), .val (.ref b18), .val (.ref b33), .val (.int (1 : Int32))] [(.int (2 : Int32)), (.ref g1_38), (.ref b1_38)]))
    refine Go.by (fun t k => XS.iload X170.here hx rfl (hb hby at_446) rfl k) ?_
    show Go p e below _ (T170.setTop (mkF m 448 #[.val (.int ia), .val (.int ib), .val (.int ic), .val (.int id_), .val (.int iq), .val (.int j_s1), .val (.int j_s2), .val (.int j_s3), .val (.int j_t), .val (.ref b1), .val (.ref b18), .val (.ref b33), .val (.int (1 : Int32))] [(.int j_t), (.int (2 : Int32)), (.ref g1_38), (.ref b1_38)]))
    refine Go.by (fun t k => XS.iload X170.here hx rfl (hb hby at_448) rfl k) ?_
    show Go p e below _ (T170.setTop (mkF m 450 #[.val (.int ia), .val (.int ib), .val (.int ic), .val (.int id_), .val (.int iq), .val (.int j_s1), .val (.int j_s2), .val (.int j_s3), .val (.int j_t), .val (.ref b1), .val (.ref b18), .val (.ref b33), .val (.int (1 : Int32))] [(.int j_t), (.int j_t), (.int (2 : Int32)), (.ref g1_38), (.ref b1_38)]))
    refine Go.by (fun t k => XS.iload X170.here hx rfl (hb hby at_450) rfl k) ?_
    show Go p e below _ (T170.setTop (mkF m 452 #[.val (.int ia), .val (.int ib), .val (.int ic), .val (.int id_), .val (.int iq), .val (.int j_s1), .val (.int j_s2), .val (.int j_s3), .val (.int j_t), .val (.ref b1), .val (.ref b18), .val (.ref b33), .val (.int (1 : Int32))] [(.int j_t), (.int j_t), (.int j_t), (.int (2 : Int32)), (.ref g1_38), (.ref b1_38)]))
    refine Go.by (fun t k => XS.iload X170.here hx rfl (hb hby at_452) rfl k) ?_
    show Go p e below _ (T170.setTop (mkF m 454 #[.val (.int ia), .val (.int ib), .val (.int ic), .val (.int id_), .val (.int iq), .val (.int j_s1), .val (.int j_s2), .val (.int j_s3), .val (.int j_t), .val (.ref b1), .val (.ref b18), .val (.ref b33), .val (.int (1 : Int32))] [(.int iq), (.int j_t), (.int j_t), (.int j_t), (.int (2 : Int32)), (.ref g1_38), (.ref b1_38)]))
    refine Go.by (fun t k => XS.iconst X170.here hx rfl (hb hby at_454) k) ?_
    show Go p e below _ (T170.setTop (mkF m 455 #[.val (.int ia), .val (.int ib), .val (.int ic), .val (.int id_), .val (.int iq), .val (.int j_s1), .val (.int j_s2), .val (.int j_s3), .val (.int j_t), .val (.ref b1), .val (.ref b18), .val (.ref b33), .val (.int (1 : Int32))] [(.int (3 : Int32)), (.int iq), (.int j_t), (.int j_t), (.int j_t), (.int (2 : Int32)), (.ref g1_38), (.ref b1_38)]))
    refine Go.by (fun t k => XS.iadd X170.here hx rfl (hb hby at_455) rfl k) ?_
    show Go p e below _ (T170.setTop (mkF m 456 #[.val (.int ia), .val (.int ib), .val (.int ic), .val (.int id_), .val (.int iq), .val (.int j_s1), .val (.int j_s2), .val (.int j_s3), .val (.int j_t), .val (.ref b1), .val (.ref b18), .val (.ref b33), .val (.int (1 : Int32))] [(.int (iq + (3 : Int32))), (.int j_t), (.int j_t), (.int j_t), (.int (2 : Int32)), (.ref g1_38), (.ref b1_38)]))
    obtain ⟨_, _, ⟨T174, L174, k174, n174⟩, -, X174, ⟨Lc174, hQ174, l174, y174, z174⟩, st174⟩ := Jvm.LawKit.callS X170 hx (y := (⟨"com/example/wakepath/wakepath/automaton/NumberedStatesAddPinLaw", "wordOk", "([J[IIIIII)Z"⟩ : MethodName)) hown (mvT hZ (hw _ (List.mem_of_getElem? (i := 28) rfl))) (mvT hZ (hw _ (List.mem_of_getElem? (i := 29) rfl))) (mvT hZ (hw _ (List.mem_of_getElem? (i := 30) rfl))) (mvT hZ (hw _ (List.mem_of_getElem? (i := 31) rfl))) (by decide) (backOf (W := 0) (wordOk l Z a0 hw [] b1_38 g1_38 (2 : Int32) j_t j_t j_t (iq + (3 : Int32)) (((j_t.toUInt32 >>> ((6 : Int32) &&& 31).toUInt32).toInt32) + (1 : Int32)) (own_addL (fun _ => (0 : Int64)) j_t) (own_addI (fun _ => (0 : Int64)) (fun _ => (0 : Int32)) j_t (iq + (3 : Int32))) T84.heap n0 F118 F105 F156 (by decide) (fun _ => own_mainBt hs _ (by decide)) (fun _ => own_mainFt hs _ _ (by decide))) hZ (hw _ (List.mem_of_getElem? (i := 31) rfl)) (hw _ (List.mem_of_getElem? (i := 30) rfl)) (by decide) (by decide)) (g := (mkF m 456 #[.val (.int ia), .val (.int ib), .val (.int ic), .val (.int id_), .val (.int iq), .val (.int j_s1), .val (.int j_s2), .val (.int j_s3), .val (.int j_t), .val (.ref b1), .val (.ref b18), .val (.ref b33), .val (.int (1 : Int32))] [(.int (iq + (3 : Int32))), (.int j_t), (.int j_t), (.int j_t), (.int (2 : Int32)), (.ref g1_38), (.ref b1_38)])) rfl (by rw [hml]; rfl) (argsL := [(.ref b1_38), (.ref g1_38), (.int (2 : Int32)), (.int j_t), (.int j_t), (.int j_t), (.int (iq + (3 : Int32)))]) (rest := []) (lenOf pd_3 rfl) rfl (by show 2 * 0 + _ ≤ _; exact Nat.le_of_eq rfl) (hb hby at_456) (fun _ _ => ⟨rfl, e170, (by decide : 9 + 0 ≤ _), (by decide : 27 + 0 ≤ _)⟩)
    dsimp only [Pt.U, Pt.locs, Pt.cells, Pt.slots] at X174 l174 y174 z174 st174 hQ174
    subst l174 y174 z174
    obtain ⟨rfl, N174q, e174⟩ := hQ174
    have N174 := Fr.app N165 N174q
    refine Go.by st174 ?_
    show Go p e below _ (T174.setTop (mkF m 459 #[.val (.int ia), .val (.int ib), .val (.int ic), .val (.int id_), .val (.int iq), .val (.int j_s1), .val (.int j_s2), .val (.int j_s3), .val (.int j_t), .val (.ref b1), .val (.ref b18), .val (.ref b33), .val (.int (1 : Int32))] [(.int (1 : Int32))]))
    refine Go.by (fun t k => XS.ifNo X174.here hx rfl (hb hby at_459) rfl ((if0 _ _).trans (feq (by decide : ¬ ((1 : Int32) = (0 : Int32)))).1) k) ?_
    show Go p e below _ (T174.setTop (mkF m 462 #[.val (.int ia), .val (.int ib), .val (.int ic), .val (.int id_), .val (.int iq), .val (.int j_s1), .val (.int j_s2), .val (.int j_s3), .val (.int j_t), .val (.ref b1), .val (.ref b18), .val (.ref b33), .val (.int (1 : Int32))] []))
    refine Go.by (fun t k => XS.iconst X174.here hx rfl (hb hby at_462) k) ?_
    show Go p e below _ (T174.setTop (mkF m 463 #[.val (.int ia), .val (.int ib), .val (.int ic), .val (.int id_), .val (.int iq), .val (.int j_s1), .val (.int j_s2), .val (.int j_s3), .val (.int j_t), .val (.ref b1), .val (.ref b18), .val (.ref b33), .val (.int (1 : Int32))] [(.int (1 : Int32))]))
    refine Go.by (fun t k => XS.goto X174.here hx rfl (pc0 := 463) (pc' := 467) rfl (hb hby at_463) (by decide) (by decide) k) ?_
    show Go p e below _ (T174.setTop (mkF m 467 #[.val (.int ia), .val (.int ib), .val (.int ic), .val (.int id_), .val (.int iq), .val (.int j_s1), .val (.int j_s2), .val (.int j_s3), .val (.int j_t), .val (.ref b1), .val (.ref b18), .val (.ref b33), .val (.int (1 : Int32))] [(.int (1 : Int32))]))
    refine Go.by (fun t k => XS.istore X174.here hx rfl (hb hby at_467) rfl (l' := #[.val (.int ia), .val (.int ib), .val (.int ic), .val (.int id_), .val (.int iq), .val (.int j_s1), .val (.int j_s2), .val (.int j_s3), .val (.int j_t), .val (.ref b1), .val (.ref b18), .val (.ref b33), .val (.int (1 : Int32))]) rfl k) ?_
    show Go p e below _ (T174.setTop (mkF m 469 #[.val (.int ia), .val (.int ib), .val (.int ic), .val (.int id_), .val (.int iq), .val (.int j_s1), .val (.int j_s2), .val (.int j_s3), .val (.int j_t), .val (.ref b1), .val (.ref b18), .val (.ref b33), .val (.int (1 : Int32))] []))
    refine Go.by (fun t k => XS.iload X174.here hx rfl (hb hby at_469) rfl k) ?_
    show Go p e below _ (T174.setTop (mkF m 471 #[.val (.int ia), .val (.int ib), .val (.int ic), .val (.int id_), .val (.int iq), .val (.int j_s1), .val (.int j_s2), .val (.int j_s3), .val (.int j_t), .val (.ref b1), .val (.ref b18), .val (.ref b33), .val (.int (1 : Int32))] [(.int (1 : Int32))]))
    refine Go.by (fun t k => XS.ifNo X174.here hx rfl (hb hby at_471) rfl ((if0 _ _).trans (feq (by decide : ¬ ((1 : Int32) = (0 : Int32)))).1) k) ?_
    show Go p e below _ (T174.setTop (mkF m 474 #[.val (.int ia), .val (.int ib), .val (.int ic), .val (.int id_), .val (.int iq), .val (.int j_s1), .val (.int j_s2), .val (.int j_s3), .val (.int j_t), .val (.ref b1), .val (.ref b18), .val (.ref b33), .val (.int (1 : Int32))] []))
    refine Go.by (fun t k => XS.aload X174.here hx rfl (hb hby at_474) rfl rfl k) ?_
    show Go p e below _ (T174.setTop (mkF m 476 #[.val (.int ia), .val (.int ib), .val (.int ic), .val (.int id_), .val (.int iq), .val (.int j_s1), .val (.int j_s2), .val (.int j_s3), .val (.int j_t), .val (.ref b1), .val (.ref b18), .val (.ref b33), .val (.int (1 : Int32))] [(.ref b33)]))
    obtain ⟨T175, X175, e175, st175⟩ := getF X174 hx hZ hown (host := "") (Or.inl (hw _ (List.mem_of_getElem? (i := 26) rfl))) Via.refl e174 F94 (g := (mkF m 476 #[.val (.int ia), .val (.int ib), .val (.int ic), .val (.int id_), .val (.int iq), .val (.int j_s1), .val (.int j_s2), .val (.int j_s3), .val (.int j_t), .val (.ref b1), .val (.ref b18), .val (.ref b33), .val (.int (1 : Int32))] [(.ref b33)])) rfl rfl (hb hby at_476)
    refine Go.by st175 ?_
    show Go p e below _ (T175.setTop (mkF m 479 #[.val (.int ia), .val (.int ib), .val (.int ic), .val (.int id_), .val (.int iq), .val (.int j_s1), .val (.int j_s2), .val (.int j_s3), .val (.int j_t), .val (.ref b1), .val (.ref b18), .val (.ref b33), .val (.int (1 : Int32))] [(.ref bb_38)]))
    refine Go.by (fun t k => XS.iconst X175.here hx rfl (hb hby at_479) k) ?_
    show Go p e below _ (T175.setTop (mkF m 480 #[.val (.int ia), .val (.int ib), .val (.int ic), .val (.int id_), .val (.int iq), .val (.int j_s1), .val (.int j_s2), .val (.int j_s3), .val (.int j_t), .val (.ref b1), .val (.ref b18), .val (.ref b33), .val (.int (1 : Int32))] [(.int (1 : Int32)), (.ref bb_38)]))
    obtain ⟨cl176, Ar176, qk176, sz176, nn176, Ha176, Gf176⟩ := id F96
    have hin177 : ¬ ((1 : Int32) < 0 ∨ cl176.slots.size ≤ ((1 : Int32)).toNatClampNeg) := inb_of sz176 ⟨by decide, by decide⟩
    have hat178 : cl176.slots[((1 : Int32)).toNatClampNeg]? = some (.ref b1_38) := Has.at Ha176 hin177 rfl
    refine Go.by (fun t k => X175.aaload hx (j := (1 : Int32)) (v := (.ref b1_38)) (by rw [e175]; exact Ar176.1) (State.isArrayOf_alike hZ.alike Ar176.2.1) rfl Ar176.2.2 hin177 hat178 (g := (mkF m 480 #[.val (.int ia), .val (.int ib), .val (.int ic), .val (.int id_), .val (.int iq), .val (.int j_s1), .val (.int j_s2), .val (.int j_s3), .val (.int j_t), .val (.ref b1), .val (.ref b18), .val (.ref b33), .val (.int (1 : Int32))] [(.int (1 : Int32)), (.ref bb_38)])) rfl rfl (hb hby at_480) t k) ?_
    show Go p e below _ (T175.setTop (mkF m 481 #[.val (.int ia), .val (.int ib), .val (.int ic), .val (.int id_), .val (.int iq), .val (.int j_s1), .val (.int j_s2), .val (.int j_s3), .val (.int j_t), .val (.ref b1), .val (.ref b18), .val (.ref b33), .val (.int (1 : Int32))] [(.ref b1_38)]))
    refine Go.by (fun t k => XS.aload X175.here hx rfl (hb hby at_481) rfl rfl k) ?_
    show Go p e below _ (T175.setTop (mkF m 483 #[.val (.int ia), .val (.int ib), .val (.int ic), .val (.int id_), .val (.int iq), .val (.int j_s1), .val (.int j_s2), .val (.int j_s3), .val (.int j_t), .val (.ref b1), .val (.ref b18), .val (.ref b33), .val (.int (1 : Int32))] [(.ref b33), (.ref b1_38)]))
    obtain ⟨T179, X179, e179, st179⟩ := getF X175 hx hZ hown (host := "") (Or.inl (hw _ (List.mem_of_getElem? (i := 27) rfl))) Via.refl e175 F111 (g := (mkF m 483 #[.val (.int ia), .val (.int ib), .val (.int ic), .val (.int id_), .val (.int iq), .val (.int j_s1), .val (.int j_s2), .val (.int j_s3), .val (.int j_t), .val (.ref b1), .val (.ref b18), .val (.ref b33), .val (.int (1 : Int32))] [(.ref b33), (.ref b1_38)])) rfl rfl (hb hby at_483)
    refine Go.by st179 ?_
    show Go p e below _ (T179.setTop (mkF m 486 #[.val (.int ia), .val (.int ib), .val (.int ic), .val (.int id_), .val (.int iq), .val (.int j_s1), .val (.int j_s2), .val (.int j_s3), .val (.int j_t), .val (.ref b1), .val (.ref b18), .val (.ref b33), .val (.int (1 : Int32))] [(.ref gg_38), (.ref b1_38)]))
    refine Go.by (fun t k => XS.iconst X179.here hx rfl (hb hby at_486) k) ?_
    show Go p e below _ (T179.setTop (mkF m 487 #[.val (.int ia), .val (.int ib), .val (.int ic), .val (.int id_), .val (.int iq), .val (.int j_s1), .val (.int j_s2), .val (.int j_s3), .val (.int j_t), .val (.ref b1), .val (.ref b18), .val (.ref b33), .val (.int (1 : Int32))] [(.int (1 : Int32)), (.ref gg_38), (.ref b1_38)]))
    obtain ⟨cl180, Ar180, qk180, sz180, nn180, Ha180, Gf180⟩ := id F113
    have hin181 : ¬ ((1 : Int32) < 0 ∨ cl180.slots.size ≤ ((1 : Int32)).toNatClampNeg) := inb_of sz180 ⟨by decide, by decide⟩
    have hat182 : cl180.slots[((1 : Int32)).toNatClampNeg]? = some (.ref g1_38) := Has.at Ha180 hin181 rfl
    refine Go.by (fun t k => X179.aaload hx (j := (1 : Int32)) (v := (.ref g1_38)) (by rw [e179]; exact Ar180.1) (State.isArrayOf_alike hZ.alike Ar180.2.1) rfl Ar180.2.2 hin181 hat182 (g := (mkF m 487 #[.val (.int ia), .val (.int ib), .val (.int ic), .val (.int id_), .val (.int iq), .val (.int j_s1), .val (.int j_s2), .val (.int j_s3), .val (.int j_t), .val (.ref b1), .val (.ref b18), .val (.ref b33), .val (.int (1 : Int32))] [(.int (1 : Int32)), (.ref gg_38), (.ref b1_38)])) rfl rfl (hb hby at_487) t k) ?_
    show Go p e below _ (T179.setTop (mkF m 488 #[.val (.int ia), .val (.int ib), .val (.int ic), .val (.int id_), .val (.int iq), .val (.int j_s1), .val (.int j_s2), .val (.int j_s3), .val (.int j_t), .val (.ref b1), .val (.ref b18), .val (.ref b33), .val (.int (1 : Int32))] [(.ref g1_38), (.ref b1_38)]))
    refine Go.by (fun t k => XS.iconst X179.here hx rfl (hb hby at_488) k) ?_
    show Go p e below _ (T179.setTop (mkF m 489 #[.val (.int ia), .val (.int ib), .val (.int ic), .val (.int id_), .val (.int iq), .val (.int j_s1), .val (.int j_s2), .val (.int j_s3), .val (.int j_t), .val (.ref b1), .val (.ref b18), .val (.ref b33), .val (.int (1 : Int32))] [(.int (3 : Int32)), (.ref g1_38), (.ref b1_38)]))
    refine Go.by (fun t k => XS.iload X179.here hx rfl (hb hby at_489) rfl k) ?_
    show Go p e below _ (T179.setTop (mkF m 491 #[.val (.int ia), .val (.int ib), .val (.int ic), .val (.int id_), .val (.int iq), .val (.int j_s1), .val (.int j_s2), .val (.int j_s3), .val (.int j_t), .val (.ref b1), .val (.ref b18), .val (.ref b33), .val (.int (1 : Int32))] [(.int j_t), (.int (3 : Int32)), (.ref g1_38), (.ref b1_38)]))
    refine Go.by (fun t k => XS.iload X179.here hx rfl (hb hby at_491) rfl k) ?_
    show Go p e below _ (T179.setTop (mkF m 493 #[.val (.int ia), .val (.int ib), .val (.int ic), .val (.int id_), .val (.int iq), .val (.int j_s1), .val (.int j_s2), .val (.int j_s3), .val (.int j_t), .val (.ref b1), .val (.ref b18), .val (.ref b33), .val (.int (1 : Int32))] [(.int j_t), (.int j_t), (.int (3 : Int32)), (.ref g1_38), (.ref b1_38)]))
    refine Go.by (fun t k => XS.iload X179.here hx rfl (hb hby at_493) rfl k) ?_
    show Go p e below _ (T179.setTop (mkF m 495 #[.val (.int ia), .val (.int ib), .val (.int ic), .val (.int id_), .val (.int iq), .val (.int j_s1), .val (.int j_s2), .val (.int j_s3), .val (.int j_t), .val (.ref b1), .val (.ref b18), .val (.ref b33), .val (.int (1 : Int32))] [(.int j_t), (.int j_t), (.int j_t), (.int (3 : Int32)), (.ref g1_38), (.ref b1_38)]))
    refine Go.by (fun t k => XS.iload X179.here hx rfl (hb hby at_495) rfl k) ?_
    show Go p e below _ (T179.setTop (mkF m 497 #[.val (.int ia), .val (.int ib), .val (.int ic), .val (.int id_), .val (.int iq), .val (.int j_s1), .val (.int j_s2), .val (.int j_s3), .val (.int j_t), .val (.ref b1), .val (.ref b18), .val (.ref b33), .val (.int (1 : Int32))] [(.int iq), (.int j_t), (.int j_t), (.int j_t), (.int (3 : Int32)), (.ref g1_38), (.ref b1_38)]))
    refine Go.by (fun t k => XS.iconst X179.here hx rfl (hb hby at_497) k) ?_
    show Go p e below _ (T179.setTop (mkF m 498 #[.val (.int ia), .val (.int ib), .val (.int ic), .val (.int id_), .val (.int iq), .val (.int j_s1), .val (.int j_s2), .val (.int j_s3), .val (.int j_t), .val (.ref b1), .val (.ref b18), .val (.ref b33), .val (.int (1 : Int32))] [(.int (3 : Int32)), (.int iq), (.int j_t), (.int j_t), (.int j_t), (.int (3 : Int32)), (.ref g1_38), (.ref b1_38)]))
    refine Go.by (fun t k => XS.iadd X179.here hx rfl (hb hby at_498) rfl k) ?_
    show Go p e below _ (T179.setTop (mkF m 499 #[.val (.int ia), .val (.int ib), .val (.int ic), .val (.int id_), .val (.int iq), .val (.int j_s1), .val (.int j_s2), .val (.int j_s3), .val (.int j_t), .val (.ref b1), .val (.ref b18), .val (.ref b33), .val (.int (1 : Int32))] [(.int (iq + (3 : Int32))), (.int j_t), (.int j_t), (.int j_t), (.int (3 : Int32)), (.ref g1_38), (.ref b1_38)]))
    obtain ⟨_, _, ⟨T183, L183, k183, n183⟩, -, X183, ⟨Lc183, hQ183, l183, y183, z183⟩, st183⟩ := Jvm.LawKit.callS X179 hx (y := (⟨"com/example/wakepath/wakepath/automaton/NumberedStatesAddPinLaw", "wordOk", "([J[IIIIII)Z"⟩ : MethodName)) hown (mvT hZ (hw _ (List.mem_of_getElem? (i := 28) rfl))) (mvT hZ (hw _ (List.mem_of_getElem? (i := 29) rfl))) (mvT hZ (hw _ (List.mem_of_getElem? (i := 30) rfl))) (mvT hZ (hw _ (List.mem_of_getElem? (i := 31) rfl))) (by decide) (backOf (W := 0) (wordOk l Z a0 hw [] b1_38 g1_38 (3 : Int32) j_t j_t j_t (iq + (3 : Int32)) (((j_t.toUInt32 >>> ((6 : Int32) &&& 31).toUInt32).toInt32) + (1 : Int32)) (own_addL (fun _ => (0 : Int64)) j_t) (own_addI (fun _ => (0 : Int64)) (fun _ => (0 : Int32)) j_t (iq + (3 : Int32))) T84.heap n0 F118 F105 F156 (by decide) (fun _ => own_mainBt hs _ (by decide)) (fun _ => own_mainFt hs _ _ (by decide))) hZ (hw _ (List.mem_of_getElem? (i := 31) rfl)) (hw _ (List.mem_of_getElem? (i := 30) rfl)) (by decide) (by decide)) (g := (mkF m 499 #[.val (.int ia), .val (.int ib), .val (.int ic), .val (.int id_), .val (.int iq), .val (.int j_s1), .val (.int j_s2), .val (.int j_s3), .val (.int j_t), .val (.ref b1), .val (.ref b18), .val (.ref b33), .val (.int (1 : Int32))] [(.int (iq + (3 : Int32))), (.int j_t), (.int j_t), (.int j_t), (.int (3 : Int32)), (.ref g1_38), (.ref b1_38)])) rfl (by rw [hml]; rfl) (argsL := [(.ref b1_38), (.ref g1_38), (.int (3 : Int32)), (.int j_t), (.int j_t), (.int j_t), (.int (iq + (3 : Int32)))]) (rest := []) (lenOf pd_3 rfl) rfl (by show 2 * 0 + _ ≤ _; exact Nat.le_of_eq rfl) (hb hby at_499) (fun _ _ => ⟨rfl, e179, (by decide : 9 + 0 ≤ _), (by decide : 27 + 0 ≤ _)⟩)
    dsimp only [Pt.U, Pt.locs, Pt.cells, Pt.slots] at X183 l183 y183 z183 st183 hQ183
    subst l183 y183 z183
    obtain ⟨rfl, N183q, e183⟩ := hQ183
    have N183 := Fr.app N174 N183q
    refine Go.by st183 ?_
    show Go p e below _ (T183.setTop (mkF m 502 #[.val (.int ia), .val (.int ib), .val (.int ic), .val (.int id_), .val (.int iq), .val (.int j_s1), .val (.int j_s2), .val (.int j_s3), .val (.int j_t), .val (.ref b1), .val (.ref b18), .val (.ref b33), .val (.int (1 : Int32))] [(.int (1 : Int32))]))
    refine Go.by (fun t k => XS.ifNo X183.here hx rfl (hb hby at_502) rfl ((if0 _ _).trans (feq (by decide : ¬ ((1 : Int32) = (0 : Int32)))).1) k) ?_
    show Go p e below _ (T183.setTop (mkF m 505 #[.val (.int ia), .val (.int ib), .val (.int ic), .val (.int id_), .val (.int iq), .val (.int j_s1), .val (.int j_s2), .val (.int j_s3), .val (.int j_t), .val (.ref b1), .val (.ref b18), .val (.ref b33), .val (.int (1 : Int32))] []))
    refine Go.by (fun t k => XS.iconst X183.here hx rfl (hb hby at_505) k) ?_
    show Go p e below _ (T183.setTop (mkF m 506 #[.val (.int ia), .val (.int ib), .val (.int ic), .val (.int id_), .val (.int iq), .val (.int j_s1), .val (.int j_s2), .val (.int j_s3), .val (.int j_t), .val (.ref b1), .val (.ref b18), .val (.ref b33), .val (.int (1 : Int32))] [(.int (1 : Int32))]))
    refine Go.by (fun t k => XS.goto X183.here hx rfl (pc0 := 506) (pc' := 510) rfl (hb hby at_506) (by decide) (by decide) k) ?_
    show Go p e below _ (T183.setTop (mkF m 510 #[.val (.int ia), .val (.int ib), .val (.int ic), .val (.int id_), .val (.int iq), .val (.int j_s1), .val (.int j_s2), .val (.int j_s3), .val (.int j_t), .val (.ref b1), .val (.ref b18), .val (.ref b33), .val (.int (1 : Int32))] [(.int (1 : Int32))]))
    refine Go.by (fun t k => XS.istore X183.here hx rfl (hb hby at_510) rfl (l' := #[.val (.int ia), .val (.int ib), .val (.int ic), .val (.int id_), .val (.int iq), .val (.int j_s1), .val (.int j_s2), .val (.int j_s3), .val (.int j_t), .val (.ref b1), .val (.ref b18), .val (.ref b33), .val (.int (1 : Int32))]) rfl k) ?_
    show Go p e below _ (T183.setTop (mkF m 512 #[.val (.int ia), .val (.int ib), .val (.int ic), .val (.int id_), .val (.int iq), .val (.int j_s1), .val (.int j_s2), .val (.int j_s3), .val (.int j_t), .val (.ref b1), .val (.ref b18), .val (.ref b33), .val (.int (1 : Int32))] []))
    refine Go.by (fun t k => XS.iload X183.here hx rfl (hb hby at_512) rfl k) ?_
    show Go p e below _ (T183.setTop (mkF m 514 #[.val (.int ia), .val (.int ib), .val (.int ic), .val (.int id_), .val (.int iq), .val (.int j_s1), .val (.int j_s2), .val (.int j_s3), .val (.int j_t), .val (.ref b1), .val (.ref b18), .val (.ref b33), .val (.int (1 : Int32))] [(.int (1 : Int32))]))
    refine Go.by (fun t k => XS.ifNo X183.here hx rfl (hb hby at_514) rfl ((if0 _ _).trans (feq (by decide : ¬ ((1 : Int32) = (0 : Int32)))).1) k) ?_
    show Go p e below _ (T183.setTop (mkF m 517 #[.val (.int ia), .val (.int ib), .val (.int ic), .val (.int id_), .val (.int iq), .val (.int j_s1), .val (.int j_s2), .val (.int j_s3), .val (.int j_t), .val (.ref b1), .val (.ref b18), .val (.ref b33), .val (.int (1 : Int32))] []))
    refine Go.by (fun t k => XS.aload X183.here hx rfl (hb hby at_517) rfl rfl k) ?_
    show Go p e below _ (T183.setTop (mkF m 519 #[.val (.int ia), .val (.int ib), .val (.int ic), .val (.int id_), .val (.int iq), .val (.int j_s1), .val (.int j_s2), .val (.int j_s3), .val (.int j_t), .val (.ref b1), .val (.ref b18), .val (.ref b33), .val (.int (1 : Int32))] [(.ref b33)]))
    refine Go.by (fun t k => XS.iconst X183.here hx rfl (hb hby at_519) k) ?_
    show Go p e below _ (T183.setTop (mkF m 520 #[.val (.int ia), .val (.int ib), .val (.int ic), .val (.int id_), .val (.int iq), .val (.int j_s1), .val (.int j_s2), .val (.int j_s3), .val (.int j_t), .val (.ref b1), .val (.ref b18), .val (.ref b33), .val (.int (1 : Int32))] [(.int (0 : Int32)), (.ref b33)]))
    refine Go.by (fun t k => XS.iload X183.here hx rfl (hb hby at_520) rfl k) ?_
    show Go p e below _ (T183.setTop (mkF m 522 #[.val (.int ia), .val (.int ib), .val (.int ic), .val (.int id_), .val (.int iq), .val (.int j_s1), .val (.int j_s2), .val (.int j_s3), .val (.int j_t), .val (.ref b1), .val (.ref b18), .val (.ref b33), .val (.int (1 : Int32))] [(.int j_s1), (.int (0 : Int32)), (.ref b33)]))
    have F185 : Exa Z T84.heap b33 "com/example/wakepath/wakepath/automaton/NumberedStates" := (F93.keep K84)
    obtain ⟨cq184, kq184, q184a, q184b, q184c⟩ := isOf hZ e183 F185
    obtain ⟨_, _, ⟨T184, L184, k184, n184⟩, -, X184, ⟨Lc184, hQ184, l184, y184, z184⟩, st184⟩ := X183.virtualBack hx (y := (⟨"com/example/wakepath/wakepath/automaton/NumberedStates", "number", "(II)I"⟩ : MethodName)) (z := (⟨"com/example/wakepath/wakepath/automaton/NumberedStates", "number", "(II)I"⟩ : MethodName)) hown (mvT hZ (hw _ (List.mem_of_getElem? (i := 32) rfl))) (mvT hZ (hw _ (List.mem_of_getElem? (i := 33) rfl))) (notFace_of_selects (args := #[]) (mvT hZ (hw _ (List.mem_of_getElem? (i := 35) rfl)))) (mvT hZ (hw _ (List.mem_of_getElem? (i := 35) rfl))) (mvT hZ (hw _ (List.mem_of_getElem? (i := 34) rfl))) (by decide) (backOf (W := 0) (number_0 l Z a0 hw [] b33 j_s1 bb_38 gg_38 b0_38 g0_38 b1_38 g1_38 kb_38 kg_38 (((j_s3.toUInt32 >>> ((6 : Int32) &&& 31).toUInt32).toInt32) + (1 : Int32)) (own_addL (own_addL (own_addL (fun _ => (0 : Int64)) j_s1) j_s2) j_s3) (own_addI (own_addL (own_addL (fun _ => (0 : Int64)) j_s1) j_s2) (own_addI (own_addL (fun _ => (0 : Int64)) j_s1) (own_addI (fun _ => (0 : Int64)) (fun _ => (0 : Int32)) j_s1 iq) j_s2 (iq + (1 : Int32))) j_s3 (iq + (2 : Int32))) T84.heap n0 F118 F94 F111 F96 F113 F84_0 F84_1 (own_in1 hs)) hZ (hw _ (List.mem_of_getElem? (i := 36) rfl)) (hw _ (List.mem_of_getElem? (i := 3) rfl)) (by decide) (by decide)) q184a q184c (g := (mkF m 522 #[.val (.int ia), .val (.int ib), .val (.int ic), .val (.int id_), .val (.int iq), .val (.int j_s1), .val (.int j_s2), .val (.int j_s3), .val (.int j_t), .val (.ref b1), .val (.ref b18), .val (.ref b33), .val (.int (1 : Int32))] [(.int j_s1), (.int (0 : Int32)), (.ref b33)])) rfl (by rw [hml]; rfl) (Steps.refl _) (argsL := [(.int (0 : Int32)), (.int j_s1)]) (rest := []) (lenOf pd_4 rfl) rfl (by show 2 * 0 + _ ≤ _; exact Nat.le_of_eq rfl) (hb hby at_522) (fun _ _ => ⟨rfl, e183, (by decide : 9 + 0 ≤ _), (by decide : 27 + 0 ≤ _)⟩)
    dsimp only [Pt.U, Pt.locs, Pt.cells, Pt.slots] at X184 l184 y184 z184 st184 hQ184
    subst l184 y184 z184
    obtain ⟨rfl, N184q, e184⟩ := hQ184
    have N184 := Fr.app N183 N184q
    refine Go.tr st184 ?_
    show Go p e below _ (T184.setTop (mkF m 525 #[.val (.int ia), .val (.int ib), .val (.int ic), .val (.int id_), .val (.int iq), .val (.int j_s1), .val (.int j_s2), .val (.int j_s3), .val (.int j_t), .val (.ref b1), .val (.ref b18), .val (.ref b33), .val (.int (1 : Int32))] [(.int (own_num (own_addL (own_addL (own_addL (fun _ => (0 : Int64)) j_s1) j_s2) j_s3) (own_addI (own_addL (own_addL (fun _ => (0 : Int64)) j_s1) j_s2) (own_addI (own_addL (fun _ => (0 : Int64)) j_s1) (own_addI (fun _ => (0 : Int64)) (fun _ => (0 : Int32)) j_s1 iq) j_s2 (iq + (1 : Int32))) j_s3 (iq + (2 : Int32))) j_s1))]))
    refine Go.by (fun t k => XS.iload X184.here hx rfl (hb hby at_525) rfl k) ?_
    show Go p e below _ (T184.setTop (mkF m 527 #[.val (.int ia), .val (.int ib), .val (.int ic), .val (.int id_), .val (.int iq), .val (.int j_s1), .val (.int j_s2), .val (.int j_s3), .val (.int j_t), .val (.ref b1), .val (.ref b18), .val (.ref b33), .val (.int (1 : Int32))] [(.int iq), (.int (own_num (own_addL (own_addL (own_addL (fun _ => (0 : Int64)) j_s1) j_s2) j_s3) (own_addI (own_addL (own_addL (fun _ => (0 : Int64)) j_s1) j_s2) (own_addI (own_addL (fun _ => (0 : Int64)) j_s1) (own_addI (fun _ => (0 : Int64)) (fun _ => (0 : Int32)) j_s1 iq) j_s2 (iq + (1 : Int32))) j_s3 (iq + (2 : Int32))) j_s1))]))
    refine Go.by (fun t k => XS.icmpNo X184.here hx rfl (hb hby at_527) rfl (teq (own_num1 hs _)).2 k) ?_
    show Go p e below _ (T184.setTop (mkF m 530 #[.val (.int ia), .val (.int ib), .val (.int ic), .val (.int id_), .val (.int iq), .val (.int j_s1), .val (.int j_s2), .val (.int j_s3), .val (.int j_t), .val (.ref b1), .val (.ref b18), .val (.ref b33), .val (.int (1 : Int32))] []))
    refine Go.by (fun t k => XS.iconst X184.here hx rfl (hb hby at_530) k) ?_
    show Go p e below _ (T184.setTop (mkF m 531 #[.val (.int ia), .val (.int ib), .val (.int ic), .val (.int id_), .val (.int iq), .val (.int j_s1), .val (.int j_s2), .val (.int j_s3), .val (.int j_t), .val (.ref b1), .val (.ref b18), .val (.ref b33), .val (.int (1 : Int32))] [(.int (1 : Int32))]))
    refine Go.by (fun t k => XS.goto X184.here hx rfl (pc0 := 531) (pc' := 535) rfl (hb hby at_531) (by decide) (by decide) k) ?_
    show Go p e below _ (T184.setTop (mkF m 535 #[.val (.int ia), .val (.int ib), .val (.int ic), .val (.int id_), .val (.int iq), .val (.int j_s1), .val (.int j_s2), .val (.int j_s3), .val (.int j_t), .val (.ref b1), .val (.ref b18), .val (.ref b33), .val (.int (1 : Int32))] [(.int (1 : Int32))]))
    refine Go.by (fun t k => XS.istore X184.here hx rfl (hb hby at_535) rfl (l' := #[.val (.int ia), .val (.int ib), .val (.int ic), .val (.int id_), .val (.int iq), .val (.int j_s1), .val (.int j_s2), .val (.int j_s3), .val (.int j_t), .val (.ref b1), .val (.ref b18), .val (.ref b33), .val (.int (1 : Int32))]) rfl k) ?_
    show Go p e below _ (T184.setTop (mkF m 537 #[.val (.int ia), .val (.int ib), .val (.int ic), .val (.int id_), .val (.int iq), .val (.int j_s1), .val (.int j_s2), .val (.int j_s3), .val (.int j_t), .val (.ref b1), .val (.ref b18), .val (.ref b33), .val (.int (1 : Int32))] []))
    refine Go.by (fun t k => XS.iload X184.here hx rfl (hb hby at_537) rfl k) ?_
    show Go p e below _ (T184.setTop (mkF m 539 #[.val (.int ia), .val (.int ib), .val (.int ic), .val (.int id_), .val (.int iq), .val (.int j_s1), .val (.int j_s2), .val (.int j_s3), .val (.int j_t), .val (.ref b1), .val (.ref b18), .val (.ref b33), .val (.int (1 : Int32))] [(.int (1 : Int32))]))
    refine Go.by (fun t k => XS.ifNo X184.here hx rfl (hb hby at_539) rfl ((if0 _ _).trans (feq (by decide : ¬ ((1 : Int32) = (0 : Int32)))).1) k) ?_
    show Go p e below _ (T184.setTop (mkF m 542 #[.val (.int ia), .val (.int ib), .val (.int ic), .val (.int id_), .val (.int iq), .val (.int j_s1), .val (.int j_s2), .val (.int j_s3), .val (.int j_t), .val (.ref b1), .val (.ref b18), .val (.ref b33), .val (.int (1 : Int32))] []))
    refine Go.by (fun t k => XS.aload X184.here hx rfl (hb hby at_542) rfl rfl k) ?_
    show Go p e below _ (T184.setTop (mkF m 544 #[.val (.int ia), .val (.int ib), .val (.int ic), .val (.int id_), .val (.int iq), .val (.int j_s1), .val (.int j_s2), .val (.int j_s3), .val (.int j_t), .val (.ref b1), .val (.ref b18), .val (.ref b33), .val (.int (1 : Int32))] [(.ref b33)]))
    refine Go.by (fun t k => XS.iconst X184.here hx rfl (hb hby at_544) k) ?_
    show Go p e below _ (T184.setTop (mkF m 545 #[.val (.int ia), .val (.int ib), .val (.int ic), .val (.int id_), .val (.int iq), .val (.int j_s1), .val (.int j_s2), .val (.int j_s3), .val (.int j_t), .val (.ref b1), .val (.ref b18), .val (.ref b33), .val (.int (1 : Int32))] [(.int (0 : Int32)), (.ref b33)]))
    refine Go.by (fun t k => XS.iload X184.here hx rfl (hb hby at_545) rfl k) ?_
    show Go p e below _ (T184.setTop (mkF m 547 #[.val (.int ia), .val (.int ib), .val (.int ic), .val (.int id_), .val (.int iq), .val (.int j_s1), .val (.int j_s2), .val (.int j_s3), .val (.int j_t), .val (.ref b1), .val (.ref b18), .val (.ref b33), .val (.int (1 : Int32))] [(.int j_s2), (.int (0 : Int32)), (.ref b33)]))
    obtain ⟨cq186, kq186, q186a, q186b, q186c⟩ := isOf hZ e184 F185
    obtain ⟨_, _, ⟨T186, L186, k186, n186⟩, -, X186, ⟨Lc186, hQ186, l186, y186, z186⟩, st186⟩ := X184.virtualBack hx (y := (⟨"com/example/wakepath/wakepath/automaton/NumberedStates", "number", "(II)I"⟩ : MethodName)) (z := (⟨"com/example/wakepath/wakepath/automaton/NumberedStates", "number", "(II)I"⟩ : MethodName)) hown (mvT hZ (hw _ (List.mem_of_getElem? (i := 32) rfl))) (mvT hZ (hw _ (List.mem_of_getElem? (i := 33) rfl))) (notFace_of_selects (args := #[]) (mvT hZ (hw _ (List.mem_of_getElem? (i := 35) rfl)))) (mvT hZ (hw _ (List.mem_of_getElem? (i := 35) rfl))) (mvT hZ (hw _ (List.mem_of_getElem? (i := 34) rfl))) (by decide) (backOf (W := 0) (number_0 l Z a0 hw [] b33 j_s2 bb_38 gg_38 b0_38 g0_38 b1_38 g1_38 kb_38 kg_38 (((j_s3.toUInt32 >>> ((6 : Int32) &&& 31).toUInt32).toInt32) + (1 : Int32)) (own_addL (own_addL (own_addL (fun _ => (0 : Int64)) j_s1) j_s2) j_s3) (own_addI (own_addL (own_addL (fun _ => (0 : Int64)) j_s1) j_s2) (own_addI (own_addL (fun _ => (0 : Int64)) j_s1) (own_addI (fun _ => (0 : Int64)) (fun _ => (0 : Int32)) j_s1 iq) j_s2 (iq + (1 : Int32))) j_s3 (iq + (2 : Int32))) T84.heap n0 F118 F94 F111 F96 F113 F84_0 F84_1 (own_in2 hs)) hZ (hw _ (List.mem_of_getElem? (i := 36) rfl)) (hw _ (List.mem_of_getElem? (i := 3) rfl)) (by decide) (by decide)) q186a q186c (g := (mkF m 547 #[.val (.int ia), .val (.int ib), .val (.int ic), .val (.int id_), .val (.int iq), .val (.int j_s1), .val (.int j_s2), .val (.int j_s3), .val (.int j_t), .val (.ref b1), .val (.ref b18), .val (.ref b33), .val (.int (1 : Int32))] [(.int j_s2), (.int (0 : Int32)), (.ref b33)])) rfl (by rw [hml]; rfl) (Steps.refl _) (argsL := [(.int (0 : Int32)), (.int j_s2)]) (rest := []) (lenOf pd_4 rfl) rfl (by show 2 * 0 + _ ≤ _; exact Nat.le_of_eq rfl) (hb hby at_547) (fun _ _ => ⟨rfl, e184, (by decide : 9 + 0 ≤ _), (by decide : 27 + 0 ≤ _)⟩)
    dsimp only [Pt.U, Pt.locs, Pt.cells, Pt.slots] at X186 l186 y186 z186 st186 hQ186
    subst l186 y186 z186
    obtain ⟨rfl, N186q, e186⟩ := hQ186
    have N186 := Fr.app N184 N186q
    refine Go.tr st186 ?_
    show Go p e below _ (T186.setTop (mkF m 550 #[.val (.int ia), .val (.int ib), .val (.int ic), .val (.int id_), .val (.int iq), .val (.int j_s1), .val (.int j_s2), .val (.int j_s3), .val (.int j_t), .val (.ref b1), .val (.ref b18), .val (.ref b33), .val (.int (1 : Int32))] [(.int (own_num (own_addL (own_addL (own_addL (fun _ => (0 : Int64)) j_s1) j_s2) j_s3) (own_addI (own_addL (own_addL (fun _ => (0 : Int64)) j_s1) j_s2) (own_addI (own_addL (fun _ => (0 : Int64)) j_s1) (own_addI (fun _ => (0 : Int64)) (fun _ => (0 : Int32)) j_s1 iq) j_s2 (iq + (1 : Int32))) j_s3 (iq + (2 : Int32))) j_s2))]))
    refine Go.by (fun t k => XS.iload X186.here hx rfl (hb hby at_550) rfl k) ?_
    show Go p e below _ (T186.setTop (mkF m 552 #[.val (.int ia), .val (.int ib), .val (.int ic), .val (.int id_), .val (.int iq), .val (.int j_s1), .val (.int j_s2), .val (.int j_s3), .val (.int j_t), .val (.ref b1), .val (.ref b18), .val (.ref b33), .val (.int (1 : Int32))] [(.int iq), (.int (own_num (own_addL (own_addL (own_addL (fun _ => (0 : Int64)) j_s1) j_s2) j_s3) (own_addI (own_addL (own_addL (fun _ => (0 : Int64)) j_s1) j_s2) (own_addI (own_addL (fun _ => (0 : Int64)) j_s1) (own_addI (fun _ => (0 : Int64)) (fun _ => (0 : Int32)) j_s1 iq) j_s2 (iq + (1 : Int32))) j_s3 (iq + (2 : Int32))) j_s2))]))
    refine Go.by (fun t k => XS.iconst X186.here hx rfl (hb hby at_552) k) ?_
    show Go p e below _ (T186.setTop (mkF m 553 #[.val (.int ia), .val (.int ib), .val (.int ic), .val (.int id_), .val (.int iq), .val (.int j_s1), .val (.int j_s2), .val (.int j_s3), .val (.int j_t), .val (.ref b1), .val (.ref b18), .val (.ref b33), .val (.int (1 : Int32))] [(.int (1 : Int32)), (.int iq), (.int (own_num (own_addL (own_addL (own_addL (fun _ => (0 : Int64)) j_s1) j_s2) j_s3) (own_addI (own_addL (own_addL (fun _ => (0 : Int64)) j_s1) j_s2) (own_addI (own_addL (fun _ => (0 : Int64)) j_s1) (own_addI (fun _ => (0 : Int64)) (fun _ => (0 : Int32)) j_s1 iq) j_s2 (iq + (1 : Int32))) j_s3 (iq + (2 : Int32))) j_s2))]))
    refine Go.by (fun t k => XS.iadd X186.here hx rfl (hb hby at_553) rfl k) ?_
    show Go p e below _ (T186.setTop (mkF m 554 #[.val (.int ia), .val (.int ib), .val (.int ic), .val (.int id_), .val (.int iq), .val (.int j_s1), .val (.int j_s2), .val (.int j_s3), .val (.int j_t), .val (.ref b1), .val (.ref b18), .val (.ref b33), .val (.int (1 : Int32))] [(.int (iq + (1 : Int32))), (.int (own_num (own_addL (own_addL (own_addL (fun _ => (0 : Int64)) j_s1) j_s2) j_s3) (own_addI (own_addL (own_addL (fun _ => (0 : Int64)) j_s1) j_s2) (own_addI (own_addL (fun _ => (0 : Int64)) j_s1) (own_addI (fun _ => (0 : Int64)) (fun _ => (0 : Int32)) j_s1 iq) j_s2 (iq + (1 : Int32))) j_s3 (iq + (2 : Int32))) j_s2))]))
    refine Go.by (fun t k => XS.icmpNo X186.here hx rfl (hb hby at_554) rfl (teq (own_num2 hs _)).2 k) ?_
    show Go p e below _ (T186.setTop (mkF m 557 #[.val (.int ia), .val (.int ib), .val (.int ic), .val (.int id_), .val (.int iq), .val (.int j_s1), .val (.int j_s2), .val (.int j_s3), .val (.int j_t), .val (.ref b1), .val (.ref b18), .val (.ref b33), .val (.int (1 : Int32))] []))
    refine Go.by (fun t k => XS.iconst X186.here hx rfl (hb hby at_557) k) ?_
    show Go p e below _ (T186.setTop (mkF m 558 #[.val (.int ia), .val (.int ib), .val (.int ic), .val (.int id_), .val (.int iq), .val (.int j_s1), .val (.int j_s2), .val (.int j_s3), .val (.int j_t), .val (.ref b1), .val (.ref b18), .val (.ref b33), .val (.int (1 : Int32))] [(.int (1 : Int32))]))
    refine Go.by (fun t k => XS.goto X186.here hx rfl (pc0 := 558) (pc' := 562) rfl (hb hby at_558) (by decide) (by decide) k) ?_
    show Go p e below _ (T186.setTop (mkF m 562 #[.val (.int ia), .val (.int ib), .val (.int ic), .val (.int id_), .val (.int iq), .val (.int j_s1), .val (.int j_s2), .val (.int j_s3), .val (.int j_t), .val (.ref b1), .val (.ref b18), .val (.ref b33), .val (.int (1 : Int32))] [(.int (1 : Int32))]))
    refine Go.by (fun t k => XS.istore X186.here hx rfl (hb hby at_562) rfl (l' := #[.val (.int ia), .val (.int ib), .val (.int ic), .val (.int id_), .val (.int iq), .val (.int j_s1), .val (.int j_s2), .val (.int j_s3), .val (.int j_t), .val (.ref b1), .val (.ref b18), .val (.ref b33), .val (.int (1 : Int32))]) rfl k) ?_
    show Go p e below _ (T186.setTop (mkF m 564 #[.val (.int ia), .val (.int ib), .val (.int ic), .val (.int id_), .val (.int iq), .val (.int j_s1), .val (.int j_s2), .val (.int j_s3), .val (.int j_t), .val (.ref b1), .val (.ref b18), .val (.ref b33), .val (.int (1 : Int32))] []))
    refine Go.by (fun t k => XS.iload X186.here hx rfl (hb hby at_564) rfl k) ?_
    show Go p e below _ (T186.setTop (mkF m 566 #[.val (.int ia), .val (.int ib), .val (.int ic), .val (.int id_), .val (.int iq), .val (.int j_s1), .val (.int j_s2), .val (.int j_s3), .val (.int j_t), .val (.ref b1), .val (.ref b18), .val (.ref b33), .val (.int (1 : Int32))] [(.int (1 : Int32))]))
    refine Go.by (fun t k => XS.ifNo X186.here hx rfl (hb hby at_566) rfl ((if0 _ _).trans (feq (by decide : ¬ ((1 : Int32) = (0 : Int32)))).1) k) ?_
    show Go p e below _ (T186.setTop (mkF m 569 #[.val (.int ia), .val (.int ib), .val (.int ic), .val (.int id_), .val (.int iq), .val (.int j_s1), .val (.int j_s2), .val (.int j_s3), .val (.int j_t), .val (.ref b1), .val (.ref b18), .val (.ref b33), .val (.int (1 : Int32))] []))
    refine Go.by (fun t k => XS.aload X186.here hx rfl (hb hby at_569) rfl rfl k) ?_
    show Go p e below _ (T186.setTop (mkF m 571 #[.val (.int ia), .val (.int ib), .val (.int ic), .val (.int id_), .val (.int iq), .val (.int j_s1), .val (.int j_s2), .val (.int j_s3), .val (.int j_t), .val (.ref b1), .val (.ref b18), .val (.ref b33), .val (.int (1 : Int32))] [(.ref b33)]))
    refine Go.by (fun t k => XS.iconst X186.here hx rfl (hb hby at_571) k) ?_
    show Go p e below _ (T186.setTop (mkF m 572 #[.val (.int ia), .val (.int ib), .val (.int ic), .val (.int id_), .val (.int iq), .val (.int j_s1), .val (.int j_s2), .val (.int j_s3), .val (.int j_t), .val (.ref b1), .val (.ref b18), .val (.ref b33), .val (.int (1 : Int32))] [(.int (0 : Int32)), (.ref b33)]))
    refine Go.by (fun t k => XS.iload X186.here hx rfl (hb hby at_572) rfl k) ?_
    show Go p e below _ (T186.setTop (mkF m 574 #[.val (.int ia), .val (.int ib), .val (.int ic), .val (.int id_), .val (.int iq), .val (.int j_s1), .val (.int j_s2), .val (.int j_s3), .val (.int j_t), .val (.ref b1), .val (.ref b18), .val (.ref b33), .val (.int (1 : Int32))] [(.int j_s3), (.int (0 : Int32)), (.ref b33)]))
    obtain ⟨cq187, kq187, q187a, q187b, q187c⟩ := isOf hZ e186 F185
    obtain ⟨_, _, ⟨T187, L187, k187, n187⟩, -, X187, ⟨Lc187, hQ187, l187, y187, z187⟩, st187⟩ := X186.virtualBack hx (y := (⟨"com/example/wakepath/wakepath/automaton/NumberedStates", "number", "(II)I"⟩ : MethodName)) (z := (⟨"com/example/wakepath/wakepath/automaton/NumberedStates", "number", "(II)I"⟩ : MethodName)) hown (mvT hZ (hw _ (List.mem_of_getElem? (i := 32) rfl))) (mvT hZ (hw _ (List.mem_of_getElem? (i := 33) rfl))) (notFace_of_selects (args := #[]) (mvT hZ (hw _ (List.mem_of_getElem? (i := 35) rfl)))) (mvT hZ (hw _ (List.mem_of_getElem? (i := 35) rfl))) (mvT hZ (hw _ (List.mem_of_getElem? (i := 34) rfl))) (by decide) (backOf (W := 0) (number_0 l Z a0 hw [] b33 j_s3 bb_38 gg_38 b0_38 g0_38 b1_38 g1_38 kb_38 kg_38 (((j_s3.toUInt32 >>> ((6 : Int32) &&& 31).toUInt32).toInt32) + (1 : Int32)) (own_addL (own_addL (own_addL (fun _ => (0 : Int64)) j_s1) j_s2) j_s3) (own_addI (own_addL (own_addL (fun _ => (0 : Int64)) j_s1) j_s2) (own_addI (own_addL (fun _ => (0 : Int64)) j_s1) (own_addI (fun _ => (0 : Int64)) (fun _ => (0 : Int32)) j_s1 iq) j_s2 (iq + (1 : Int32))) j_s3 (iq + (2 : Int32))) T84.heap n0 F118 F94 F111 F96 F113 F84_0 F84_1 (own_in3 hs)) hZ (hw _ (List.mem_of_getElem? (i := 36) rfl)) (hw _ (List.mem_of_getElem? (i := 3) rfl)) (by decide) (by decide)) q187a q187c (g := (mkF m 574 #[.val (.int ia), .val (.int ib), .val (.int ic), .val (.int id_), .val (.int iq), .val (.int j_s1), .val (.int j_s2), .val (.int j_s3), .val (.int j_t), .val (.ref b1), .val (.ref b18), .val (.ref b33), .val (.int (1 : Int32))] [(.int j_s3), (.int (0 : Int32)), (.ref b33)])) rfl (by rw [hml]; rfl) (Steps.refl _) (argsL := [(.int (0 : Int32)), (.int j_s3)]) (rest := []) (lenOf pd_4 rfl) rfl (by show 2 * 0 + _ ≤ _; exact Nat.le_of_eq rfl) (hb hby at_574) (fun _ _ => ⟨rfl, e186, (by decide : 9 + 0 ≤ _), (by decide : 27 + 0 ≤ _)⟩)
    dsimp only [Pt.U, Pt.locs, Pt.cells, Pt.slots] at X187 l187 y187 z187 st187 hQ187
    subst l187 y187 z187
    obtain ⟨rfl, N187q, e187⟩ := hQ187
    have N187 := Fr.app N186 N187q
    refine Go.tr st187 ?_
    show Go p e below _ (T187.setTop (mkF m 577 #[.val (.int ia), .val (.int ib), .val (.int ic), .val (.int id_), .val (.int iq), .val (.int j_s1), .val (.int j_s2), .val (.int j_s3), .val (.int j_t), .val (.ref b1), .val (.ref b18), .val (.ref b33), .val (.int (1 : Int32))] [(.int (own_num (own_addL (own_addL (own_addL (fun _ => (0 : Int64)) j_s1) j_s2) j_s3) (own_addI (own_addL (own_addL (fun _ => (0 : Int64)) j_s1) j_s2) (own_addI (own_addL (fun _ => (0 : Int64)) j_s1) (own_addI (fun _ => (0 : Int64)) (fun _ => (0 : Int32)) j_s1 iq) j_s2 (iq + (1 : Int32))) j_s3 (iq + (2 : Int32))) j_s3))]))
    refine Go.by (fun t k => XS.iload X187.here hx rfl (hb hby at_577) rfl k) ?_
    show Go p e below _ (T187.setTop (mkF m 579 #[.val (.int ia), .val (.int ib), .val (.int ic), .val (.int id_), .val (.int iq), .val (.int j_s1), .val (.int j_s2), .val (.int j_s3), .val (.int j_t), .val (.ref b1), .val (.ref b18), .val (.ref b33), .val (.int (1 : Int32))] [(.int iq), (.int (own_num (own_addL (own_addL (own_addL (fun _ => (0 : Int64)) j_s1) j_s2) j_s3) (own_addI (own_addL (own_addL (fun _ => (0 : Int64)) j_s1) j_s2) (own_addI (own_addL (fun _ => (0 : Int64)) j_s1) (own_addI (fun _ => (0 : Int64)) (fun _ => (0 : Int32)) j_s1 iq) j_s2 (iq + (1 : Int32))) j_s3 (iq + (2 : Int32))) j_s3))]))
    refine Go.by (fun t k => XS.iconst X187.here hx rfl (hb hby at_579) k) ?_
    show Go p e below _ (T187.setTop (mkF m 580 #[.val (.int ia), .val (.int ib), .val (.int ic), .val (.int id_), .val (.int iq), .val (.int j_s1), .val (.int j_s2), .val (.int j_s3), .val (.int j_t), .val (.ref b1), .val (.ref b18), .val (.ref b33), .val (.int (1 : Int32))] [(.int (2 : Int32)), (.int iq), (.int (own_num (own_addL (own_addL (own_addL (fun _ => (0 : Int64)) j_s1) j_s2) j_s3) (own_addI (own_addL (own_addL (fun _ => (0 : Int64)) j_s1) j_s2) (own_addI (own_addL (fun _ => (0 : Int64)) j_s1) (own_addI (fun _ => (0 : Int64)) (fun _ => (0 : Int32)) j_s1 iq) j_s2 (iq + (1 : Int32))) j_s3 (iq + (2 : Int32))) j_s3))]))
    refine Go.by (fun t k => XS.iadd X187.here hx rfl (hb hby at_580) rfl k) ?_
    show Go p e below _ (T187.setTop (mkF m 581 #[.val (.int ia), .val (.int ib), .val (.int ic), .val (.int id_), .val (.int iq), .val (.int j_s1), .val (.int j_s2), .val (.int j_s3), .val (.int j_t), .val (.ref b1), .val (.ref b18), .val (.ref b33), .val (.int (1 : Int32))] [(.int (iq + (2 : Int32))), (.int (own_num (own_addL (own_addL (own_addL (fun _ => (0 : Int64)) j_s1) j_s2) j_s3) (own_addI (own_addL (own_addL (fun _ => (0 : Int64)) j_s1) j_s2) (own_addI (own_addL (fun _ => (0 : Int64)) j_s1) (own_addI (fun _ => (0 : Int64)) (fun _ => (0 : Int32)) j_s1 iq) j_s2 (iq + (1 : Int32))) j_s3 (iq + (2 : Int32))) j_s3))]))
    refine Go.by (fun t k => XS.icmpNo X187.here hx rfl (hb hby at_581) rfl (teq (own_num3 hs _)).2 k) ?_
    show Go p e below _ (T187.setTop (mkF m 584 #[.val (.int ia), .val (.int ib), .val (.int ic), .val (.int id_), .val (.int iq), .val (.int j_s1), .val (.int j_s2), .val (.int j_s3), .val (.int j_t), .val (.ref b1), .val (.ref b18), .val (.ref b33), .val (.int (1 : Int32))] []))
    refine Go.by (fun t k => XS.iconst X187.here hx rfl (hb hby at_584) k) ?_
    show Go p e below _ (T187.setTop (mkF m 585 #[.val (.int ia), .val (.int ib), .val (.int ic), .val (.int id_), .val (.int iq), .val (.int j_s1), .val (.int j_s2), .val (.int j_s3), .val (.int j_t), .val (.ref b1), .val (.ref b18), .val (.ref b33), .val (.int (1 : Int32))] [(.int (1 : Int32))]))
    refine Go.by (fun t k => XS.goto X187.here hx rfl (pc0 := 585) (pc' := 589) rfl (hb hby at_585) (by decide) (by decide) k) ?_
    show Go p e below _ (T187.setTop (mkF m 589 #[.val (.int ia), .val (.int ib), .val (.int ic), .val (.int id_), .val (.int iq), .val (.int j_s1), .val (.int j_s2), .val (.int j_s3), .val (.int j_t), .val (.ref b1), .val (.ref b18), .val (.ref b33), .val (.int (1 : Int32))] [(.int (1 : Int32))]))
    refine Go.by (fun t k => XS.istore X187.here hx rfl (hb hby at_589) rfl (l' := #[.val (.int ia), .val (.int ib), .val (.int ic), .val (.int id_), .val (.int iq), .val (.int j_s1), .val (.int j_s2), .val (.int j_s3), .val (.int j_t), .val (.ref b1), .val (.ref b18), .val (.ref b33), .val (.int (1 : Int32))]) rfl k) ?_
    show Go p e below _ (T187.setTop (mkF m 591 #[.val (.int ia), .val (.int ib), .val (.int ic), .val (.int id_), .val (.int iq), .val (.int j_s1), .val (.int j_s2), .val (.int j_s3), .val (.int j_t), .val (.ref b1), .val (.ref b18), .val (.ref b33), .val (.int (1 : Int32))] []))
    refine Go.by (fun t k => XS.iload X187.here hx rfl (hb hby at_591) rfl k) ?_
    show Go p e below _ (T187.setTop (mkF m 593 #[.val (.int ia), .val (.int ib), .val (.int ic), .val (.int id_), .val (.int iq), .val (.int j_s1), .val (.int j_s2), .val (.int j_s3), .val (.int j_t), .val (.ref b1), .val (.ref b18), .val (.ref b33), .val (.int (1 : Int32))] [(.int (1 : Int32))]))
    refine Go.by (fun t k => XS.ifNo X187.here hx rfl (hb hby at_593) rfl ((if0 _ _).trans (feq (by decide : ¬ ((1 : Int32) = (0 : Int32)))).1) k) ?_
    show Go p e below _ (T187.setTop (mkF m 596 #[.val (.int ia), .val (.int ib), .val (.int ic), .val (.int id_), .val (.int iq), .val (.int j_s1), .val (.int j_s2), .val (.int j_s3), .val (.int j_t), .val (.ref b1), .val (.ref b18), .val (.ref b33), .val (.int (1 : Int32))] []))
    refine Go.by (fun t k => XS.aload X187.here hx rfl (hb hby at_596) rfl rfl k) ?_
    show Go p e below _ (T187.setTop (mkF m 598 #[.val (.int ia), .val (.int ib), .val (.int ic), .val (.int id_), .val (.int iq), .val (.int j_s1), .val (.int j_s2), .val (.int j_s3), .val (.int j_t), .val (.ref b1), .val (.ref b18), .val (.ref b33), .val (.int (1 : Int32))] [(.ref b33)]))
    refine Go.by (fun t k => XS.iconst X187.here hx rfl (hb hby at_598) k) ?_
    show Go p e below _ (T187.setTop (mkF m 599 #[.val (.int ia), .val (.int ib), .val (.int ic), .val (.int id_), .val (.int iq), .val (.int j_s1), .val (.int j_s2), .val (.int j_s3), .val (.int j_t), .val (.ref b1), .val (.ref b18), .val (.ref b33), .val (.int (1 : Int32))] [(.int (1 : Int32)), (.ref b33)]))
    refine Go.by (fun t k => XS.iload X187.here hx rfl (hb hby at_599) rfl k) ?_
    show Go p e below _ (T187.setTop (mkF m 601 #[.val (.int ia), .val (.int ib), .val (.int ic), .val (.int id_), .val (.int iq), .val (.int j_s1), .val (.int j_s2), .val (.int j_s3), .val (.int j_t), .val (.ref b1), .val (.ref b18), .val (.ref b33), .val (.int (1 : Int32))] [(.int j_t), (.int (1 : Int32)), (.ref b33)]))
    obtain ⟨cq188, kq188, q188a, q188b, q188c⟩ := isOf hZ e187 F185
    obtain ⟨_, _, ⟨T188, L188, k188, n188⟩, -, X188, ⟨Lc188, hQ188, l188, y188, z188⟩, st188⟩ := X187.virtualBack hx (y := (⟨"com/example/wakepath/wakepath/automaton/NumberedStates", "number", "(II)I"⟩ : MethodName)) (z := (⟨"com/example/wakepath/wakepath/automaton/NumberedStates", "number", "(II)I"⟩ : MethodName)) hown (mvT hZ (hw _ (List.mem_of_getElem? (i := 32) rfl))) (mvT hZ (hw _ (List.mem_of_getElem? (i := 33) rfl))) (notFace_of_selects (args := #[]) (mvT hZ (hw _ (List.mem_of_getElem? (i := 35) rfl)))) (mvT hZ (hw _ (List.mem_of_getElem? (i := 35) rfl))) (mvT hZ (hw _ (List.mem_of_getElem? (i := 34) rfl))) (by decide) (backOf (W := 0) (number_1 l Z a0 hw [] b33 j_t bb_38 gg_38 b0_38 g0_38 b1_38 g1_38 kb_38 kg_38 (((j_t.toUInt32 >>> ((6 : Int32) &&& 31).toUInt32).toInt32) + (1 : Int32)) (own_addL (fun _ => (0 : Int64)) j_t) (own_addI (fun _ => (0 : Int64)) (fun _ => (0 : Int32)) j_t (iq + (3 : Int32))) T84.heap n0 F118 F94 F111 F96 F113 F105 F156 (own_int hs)) hZ (hw _ (List.mem_of_getElem? (i := 36) rfl)) (hw _ (List.mem_of_getElem? (i := 3) rfl)) (by decide) (by decide)) q188a q188c (g := (mkF m 601 #[.val (.int ia), .val (.int ib), .val (.int ic), .val (.int id_), .val (.int iq), .val (.int j_s1), .val (.int j_s2), .val (.int j_s3), .val (.int j_t), .val (.ref b1), .val (.ref b18), .val (.ref b33), .val (.int (1 : Int32))] [(.int j_t), (.int (1 : Int32)), (.ref b33)])) rfl (by rw [hml]; rfl) (Steps.refl _) (argsL := [(.int (1 : Int32)), (.int j_t)]) (rest := []) (lenOf pd_4 rfl) rfl (by show 2 * 0 + _ ≤ _; exact Nat.le_of_eq rfl) (hb hby at_601) (fun _ _ => ⟨rfl, e187, (by decide : 9 + 0 ≤ _), (by decide : 27 + 0 ≤ _)⟩)
    dsimp only [Pt.U, Pt.locs, Pt.cells, Pt.slots] at X188 l188 y188 z188 st188 hQ188
    subst l188 y188 z188
    obtain ⟨rfl, N188q, e188⟩ := hQ188
    have N188 := Fr.app N187 N188q
    refine Go.tr st188 ?_
    show Go p e below _ (T188.setTop (mkF m 604 #[.val (.int ia), .val (.int ib), .val (.int ic), .val (.int id_), .val (.int iq), .val (.int j_s1), .val (.int j_s2), .val (.int j_s3), .val (.int j_t), .val (.ref b1), .val (.ref b18), .val (.ref b33), .val (.int (1 : Int32))] [(.int (own_num (own_addL (fun _ => (0 : Int64)) j_t) (own_addI (fun _ => (0 : Int64)) (fun _ => (0 : Int32)) j_t (iq + (3 : Int32))) j_t))]))
    refine Go.by (fun t k => XS.iload X188.here hx rfl (hb hby at_604) rfl k) ?_
    show Go p e below _ (T188.setTop (mkF m 606 #[.val (.int ia), .val (.int ib), .val (.int ic), .val (.int id_), .val (.int iq), .val (.int j_s1), .val (.int j_s2), .val (.int j_s3), .val (.int j_t), .val (.ref b1), .val (.ref b18), .val (.ref b33), .val (.int (1 : Int32))] [(.int iq), (.int (own_num (own_addL (fun _ => (0 : Int64)) j_t) (own_addI (fun _ => (0 : Int64)) (fun _ => (0 : Int32)) j_t (iq + (3 : Int32))) j_t))]))
    refine Go.by (fun t k => XS.iconst X188.here hx rfl (hb hby at_606) k) ?_
    show Go p e below _ (T188.setTop (mkF m 607 #[.val (.int ia), .val (.int ib), .val (.int ic), .val (.int id_), .val (.int iq), .val (.int j_s1), .val (.int j_s2), .val (.int j_s3), .val (.int j_t), .val (.ref b1), .val (.ref b18), .val (.ref b33), .val (.int (1 : Int32))] [(.int (3 : Int32)), (.int iq), (.int (own_num (own_addL (fun _ => (0 : Int64)) j_t) (own_addI (fun _ => (0 : Int64)) (fun _ => (0 : Int32)) j_t (iq + (3 : Int32))) j_t))]))
    refine Go.by (fun t k => XS.iadd X188.here hx rfl (hb hby at_607) rfl k) ?_
    show Go p e below _ (T188.setTop (mkF m 608 #[.val (.int ia), .val (.int ib), .val (.int ic), .val (.int id_), .val (.int iq), .val (.int j_s1), .val (.int j_s2), .val (.int j_s3), .val (.int j_t), .val (.ref b1), .val (.ref b18), .val (.ref b33), .val (.int (1 : Int32))] [(.int (iq + (3 : Int32))), (.int (own_num (own_addL (fun _ => (0 : Int64)) j_t) (own_addI (fun _ => (0 : Int64)) (fun _ => (0 : Int32)) j_t (iq + (3 : Int32))) j_t))]))
    refine Go.by (fun t k => XS.icmpNo X188.here hx rfl (hb hby at_608) rfl (teq (own_numt hs _)).2 k) ?_
    show Go p e below _ (T188.setTop (mkF m 611 #[.val (.int ia), .val (.int ib), .val (.int ic), .val (.int id_), .val (.int iq), .val (.int j_s1), .val (.int j_s2), .val (.int j_s3), .val (.int j_t), .val (.ref b1), .val (.ref b18), .val (.ref b33), .val (.int (1 : Int32))] []))
    refine Go.by (fun t k => XS.iconst X188.here hx rfl (hb hby at_611) k) ?_
    show Go p e below _ (T188.setTop (mkF m 612 #[.val (.int ia), .val (.int ib), .val (.int ic), .val (.int id_), .val (.int iq), .val (.int j_s1), .val (.int j_s2), .val (.int j_s3), .val (.int j_t), .val (.ref b1), .val (.ref b18), .val (.ref b33), .val (.int (1 : Int32))] [(.int (1 : Int32))]))
    refine Go.by (fun t k => XS.goto X188.here hx rfl (pc0 := 612) (pc' := 616) rfl (hb hby at_612) (by decide) (by decide) k) ?_
    show Go p e below _ (T188.setTop (mkF m 616 #[.val (.int ia), .val (.int ib), .val (.int ic), .val (.int id_), .val (.int iq), .val (.int j_s1), .val (.int j_s2), .val (.int j_s3), .val (.int j_t), .val (.ref b1), .val (.ref b18), .val (.ref b33), .val (.int (1 : Int32))] [(.int (1 : Int32))]))
    refine Go.by (fun t k => XS.istore X188.here hx rfl (hb hby at_616) rfl (l' := #[.val (.int ia), .val (.int ib), .val (.int ic), .val (.int id_), .val (.int iq), .val (.int j_s1), .val (.int j_s2), .val (.int j_s3), .val (.int j_t), .val (.ref b1), .val (.ref b18), .val (.ref b33), .val (.int (1 : Int32))]) rfl k) ?_
    show Go p e below _ (T188.setTop (mkF m 618 #[.val (.int ia), .val (.int ib), .val (.int ic), .val (.int id_), .val (.int iq), .val (.int j_s1), .val (.int j_s2), .val (.int j_s3), .val (.int j_t), .val (.ref b1), .val (.ref b18), .val (.ref b33), .val (.int (1 : Int32))] []))
    refine Go.by (fun t k => XS.iload X188.here hx rfl (hb hby at_618) rfl k) ?_
    show Go p e below _ (T188.setTop (mkF m 620 #[.val (.int ia), .val (.int ib), .val (.int ic), .val (.int id_), .val (.int iq), .val (.int j_s1), .val (.int j_s2), .val (.int j_s3), .val (.int j_t), .val (.ref b1), .val (.ref b18), .val (.ref b33), .val (.int (1 : Int32))] [(.int (1 : Int32))]))
    have hq : Q_law Z ia ib ic id_ iq h0 n0 (some (.int (nar .boolean (1 : Int32)))) T84.heap _ := ⟨rfl, N188, F119⟩
    exact Go.retN X188 hx (t := .boolean) Bd.returns (by simp) hlk (hb hby at_620) (by decide) (by decide) (by rw [e188]; exact hq)
  exact J35 _ _ _ _ (own_hyp_of _ _ _ _)
set_option maxRecDepth 65536 in
set_option maxHeartbeats 40000000 in
theorem comes_1 {Post : Tables → Env → Array Value → State → Outcome → State → Prop} (hpost : ∀ tb e args s v u, (limb_1_1.after args s (.returned v) u = true ∧ limb_1_2.after args s (.returned v) u = true ∧ True) → FrameEnd s (.returned v) u (Jvm.fieldLocs frame_1_writes args s ++ Jvm.arrayLocs frame_1_arrays args s ++ Jvm.staticLocs frame_1_statics s) 32 128 → Post tb e args s (.returned v) u) :
    ArmFor flags0 classFile x code maxLocals ret World_1 tables_1 room_1 Calls_1 rest_1 Pre_1 Post := by
  intro l hfl _ _ p e ha hc hk s m args below hf hA hF happ hP
  obtain ⟨hcalls, hrest, hpre⟩ := hP
  obtain ⟨-, -, -, hnamed, -, -, -, hat⟩ := (Spec.applies_iff hf).mp happ
  obtain ⟨hg, hn⟩ := and_e (Cond.before_iff.mp (show (Jvm.Cond.and given_1 narrow_1).before args s = true from hpre))
  obtain ⟨hcnt, hr1⟩ := and_e hg
  obtain ⟨hv0, hr2⟩ := and_e hr1
  obtain ⟨hv1, hr3⟩ := and_e hr2
  obtain ⟨hv2, hr4⟩ := and_e hr3
  obtain ⟨hv3, hv4⟩ := and_e hr4
  obtain ⟨w0, w1, w2, w3, w4, rfl⟩ : ∃ w0 w1 w2 w3 w4 : Value, args = #[w0, w1, w2, w3, w4] := by
    have hs : args.size = 5 := by simpa [Cond.value, given_1] using hcnt
    obtain ⟨L⟩ := args
    match L, hs with
    | [w0, w1, w2, w3, w4], _ => exact ⟨w0, w1, w2, w3, w4, rfl⟩
  have hw := fun d (hd : d ∈ tables_1) => atoms_spec (ws := Jvm.Cond.code x code maxLocals ret :: tables_1) hat d (List.mem_cons_of_mem _ hd)
  have hfit : Fit s := fun {y c} hc i hi => by
    obtain ⟨ha, rfl⟩ := Array.getElem?_eq_some_iff.mp hc
    have q := List.all_eq_true.mp ((Array.all_eq_true_iff_forall_mem.mp hF) _ (Array.getElem_mem ha)) i (List.mem_range.mpr hi)
    simpa [Array.getElem?_eq_getElem hi] using q
  obtain ⟨i0, ei0⟩ := is_v hv0
  obtain rfl : w0 = (.int i0) := Option.some.inj ei0
  obtain ⟨i1, ei1⟩ := is_v hv1
  obtain rfl : w1 = (.int i1) := Option.some.inj ei1
  obtain ⟨i2, ei2⟩ := is_v hv2
  obtain rfl : w2 = (.int i2) := Option.some.inj ei2
  obtain ⟨i3, ei3⟩ := is_v hv3
  obtain rfl : w3 = (.int i3) := Option.some.inj ei3
  obtain ⟨i4, ei4⟩ := is_v hv4
  obtain rfl : w4 = (.int i4) := Option.some.inj ei4
  obtain ⟨n, o, h1, h2, h3, _, L, rfl, ⟨rfl, N, -⟩, hq⟩ := law l s _ hw tables_1 i0 i1 i2 i3 i4  s.heap s.heap.size (Old.start s)  p e ha hc hk s m _ below hf ((Spec.applies_iff_loose hf).mp happ).1 ⟨rfl, State.Warmed39.refl s, rfl⟩ trivial
  refine ⟨n, _, h1, h2, h3, hpost _ _ _ _ _ _ ⟨Cond.after_iff.mpr rfl, Cond.after_iff.mpr (eq_i res_at (Term.int_eval (1)) rfl), trivial⟩ ⟨hq.1, hq.2.1, (hq.2.2.sift fun y hy => Or.inr (N y hy)).mono (by decide) (by decide)⟩⟩
theorem main_1_1 : Claimed_1_1 := comes_1 fun _ _ _ _ _ _ h hF => ⟨h.1, hF⟩
theorem main_1_2 : Claimed_1_2 := comes_1 fun _ _ _ _ _ _ h hF => ⟨h.2.1, hF⟩
end Jvm.Pilot.@@N@@
namespace Jvm.Pilot.@@N@@
open Jvm Jvm.ClassFile Sem Op Lib Jvm.Free Jvm.Stand Jvm.Pilot.@@N@@.Jvm.D
/-! MADE BY PROGRAM (witnessworld.py) out of the Statement's table words and the real class files: 16 classes; the members and pool entries that the words name. The judged class is class 1, her method 1. -/
namespace start1
open Jvm.ClassFile
def u (s : String) : CpInfo := .utf8 (stringToUtf16 s)
/-- a pool by its gaps: so many unusable entries, then the entry; so many at the end -/
def gap : Nat → List CpInfo → List CpInfo
  | 0, r => r
  | n + 1, r => .unusable :: gap n r
def poolList (es : List (Nat × CpInfo)) (last : Nat) : List CpInfo := es.foldr (fun e r => gap e.1 (e.2 :: r)) (gap last [])
def pool (es : List (Nat × CpInfo)) (last : Nat) : Array CpInfo := ⟨poolList es last⟩
def fileOf (pool : Array CpInfo) (this : Nat) (attrs : Array Attribute := #[]) (ms : Array MethodInfo := #[]) (fl : Nat := 33) (sup : Nat := 0) (ifs : Array Nat := #[]) (fds : Array FieldInfo := #[]) : ClassFile where
  minorVersion := 0
  majorVersion := 65
  constantPool := pool
  accessFlags := fl
  thisClass := this
  superClass := sup
  interfaces := ifs
  fields := fds
  methods := ms
  attributes := attrs
def plain (name : String) (sup : Option ClassId) : Class where
  name := name
  kind := .ordinary
  loader := none
  accessFlags := 33
  super := sup
  interfaces := #[]
  cf := none
  fields := #[]
  methods := #[]
  instanceTypes := #[]
  staticTypes := #[]
  resolved := #[]
  callSites := []
  init := .initialized
  statics := none
  mirror := none

def pool0 : Array CpInfo := pool [(5, u "<init>"), (0, u "()V"), (1, .class_ 10), (1, u "java/lang/Object")] 113

def k0c0 : Code := { maxStack := 0, maxLocals := 1, code := object_method_1_code, exceptionTable := #[], attributes := #[] }
def k0m0 : Method := { name := "<init>", desc := "()V", sig := { parameters := [], returnType := none }, accessFlags := 1, code := some k0c0 }
/-- java/lang/Object -/
def k0 : Class := { plain "java/lang/Object" none with
  accessFlags := 33
  interfaces := #[]
  cf := some (fileOf pool0 8 #[] #[{ accessFlags := 1, nameIndex := 5, descriptorIndex := 6, attributes := #[] }] 33 0 #[] #[])
  fields := #[]
  methods := #[k0m0]
  instanceTypes := #[]
  staticTypes := #[]
  resolved := Array.replicate 124 none
  statics := none }

def pool1 : Array CpInfo := pool [(2, .class_ 4), (1, u "java/lang/Object"), (0, u "<init>"), (0, u "()V"), (0, .class_ 8), (0, u "com/example/wakepath/wakepath/automaton/NumberedStates"), (0, .methodref 7 10), (0, .nameAndType 5 11), (0, u "([I[I)V"), (0, .methodref 7 13), (0, .nameAndType 14 15), (0, u "add"), (0, u "(III)V"), (0, .fieldref 7 17), (0, .nameAndType 18 19), (0, u "bits"), (0, u "[[J"), (0, .fieldref 7 21), (0, .nameAndType 22 23), (0, u "firstNumber"), (0, u "[[I"), (0, .methodref 25 26), (0, .class_ 27), (0, .nameAndType 28 29), (0, u "com/example/wakepath/wakepath/automaton/NumberedStatesAddPinLaw"), (0, u "wordOk"), (0, u "([J[IIIIII)Z"), (0, .methodref 7 31), (0, .nameAndType 32 33), (0, u "number"), (0, u "(II)I"), (2, u "law"), (0, u "(IIIII)Z")] 5

def k1m0 : Method := { name := "<init>", desc := "()V", sig := { parameters := [], returnType := none }, accessFlags := 1, code := none }
def k1c1 : Code := { maxStack := 8, maxLocals := 13, code := code, exceptionTable := #[], attributes := #[] }
def k1m1 : Method := { name := "law", desc := "(IIIII)Z", sig := { parameters := [.int, .int, .int, .int, .int], returnType := some .boolean }, accessFlags := 9, code := some k1c1 }
def k1c2 : Code := { maxStack := 5, maxLocals := 10, code := method_3_code, exceptionTable := #[], attributes := #[] }
def k1m2 : Method := { name := "wordOk", desc := "([J[IIIIII)Z", sig := { parameters := [(.array .long), (.array .int), .int, .int, .int, .int, .int], returnType := some .boolean }, accessFlags := 10, code := some k1c2 }
/-- com/example/wakepath/wakepath/automaton/NumberedStatesAddPinLaw -/
def k1 : Class := { plain "com/example/wakepath/wakepath/automaton/NumberedStatesAddPinLaw" (some 0) with
  accessFlags := 49
  interfaces := #[]
  cf := some (fileOf pool1 25 #[] #[{ accessFlags := 1, nameIndex := 5, descriptorIndex := 6, attributes := #[] }, { accessFlags := 9, nameIndex := 36, descriptorIndex := 37, attributes := #[] }, { accessFlags := 10, nameIndex := 28, descriptorIndex := 29, attributes := #[] }] 49 2 #[] #[])
  fields := #[]
  methods := #[k1m0, k1m1, k1m2]
  instanceTypes := #[]
  staticTypes := #[]
  resolved := Array.replicate 43 none
  statics := none }

def pool2 : Array CpInfo := pool [(1, .methodref 2 3), (0, .class_ 4), (0, .nameAndType 5 6), (0, u "java/lang/Object"), (0, u "<init>"), (0, u "()V"), (0, .class_ 8), (0, u "[J"), (0, .fieldref 10 11), (0, .class_ 12), (0, .nameAndType 13 14), (0, u "com/example/wakepath/wakepath/automaton/NumberedStates"), (0, u "bits"), (0, u "[[J"), (0, .class_ 16), (0, u "[I"), (0, .fieldref 10 18), (0, .nameAndType 19 20), (0, u "firstNumber"), (0, u "[[I"), (0, .methodref 22 23), (0, .class_ 24), (0, .nameAndType 25 26), (0, u "java/lang/Long"), (0, u "bitCount"), (0, u "(J)I"), (0, u "([I[I)V"), (3, u "add"), (0, u "(III)V"), (0, u "number"), (0, u "(II)I")] 2

def k2c0 : Code := { maxStack := 3, maxLocals := 6, code := prog_15_method_1_code, exceptionTable := #[], attributes := #[] }
def k2m0 : Method := { name := "<init>", desc := "([I[I)V", sig := { parameters := [(.array .int), (.array .int)], returnType := none }, accessFlags := 0, code := some k2c0 }
def k2c1 : Code := { maxStack := 7, maxLocals := 5, code := prog_15_method_2_code, exceptionTable := #[], attributes := #[] }
def k2m1 : Method := { name := "add", desc := "(III)V", sig := { parameters := [.int, .int, .int], returnType := none }, accessFlags := 0, code := some k2c1 }
def k2c2 : Code := { maxStack := 7, maxLocals := 4, code := prog_15_method_3_code, exceptionTable := #[], attributes := #[] }
def k2m2 : Method := { name := "number", desc := "(II)I", sig := { parameters := [.int, .int], returnType := some .int }, accessFlags := 0, code := some k2c2 }
/-- com/example/wakepath/wakepath/automaton/NumberedStates -/
def k2 : Class := { plain "com/example/wakepath/wakepath/automaton/NumberedStates" (some 0) with
  accessFlags := 48
  interfaces := #[]
  cf := some (fileOf pool2 10 #[] #[{ accessFlags := 0, nameIndex := 5, descriptorIndex := 27, attributes := #[] }, { accessFlags := 0, nameIndex := 31, descriptorIndex := 32, attributes := #[] }, { accessFlags := 0, nameIndex := 33, descriptorIndex := 34, attributes := #[] }] 48 2 #[] #[{ accessFlags := 16, nameIndex := 13, descriptorIndex := 14, attributes := #[] }, { accessFlags := 16, nameIndex := 19, descriptorIndex := 20, attributes := #[] }])
  fields := #[{ name := "bits", type := (.array (.array .long)), accessFlags := 16, slot := 0, constantValue := 0 }, { name := "firstNumber", type := (.array (.array .int)), accessFlags := 16, slot := 1, constantValue := 0 }]
  methods := #[k2m0, k2m1, k2m2]
  instanceTypes := #[(.array (.array .long)), (.array (.array .int))]
  staticTypes := #[]
  resolved := Array.replicate 37 none
  statics := none }

def pool3 : Array CpInfo := pool [(1, .class_ 2), (0, u "java/io/Serializable"), (0, .class_ 4), (0, u "java/lang/Object")] 2

/-- java/io/Serializable -/
def k3 : Class := { plain "java/io/Serializable" (some 0) with
  accessFlags := 1537
  interfaces := #[]
  cf := some (fileOf pool3 1 #[] #[] 1537 3 #[] #[])
  fields := #[]
  methods := #[]
  instanceTypes := #[]
  staticTypes := #[]
  resolved := Array.replicate 7 none
  statics := none }

def pool4 : Array CpInfo := pool [(2, .class_ 4), (1, u "java/lang/Object"), (0, u "<init>"), (0, u "()V"), (1, .class_ 10), (1, u "java/lang/Number"), (2, .class_ 14), (0, u "java/io/Serializable"), (0, u "serialVersionUID"), (0, u "J")] 20

def k4m0 : Method := { name := "<init>", desc := "()V", sig := { parameters := [], returnType := none }, accessFlags := 1, code := none }
/-- java/lang/Number -/
def k4 : Class := { plain "java/lang/Number" (some 0) with
  accessFlags := 1057
  interfaces := #[3]
  cf := some (fileOf pool4 8 #[] #[{ accessFlags := 1, nameIndex := 5, descriptorIndex := 6, attributes := #[] }] 1057 2 #[13] #[{ accessFlags := 26, nameIndex := 15, descriptorIndex := 16, attributes := #[] }])
  fields := #[{ name := "serialVersionUID", type := .long, accessFlags := 26, slot := 0, constantValue := 0 }]
  methods := #[k4m0]
  instanceTypes := #[]
  staticTypes := #[.long]
  resolved := Array.replicate 37 none
  statics := none }

def pool5 : Array CpInfo := pool [(1, .class_ 2), (0, u "java/lang/Comparable"), (0, .class_ 4), (0, u "java/lang/Object")] 7

/-- java/lang/Comparable -/
def k5 : Class := { plain "java/lang/Comparable" (some 0) with
  accessFlags := 1537
  interfaces := #[]
  cf := some (fileOf pool5 1 #[] #[] 1537 3 #[] #[])
  fields := #[]
  methods := #[]
  instanceTypes := #[]
  staticTypes := #[]
  resolved := Array.replicate 12 none
  statics := none }

def pool6 : Array CpInfo := pool [(1, .class_ 2), (0, u "java/lang/constant/Constable"), (0, .class_ 4), (0, u "java/lang/Object")] 6

/-- java/lang/constant/Constable -/
def k6 : Class := { plain "java/lang/constant/Constable" (some 0) with
  accessFlags := 1537
  interfaces := #[]
  cf := some (fileOf pool6 1 #[] #[] 1537 3 #[] #[])
  fields := #[]
  methods := #[]
  instanceTypes := #[]
  staticTypes := #[]
  resolved := Array.replicate 11 none
  statics := none }

def pool7 : Array CpInfo := pool [(1, .class_ 2), (0, u "java/lang/constant/ConstantDesc"), (0, .class_ 4), (0, u "java/lang/Object")] 32

/-- java/lang/constant/ConstantDesc -/
def k7 : Class := { plain "java/lang/constant/ConstantDesc" (some 0) with
  accessFlags := 1537
  interfaces := #[]
  cf := some (fileOf pool7 1 #[] #[] 1537 3 #[] #[])
  fields := #[]
  methods := #[]
  instanceTypes := #[]
  staticTypes := #[]
  resolved := Array.replicate 37 none
  statics := none }

def pool8 : Array CpInfo := pool [(1, .class_ 2), (0, u "java/lang/Long"), (98, u "(J)I"), (133, .class_ 237), (1, u "java/lang/Long$LongCache"), (33, .class_ 272), (0, u "java/lang/Number"), (2, u "value"), (0, u "J"), (37, .long 6148914691236517205), (1, .long 3689348814741910323), (1, .long 1085102592571150095), (42, u "TYPE"), (0, u "Ljava/lang/Class;"), (0, .class_ 364), (0, u "java/lang/Comparable"), (0, .class_ 366), (0, u "java/lang/constant/Constable"), (0, .class_ 368), (0, u "java/lang/constant/ConstantDesc"), (0, u "MIN_VALUE"), (1, u "MAX_VALUE"), (4, u "SIZE"), (0, u "I"), (1, u "BYTES"), (1, u "serialVersionUID"), (94, u "bitCount")] 47

def k8c0 : Code := { maxStack := 6, maxLocals := 2, code := jdk_35_method_50_code, exceptionTable := #[], attributes := #[] }
def k8m0 : Method := { name := "bitCount", desc := "(J)I", sig := { parameters := [.long], returnType := some .int }, accessFlags := 9, code := some k8c0 }
/-- java/lang/Long -/
def k8 : Class := { plain "java/lang/Long" (some 4) with
  accessFlags := 49
  interfaces := #[5, 6, 7]
  cf := some (fileOf pool8 1 #[.nestMembers #[235]] #[{ accessFlags := 9, nameIndex := 476, descriptorIndex := 101, attributes := #[] }] 49 271 #[363, 365, 367] #[{ accessFlags := 25, nameIndex := 369, descriptorIndex := 276, attributes := #[] }, { accessFlags := 25, nameIndex := 371, descriptorIndex := 276, attributes := #[] }, { accessFlags := 25, nameIndex := 361, descriptorIndex := 362, attributes := #[] }, { accessFlags := 18, nameIndex := 275, descriptorIndex := 276, attributes := #[] }, { accessFlags := 25, nameIndex := 376, descriptorIndex := 377, attributes := #[] }, { accessFlags := 25, nameIndex := 379, descriptorIndex := 377, attributes := #[] }, { accessFlags := 26, nameIndex := 381, descriptorIndex := 276, attributes := #[] }])
  fields := #[{ name := "MIN_VALUE", type := .long, accessFlags := 25, slot := 0, constantValue := 0 }, { name := "MAX_VALUE", type := .long, accessFlags := 25, slot := 1, constantValue := 0 }, { name := "TYPE", type := (.object "java/lang/Class"), accessFlags := 25, slot := 2, constantValue := 0 }, { name := "value", type := .long, accessFlags := 18, slot := 0, constantValue := 0 }, { name := "SIZE", type := .int, accessFlags := 25, slot := 3, constantValue := 0 }, { name := "BYTES", type := .int, accessFlags := 25, slot := 4, constantValue := 0 }, { name := "serialVersionUID", type := .long, accessFlags := 26, slot := 5, constantValue := 0 }]
  methods := #[k8m0]
  instanceTypes := #[.long]
  staticTypes := #[.long, .long, (.object "java/lang/Class"), .int, .int, .long]
  resolved := Array.replicate 524 none
  statics := none }

def pool9 : Array CpInfo := pool [(1, u "java/lang/Cloneable"), (0, .class_ 1), (0, u "java/lang/Object"), (0, .class_ 3)] 3

/-- java/lang/Cloneable -/
def k9 : Class := { plain "java/lang/Cloneable" (some 0) with
  accessFlags := 1537
  interfaces := #[]
  cf := some (fileOf pool9 2 #[] #[] 1537 4 #[] #[])
  fields := #[]
  methods := #[]
  instanceTypes := #[]
  staticTypes := #[]
  resolved := Array.replicate 8 none
  statics := none }

/-- the primitive byte -/
def k10 : Class := { plain "byte" none with kind := .primitive 'B', accessFlags := 0x411 }
/-- [B -/
def k11 : Class := { plain "[B" (some 0) with kind := .array 10 .byte, interfaces := #[9, 3], accessFlags := 1041 }

/-- the primitive int -/
def k12 : Class := { plain "int" none with kind := .primitive 'I', accessFlags := 0x411 }
/-- [I -/
def k13 : Class := { plain "[I" (some 0) with kind := .array 12 .int, interfaces := #[9, 3], accessFlags := 1041 }

/-- the primitive long -/
def k14 : Class := { plain "long" none with kind := .primitive 'J', accessFlags := 0x411 }
/-- [J -/
def k15 : Class := { plain "[J" (some 0) with kind := .array 14 .long, interfaces := #[9, 3], accessFlags := 1041 }

def k16 : Class := { plain "[[J" (some 0) with kind := .array 15 (.array .long), interfaces := #[9, 3], accessFlags := 1041 }
def k17 : Class := { plain "[[I" (some 0) with kind := .array 13 (.array .int), interfaces := #[9, 3], accessFlags := 1041 }
def heap : Heap := #[]
def classes : Array Class := #[k0, k1, k2, k3, k4, k5, k6, k7, k8, k9, k10, k11, k12, k13, k14, k15, k16, k17]
def interned : List (Array UInt16 × Addr) := []
def slotsUsed : Nat := 0
def theMethod : MethodId := ⟨1, 1⟩
def args0 : Array Value := #[.int 5, .int 6, .int 7, .int 8, .int 9]
def aboutOver (below : List Frame) : State where
  vm := { classes := classes, interned := interned.toArray }
  heap := heap
  slotsUsed := slotsUsed
  threads := #[{ frames := .invoking theMethod args0 :: below }]
def below0 : List Frame := [.native { method := ⟨0, 0⟩, args := #[] }]
def about1 : State := aboutOver below0
def p0 : Program := .bare "" "" ""
def e0 : Env := launch0.env 0 0 0
theorem w_frames : about1.frames = Frame.invoking theMethod args0 :: below0 := rfl
set_option maxRecDepth 65536 in
theorem w_args : argsFit about1.vm theMethod args0 = true := by decide +kernel
set_option maxRecDepth 65536 in
theorem w_heap : heapFits about1 = true := by decide +kernel
set_option maxRecDepth 65536 in
theorem w_runnable : about1.curStatus? = some .runnable := by decide +kernel
set_option maxRecDepth 65536 in
theorem w_alone : about1.alone = true := by decide +kernel
set_option maxRecDepth 65536 in
theorem w_named : about1.methodNamed? x = some theMethod := by decide +kernel
set_option maxRecDepth 65536 in
theorem w_hears : about1.hears theMethod below0 = true := by decide +kernel
set_option maxRecDepth 65536 in
theorem w_ripe : about1.ripe theMethod args0 below0 = true := by decide +kernel
theorem w_running : about1.status = .running := rfl
set_option maxRecDepth 65536 in
theorem w_room : about1.hasRoom e0.platform room_1 = true :=
  launch0.hasRoom_least _ room_1 (by decide +kernel) (by decide +kernel) (by decide +kernel) (by decide +kernel) (by decide +kernel) (by decide +kernel)
theorem allAtoms_all (ts : List Jvm.Cond) (a : Array Jvm.Value) (st : Jvm.State) : (allAtoms ts).before a st = ts.all (fun c => c.before a st) := by
  induction ts with
  | nil => rfl
  | cons c t ih =>
    show (Jvm.Cond.and c (allAtoms t)).before a st = _
    rw [Jvm.Cond.before_and, ih, List.all_cons]
def words1 : List Jvm.Cond := Jvm.Cond.code x code maxLocals ret :: tables_1
/-- a 'code' word, met by the world's own term for the bytes: nothing is compared byte by byte -/
theorem code_word {y : MethodName} {bytes : ByteArray} {mx : Nat} {rt : Option FieldType} {a : Array Value} {s : State} {m : MethodId} {meth : Method} {c : Code} (h1 : s.methodNamed? y = some m) (h2 : s.vm.method? m = some meth) (h3 : meth.code = some c) (h4 : c.code = bytes)
    (h5 : (c.maxLocals == mx && c.exceptionTable.isEmpty && decide (c.maxStack ≤ mostOperands) && decide (meth.sig.returnType = rt) && !meth.locks && decide (parseMethodDescriptor y.desc = some meth.sig)) = true) : (Jvm.Cond.code y bytes mx rt).before a s = true := by
  simp only [Bool.and_eq_true, beq_iff_eq, Bool.not_eq_true', decide_eq_true_eq] at h5
  obtain ⟨⟨⟨⟨⟨g1, g2⟩, g3⟩, g4⟩, g5⟩, g6⟩ := h5
  simp [Cond.before, Cond.holds, Cond.value, h1, h2, h3, h4, g1, g2, g3, g4, g5, g6]
def isCode : Jvm.Cond → Bool
  | .code _ _ _ _ => true
  | _ => false
theorem all_split {L : List Jvm.Cond} {P : Jvm.Cond → Bool} (h1 : L.all (fun c => isCode c || P c) = true) (h2 : ∀ c ∈ L.filter isCode, P c = true) : L.all P = true := by
  refine List.all_eq_true.mpr fun c hc => ?_
  have h := List.all_eq_true.mp h1 c hc
  rcases Bool.eq_false_or_eq_true (isCode c) with hi | hi
  · exact h2 c (List.mem_filter.mpr ⟨hc, hi⟩)
  · simpa [hi] using h
set_option maxRecDepth 65536 in
theorem w_c0 : (Jvm.Cond.code x code maxLocals ret).before args0 about1 = true := code_word (m := ⟨1, 1⟩) (meth := k1m1) (c := k1c1) (by decide +kernel) rfl rfl rfl (by decide +kernel)
set_option maxRecDepth 65536 in
theorem w_c1 : (Jvm.Cond.code ({ cls := "com/example/wakepath/wakepath/automaton/NumberedStates", name := "<init>", desc := "([I[I)V" } : Jvm.MethodName) prog_15_method_1_code (6 : Nat) (Option.none : Option Jvm.ClassFile.FieldType)).before args0 about1 = true := code_word (m := ⟨2, 0⟩) (meth := k2m0) (c := k2c0) (by decide +kernel) rfl rfl rfl (by decide +kernel)
set_option maxRecDepth 65536 in
theorem w_c2 : (Jvm.Cond.code ({ cls := "java/lang/Object", name := "<init>", desc := "()V" } : Jvm.MethodName) object_method_1_code (1 : Nat) (Option.none : Option Jvm.ClassFile.FieldType)).before args0 about1 = true := code_word (m := ⟨0, 0⟩) (meth := k0m0) (c := k0c0) (by decide +kernel) rfl rfl rfl (by decide +kernel)
set_option maxRecDepth 65536 in
theorem w_c3 : (Jvm.Cond.code ({ cls := "com/example/wakepath/wakepath/automaton/NumberedStates", name := "add", desc := "(III)V" } : Jvm.MethodName) prog_15_method_2_code (5 : Nat) (Option.none : Option Jvm.ClassFile.FieldType)).before args0 about1 = true := code_word (m := ⟨2, 1⟩) (meth := k2m1) (c := k2c1) (by decide +kernel) rfl rfl rfl (by decide +kernel)
set_option maxRecDepth 65536 in
theorem w_c4 : (Jvm.Cond.code ({ cls := "com/example/wakepath/wakepath/automaton/NumberedStatesAddPinLaw", name := "wordOk", desc := "([J[IIIIII)Z" } : Jvm.MethodName) method_3_code (10 : Nat) (Option.some Jvm.ClassFile.FieldType.boolean)).before args0 about1 = true := code_word (m := ⟨1, 2⟩) (meth := k1m2) (c := k1c2) (by decide +kernel) rfl rfl rfl (by decide +kernel)
set_option maxRecDepth 65536 in
theorem w_c5 : (Jvm.Cond.code ({ cls := "com/example/wakepath/wakepath/automaton/NumberedStates", name := "number", desc := "(II)I" } : Jvm.MethodName) prog_15_method_3_code (4 : Nat) (Option.some Jvm.ClassFile.FieldType.int)).before args0 about1 = true := code_word (m := ⟨2, 2⟩) (meth := k2m2) (c := k2c2) (by decide +kernel) rfl rfl rfl (by decide +kernel)
set_option maxRecDepth 65536 in
theorem w_c6 : (Jvm.Cond.code ({ cls := "java/lang/Long", name := "bitCount", desc := "(J)I" } : Jvm.MethodName) jdk_35_method_50_code (2 : Nat) (Option.some Jvm.ClassFile.FieldType.int)).before args0 about1 = true := code_word (m := ⟨8, 0⟩) (meth := k8m0) (c := k8c0) (by decide +kernel) rfl rfl rfl (by decide +kernel)
def codes1 : List Jvm.Cond := [Jvm.Cond.code x code maxLocals ret, Jvm.Cond.code ({ cls := "com/example/wakepath/wakepath/automaton/NumberedStates", name := "<init>", desc := "([I[I)V" } : Jvm.MethodName) prog_15_method_1_code (6 : Nat) (Option.none : Option Jvm.ClassFile.FieldType), Jvm.Cond.code ({ cls := "java/lang/Object", name := "<init>", desc := "()V" } : Jvm.MethodName) object_method_1_code (1 : Nat) (Option.none : Option Jvm.ClassFile.FieldType), Jvm.Cond.code ({ cls := "com/example/wakepath/wakepath/automaton/NumberedStates", name := "add", desc := "(III)V" } : Jvm.MethodName) prog_15_method_2_code (5 : Nat) (Option.none : Option Jvm.ClassFile.FieldType), Jvm.Cond.code ({ cls := "com/example/wakepath/wakepath/automaton/NumberedStatesAddPinLaw", name := "wordOk", desc := "([J[IIIIII)Z" } : Jvm.MethodName) method_3_code (10 : Nat) (Option.some Jvm.ClassFile.FieldType.boolean), Jvm.Cond.code ({ cls := "com/example/wakepath/wakepath/automaton/NumberedStates", name := "number", desc := "(II)I" } : Jvm.MethodName) prog_15_method_3_code (4 : Nat) (Option.some Jvm.ClassFile.FieldType.int), Jvm.Cond.code ({ cls := "java/lang/Long", name := "bitCount", desc := "(J)I" } : Jvm.MethodName) jdk_35_method_50_code (2 : Nat) (Option.some Jvm.ClassFile.FieldType.int)]
set_option maxRecDepth 65536 in
theorem codes_eq : words1.filter isCode = codes1 := rfl
theorem w_codes : ∀ c ∈ words1.filter isCode, c.before args0 about1 = true := by
  rw [codes_eq]
  intro c hc
  simp only [codes1, List.mem_cons, List.not_mem_nil, or_false] at hc
  rcases hc with rfl | rfl | rfl | rfl | rfl | rfl | rfl
  · exact w_c0
  · exact w_c1
  · exact w_c2
  · exact w_c3
  · exact w_c4
  · exact w_c5
  · exact w_c6
set_option maxRecDepth 65536 in
theorem w_t1 : (words1.take 24).all (fun c => isCode c || c.before args0 about1) = true := by decide +kernel
set_option maxRecDepth 65536 in
theorem w_t2 : (words1.drop 24).all (fun c => isCode c || c.before args0 about1) = true := by decide +kernel
theorem w_tables : (allAtoms (Jvm.Cond.code x code maxLocals ret :: tables_1)).before args0 about1 = true := by
  rw [allAtoms_all]
  show words1.all (fun c => c.before args0 about1) = true
  refine all_split ?_ w_codes
  rw [← List.take_append_drop 24 words1, List.all_append, w_t1, w_t2]
  rfl
set_option maxRecDepth 65536 in
theorem w_case : (Jvm.Cond.and given_1 narrow_1).before args0 about1 = true := by decide +kernel
theorem w_applies : (headSpec (Jvm.Cond.code x code maxLocals ret :: tables_1) room_1).applies x e0.platform about1 = true :=
  (Spec.applies_iff w_frames).mpr ⟨w_running, w_runnable, w_alone, w_named, w_hears, w_ripe, w_room, w_tables⟩
theorem atStart : AtStart classFile x code maxLocals ret World_1 tables_1 room_1 Calls_1 rest_1 Pre_1 launch0 p0 e0 about1 theMethod args0 below0 :=
  ⟨lists_1, trivial, launch0.admits_env _ _ _, launch0.least_env, fairChoices_fair.cas, fairChoices_fair.clock, w_frames, w_args, w_heap, w_applies, trivial, trivial, w_case⟩
end start1
theorem witness_1 : WitnessClaimed_1 := ⟨start1.p0, start1.e0, start1.about1, start1.theMethod, start1.args0, start1.below0, start1.atStart⟩
end Jvm.Pilot.@@N@@
