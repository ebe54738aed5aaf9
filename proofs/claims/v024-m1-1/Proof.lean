import JvmDerived
import JvmDerived.Pilot.@@N@@Statement
import JvmDerived.Pilot.@@N@@Code
set_option linter.unusedVariables false
set_option linter.unusedSimpArgs false
namespace Jvm.RoadKit
open Sem ClassFile Op Lib Jvm.Stand Jvm.Free Jvm.LawKit
section New
variable {p : Program} {l : Launch} {e : Env} {R : Room} {s : State} {m : MethodId} {args : Array Value} {below : List Frame} {meth : Method} {c : Code} {T : State} {locs : List Loc} {cells slots : Nat}
theorem retI (X : Stand p l e R s m args below meth c T locs cells slots) (hx : p.tables.exec = Jvm.exec) {pc : Nat} {Ls : Array Slot} {z : Int32} {rest : List Value} (hret : meth.sig.returnType = some .int) (hd : decode c.code pc = .ok (.ireturn, 1)) {fs : List Frame}
    (hl : ∀ (f : JFrame) (acts : List Action), f.method = m → f.locked = none → f.entered = [] → (doReturn e (T.setTop f) acts (some (.int z))).1 = T.setFrames fs) : Steps p.tables e below (T.setTop (mkF m pc Ls (.int z :: rest))) (T.setFrames fs) := by
  have hm' : T.vm.method? m = some meth := X.method'
  have hn : narrow .int (.int z) = .int z := rfl
  show Steps p.tables e below (T.setTop { method := m, pc := pc, locals := Ls, stack := _ :: rest, locked := none }) _
  jvm_step X.here [X.here.top, hx, hd, hm', hret, hn]
  first | (intro acts; rw [hl _ acts rfl rfl rfl]) | rw [hl _ _ rfl rfl rfl]
  exact Steps.refl _
theorem own_retL (X : Stand p l e R s m args below meth c T locs cells slots) (hx : p.tables.exec = Jvm.exec) {pc : Nat} {Ls : Array Slot} {z : Int64} {rest : List Value} (hret : meth.sig.returnType = some .long) (hd : decode c.code pc = .ok (.lreturn, 1)) {fs : List Frame}
    (hl : ∀ (f : JFrame) (acts : List Action), f.method = m → f.locked = none → f.entered = [] → (doReturn e (T.setTop f) acts (some (.long z))).1 = T.setFrames fs) : Steps p.tables e below (T.setTop (mkF m pc Ls (.long z :: rest))) (T.setFrames fs) := by
  have hm' : T.vm.method? m = some meth := X.method'
  show Steps p.tables e below (T.setTop { method := m, pc := pc, locals := Ls, stack := _ :: rest, locked := none }) _
  jvm_step X.here [X.here.top, hx, hd, hm', hret, narrow]
  first | (intro acts; rw [hl _ acts rfl rfl rfl]) | rw [hl _ _ rfl rfl rfl]
  exact Steps.refl _
theorem own_retA (X : Stand p l e R s m args below meth c T locs cells slots) (hx : p.tables.exec = Jvm.exec) {pc : Nat} {Ls : Array Slot} {v : Value} {t : FieldType} {rest : List Value} (hret : meth.sig.returnType = some t) (ht : t.isReference = true) (hv : v.isRef = true) (hd : decode c.code pc = .ok (.areturn, 1)) {fs : List Frame}
    (hl : ∀ (f : JFrame) (acts : List Action), f.method = m → f.locked = none → f.entered = [] → (doReturn e (T.setTop f) acts (some v)).1 = T.setFrames fs) : Steps p.tables e below (T.setTop (mkF m pc Ls (v :: rest))) (T.setFrames fs) := by
  have hm' : T.vm.method? m = some meth := X.method'
  show Steps p.tables e below (T.setTop { method := m, pc := pc, locals := Ls, stack := v :: rest, locked := none }) _
  rcases ref_cases hv with rfl | ⟨a, rfl⟩
  all_goals
    jvm_step X.here [X.here.top, hx, hd, hm', hret, ht, Value.isRef]
    first | (intro acts; rw [hl _ acts rfl rfl rfl]) | rw [hl _ _ rfl rfl rfl]
    exact Steps.refl _
def Go (p : Program) (e : Env) (below : List Frame) (P : Outcome → State → Prop) (S : State) : Prop := ∃ s₂ o, Steps p.tables e below S s₂ ∧ s₂.status = .running ∧ Ended s₂ below o ∧ P o s₂
variable {P : Outcome → State → Prop}
theorem Go.by {A B : State} (st : ∀ t, Steps p.tables e below B t → Steps p.tables e below A t) (g : Go p e below P B) : Go p e below P A := by
  obtain ⟨u, o, h1, h2⟩ := g; exact ⟨u, o, st _ h1, h2⟩
theorem Go.tr {A B : State} (st : Steps p.tables e below A B) (g : Go p e below P B) : Go p e below P A := by
  obtain ⟨u, o, h1, h2⟩ := g; exact ⟨u, o, st.trans h1, h2⟩
theorem Go.start {f g : JFrame} (q : f = g) (h : Go p e below P (T.setTop g)) : ∃ s₂ o, Steps p.tables e below (T.setTop f) s₂ ∧ s₂.status = .running ∧ Ended s₂ below o ∧ P o s₂ := q ▸ h
variable {Q : Option Value → Heap → List Loc → Prop} {rc rs : Nat}
theorem Go.retI (X : Stand p l e R s m args below meth c T locs cells slots) (hx : p.tables.exec = Jvm.exec) {pc : Nat} {Ls : Array Slot} {z : Int32} {rest : List Value} (hret : meth.sig.returnType = some .int) (hlk : meth.locks = false) (hd : decode c.code pc = .ok (.ireturn, 1)) (hc : cells ≤ rc) (hs : slots ≤ rs) (hq : Q (some (.int z)) T.heap locs) :
    Go p e below (fun o U' => ∃ v L, o = .returned v ∧ Q v U'.heap L ∧ FrameEnd s o U' L rc rs) (T.setTop (mkF m pc Ls (.int z :: rest))) := by
  obtain ⟨fs, hr, hrun, hended, hW, hsame⟩ := X.leave (v := some (.int z)) (fun h => by rw [hret] at h; cases h) hlk
  exact ⟨_, _, RoadKit.retI X hx hret hd hr, hrun, hended, _, _, rfl, hq, ⟨_, rfl⟩, hW, hsame.mono hc hs⟩
theorem Go.retN (X : Stand p l e R s m args below meth c T locs cells slots) (hx : p.tables.exec = Jvm.exec) {pc : Nat} {Ls : Array Slot} {z : Int32} {t : FieldType} {rest : List Value} (hret : meth.sig.returnType = some t) (ht : t = .boolean ∨ t = .byte ∨ t = .char ∨ t = .short) (hlk : meth.locks = false) (hd : decode c.code pc = .ok (.ireturn, 1)) (hc : cells ≤ rc) (hs : slots ≤ rs) (hq : Q (some (.int (nar t z))) T.heap locs) :
    Go p e below (fun o U' => ∃ v L, o = .returned v ∧ Q v U'.heap L ∧ FrameEnd s o U' L rc rs) (T.setTop (mkF m pc Ls (.int z :: rest))) := by
  obtain ⟨fs, hr, hrun, hended, hW, hsame⟩ := X.leave (v := some (.int (nar t z))) (fun h => by rw [hret] at h; cases h) hlk
  exact ⟨_, _, RoadKit.retN X hx hret ht hd hr, hrun, hended, _, _, rfl, hq, ⟨_, rfl⟩, hW, hsame.mono hc hs⟩
theorem Go.retL (X : Stand p l e R s m args below meth c T locs cells slots) (hx : p.tables.exec = Jvm.exec) {pc : Nat} {Ls : Array Slot} {z : Int64} {rest : List Value} (hret : meth.sig.returnType = some .long) (hlk : meth.locks = false) (hd : decode c.code pc = .ok (.lreturn, 1)) (hc : cells ≤ rc) (hs : slots ≤ rs) (hq : Q (some (.long z)) T.heap locs) :
    Go p e below (fun o U' => ∃ v L, o = .returned v ∧ Q v U'.heap L ∧ FrameEnd s o U' L rc rs) (T.setTop (mkF m pc Ls (.long z :: rest))) := by
  obtain ⟨fs, hr, hrun, hended, hW, hsame⟩ := X.leave (v := some (.long z)) (fun h => by rw [hret] at h; cases h) hlk
  exact ⟨_, _, own_retL X hx hret hd hr, hrun, hended, _, _, rfl, hq, ⟨_, rfl⟩, hW, hsame.mono hc hs⟩
theorem Go.retA (X : Stand p l e R s m args below meth c T locs cells slots) (hx : p.tables.exec = Jvm.exec) {pc : Nat} {Ls : Array Slot} {v : Value} {t : FieldType} {rest : List Value} (hret : meth.sig.returnType = some t) (ht : t.isReference = true) (hv : v.isRef = true) (hlk : meth.locks = false) (hd : decode c.code pc = .ok (.areturn, 1)) (hc : cells ≤ rc) (hs : slots ≤ rs) (hq : Q (some v) T.heap locs) :
    Go p e below (fun o U' => ∃ v L, o = .returned v ∧ Q v U'.heap L ∧ FrameEnd s o U' L rc rs) (T.setTop (mkF m pc Ls (v :: rest))) := by
  obtain ⟨fs, hr, hrun, hended, hW, hsame⟩ := X.leave (v := some v) (fun h => by rw [hret] at h; cases h) hlk
  exact ⟨_, _, own_retA X hx hret ht hv hd hr, hrun, hended, _, _, rfl, hq, ⟨_, rfl⟩, hW, hsame.mono hc hs⟩
theorem Go.ret0 (X : Stand p l e R s m args below meth c T locs cells slots) (hx : p.tables.exec = Jvm.exec) {pc : Nat} {Ls : Array Slot} (hret : meth.sig.returnType = none) (hlk : meth.locks = false) (hd : decode c.code pc = .ok (.return_, 1)) (hc : cells ≤ rc) (hs : slots ≤ rs) (hq : Q none T.heap locs) :
    Go p e below (fun o U' => ∃ v L, o = .returned v ∧ Q v U'.heap L ∧ FrameEnd s o U' L rc rs) (T.setTop (mkF m pc Ls [])) := by
  obtain ⟨fs, hr, hrun, hended, hW, hsame⟩ := X.leave (v := none) (fun _ => rfl) hlk
  exact ⟨_, _, X.returnOut hx hret hd hr, hrun, hended, _, _, rfl, hq, ⟨_, rfl⟩, hW, hsame.mono hc hs⟩
section Wide
variable {vm₁ : Vm} {kS : Nat}
theorem Go.retIW (hS : s.Since vm₁ kS) (hn : kS ≤ T.heap.size) (X : Stand p l e R (s.setVm vm₁) m args below meth c T locs cells slots) (hx : p.tables.exec = Jvm.exec) {pc : Nat} {Ls : Array Slot} {z : Int32} {rest : List Value} (hret : meth.sig.returnType = some .int) (hlk : meth.locks = false) (hd : decode c.code pc = .ok (.ireturn, 1)) (hc : cells ≤ rc) (hs : slots ≤ rs) (hq : Q (some (.int z)) T.heap locs) :
    Go p e below (fun o U' => ∃ v L, o = .returned v ∧ Q v U'.heap L ∧ ReturnedEndW s o U' L rc rs) (T.setTop (mkF m pc Ls (.int z :: rest))) := by
  obtain ⟨fs, hr, hrun, hended, w1, w2, w3, w4⟩ := X.leaveW hS hn (v := some (.int z)) (fun h => by rw [hret] at h; cases h) hlk
  exact ⟨_, _, RoadKit.retI X hx hret hd hr, hrun, hended, _, _, rfl, hq, w1, w2, w3, w4.mono hc hs⟩
theorem Go.retNW (hS : s.Since vm₁ kS) (hn : kS ≤ T.heap.size) (X : Stand p l e R (s.setVm vm₁) m args below meth c T locs cells slots) (hx : p.tables.exec = Jvm.exec) {pc : Nat} {Ls : Array Slot} {z : Int32} {t : FieldType} {rest : List Value} (hret : meth.sig.returnType = some t) (ht : t = .boolean ∨ t = .byte ∨ t = .char ∨ t = .short) (hlk : meth.locks = false) (hd : decode c.code pc = .ok (.ireturn, 1)) (hc : cells ≤ rc) (hs : slots ≤ rs) (hq : Q (some (.int (nar t z))) T.heap locs) :
    Go p e below (fun o U' => ∃ v L, o = .returned v ∧ Q v U'.heap L ∧ ReturnedEndW s o U' L rc rs) (T.setTop (mkF m pc Ls (.int z :: rest))) := by
  obtain ⟨fs, hr, hrun, hended, w1, w2, w3, w4⟩ := X.leaveW hS hn (v := some (.int (nar t z))) (fun h => by rw [hret] at h; cases h) hlk
  exact ⟨_, _, RoadKit.retN X hx hret ht hd hr, hrun, hended, _, _, rfl, hq, w1, w2, w3, w4.mono hc hs⟩
theorem Go.retAW (hS : s.Since vm₁ kS) (hn : kS ≤ T.heap.size) (X : Stand p l e R (s.setVm vm₁) m args below meth c T locs cells slots) (hx : p.tables.exec = Jvm.exec) {pc : Nat} {Ls : Array Slot} {v : Value} {t : FieldType} {rest : List Value} (hret : meth.sig.returnType = some t) (ht : t.isReference = true) (hv : v.isRef = true) (hlk : meth.locks = false) (hd : decode c.code pc = .ok (.areturn, 1)) (hc : cells ≤ rc) (hs : slots ≤ rs) (hq : Q (some v) T.heap locs) :
    Go p e below (fun o U' => ∃ v L, o = .returned v ∧ Q v U'.heap L ∧ ReturnedEndW s o U' L rc rs) (T.setTop (mkF m pc Ls (v :: rest))) := by
  obtain ⟨fs, hr, hrun, hended, w1, w2, w3, w4⟩ := X.leaveW hS hn (v := some v) (fun h => by rw [hret] at h; cases h) hlk
  exact ⟨_, _, own_retA X hx hret ht hv hd hr, hrun, hended, _, _, rfl, hq, w1, w2, w3, w4.mono hc hs⟩
theorem Go.ret0W (hS : s.Since vm₁ kS) (hn : kS ≤ T.heap.size) (X : Stand p l e R (s.setVm vm₁) m args below meth c T locs cells slots) (hx : p.tables.exec = Jvm.exec) {pc : Nat} {Ls : Array Slot} (hret : meth.sig.returnType = none) (hlk : meth.locks = false) (hd : decode c.code pc = .ok (.return_, 1)) (hc : cells ≤ rc) (hs : slots ≤ rs) (hq : Q none T.heap locs) :
    Go p e below (fun o U' => ∃ v L, o = .returned v ∧ Q v U'.heap L ∧ ReturnedEndW s o U' L rc rs) (T.setTop (mkF m pc Ls [])) := by
  obtain ⟨fs, hr, hrun, hended, w1, w2, w3, w4⟩ := X.leaveW hS hn (v := none) (fun _ => rfl) hlk
  exact ⟨_, _, X.returnOut hx hret hd hr, hrun, hended, _, _, rfl, hq, w1, w2, w3, w4.mono hc hs⟩
end Wide
section Held
variable {vm₁ : Vm} {kS : Nat} {Z : State} {a0 : Array Value} {EL : List (String × Nat)} {h0 h h' : Heap} {vm0 : Vm}
theorem own_chE (A : CHr Z EL vm₁ h0 vm0 h) (E : Ext h h') : CHr Z EL vm₁ h0 vm0 h' := A.trans (CHr.ext E A.1)
theorem own_chW {a : Addr} {sl : Nat} {v : Value} (A : CHr Z EL vm₁ h0 vm0 h) (W : Wr h h' a sl v) (S : Safe Z EL vm0 h a) : CHr Z EL vm₁ h0 vm0 h' := A.trans (CHr.wr W S A.1)
theorem own_chK {ws : List Addr} (A : CHr Z EL vm₁ h0 vm0 h) (K : Keep h h' ws) (S : ∀ x ∈ ws, Safe Z EL vm0 h x) : CHr Z EL vm₁ h0 vm0 h' := A.trans (CHr.keep K S A.1)
theorem own_chEnd (X : Stand p l e R (s.setVm vm₁) m args below meth c T locs cells slots) (eT : T.heap = h) (hZ : Z.Warmed39 vm₁) (hEL : EW Z a0 EL) (A : CHr Z EL s.vm h0 vm₁ h) (hh : s.heap = h0) : CHr Z EL s.vm s.heap T.vm T.heap := by
  rw [eT, hh]; exact A.trans (CHv.at X hZ hEL A.1)
theorem Go.retNH (hS : s.Since vm₁ kS) (hn : kS ≤ T.heap.size) (hC : CHr Z EL s.vm s.heap T.vm T.heap) (X : Stand p l e R (s.setVm vm₁) m args below meth c T locs cells slots) (hx : p.tables.exec = Jvm.exec) {pc : Nat} {Ls : Array Slot} {z : Int32} {t : FieldType} {rest : List Value} (hret : meth.sig.returnType = some t) (ht : t = .boolean ∨ t = .byte ∨ t = .char ∨ t = .short) (hlk : meth.locks = false) (hd : decode c.code pc = .ok (.ireturn, 1)) (hc : cells ≤ rc) (hs : slots ≤ rs) (hq : Q (some (.int (nar t z))) T.heap locs) :
    Go p e below (fun o U' => ∃ v L, o = .returned v ∧ Q v U'.heap L ∧ CHr Z EL s.vm s.heap U'.vm U'.heap ∧ ReturnedEndW s o U' L rc rs) (T.setTop (mkF m pc Ls (.int z :: rest))) := by
  obtain ⟨fs, hr, hrun, hended, w1, w2, w3, w4⟩ := X.leaveW hS hn (v := some (.int (nar t z))) (fun h => by rw [hret] at h; cases h) hlk
  exact ⟨_, _, RoadKit.retN X hx hret ht hd hr, hrun, hended, _, _, rfl, hq, hC, w1, w2, w3, w4.mono hc hs⟩
theorem Go.retAH (hS : s.Since vm₁ kS) (hn : kS ≤ T.heap.size) (hC : CHr Z EL s.vm s.heap T.vm T.heap) (X : Stand p l e R (s.setVm vm₁) m args below meth c T locs cells slots) (hx : p.tables.exec = Jvm.exec) {pc : Nat} {Ls : Array Slot} {v : Value} {t : FieldType} {rest : List Value} (hret : meth.sig.returnType = some t) (ht : t.isReference = true) (hv : v.isRef = true) (hlk : meth.locks = false) (hd : decode c.code pc = .ok (.areturn, 1)) (hc : cells ≤ rc) (hs : slots ≤ rs) (hq : Q (some v) T.heap locs) :
    Go p e below (fun o U' => ∃ v L, o = .returned v ∧ Q v U'.heap L ∧ CHr Z EL s.vm s.heap U'.vm U'.heap ∧ ReturnedEndW s o U' L rc rs) (T.setTop (mkF m pc Ls (v :: rest))) := by
  obtain ⟨fs, hr, hrun, hended, w1, w2, w3, w4⟩ := X.leaveW hS hn (v := some v) (fun h => by rw [hret] at h; cases h) hlk
  exact ⟨_, _, own_retA X hx hret ht hv hd hr, hrun, hended, _, _, rfl, hq, hC, w1, w2, w3, w4.mono hc hs⟩
theorem Go.ret0H (hS : s.Since vm₁ kS) (hn : kS ≤ T.heap.size) (hC : CHr Z EL s.vm s.heap T.vm T.heap) (X : Stand p l e R (s.setVm vm₁) m args below meth c T locs cells slots) (hx : p.tables.exec = Jvm.exec) {pc : Nat} {Ls : Array Slot} (hret : meth.sig.returnType = none) (hlk : meth.locks = false) (hd : decode c.code pc = .ok (.return_, 1)) (hc : cells ≤ rc) (hs : slots ≤ rs) (hq : Q none T.heap locs) :
    Go p e below (fun o U' => ∃ v L, o = .returned v ∧ Q v U'.heap L ∧ CHr Z EL s.vm s.heap U'.vm U'.heap ∧ ReturnedEndW s o U' L rc rs) (T.setTop (mkF m pc Ls [])) := by
  obtain ⟨fs, hr, hrun, hended, w1, w2, w3, w4⟩ := X.leaveW hS hn (v := none) (fun _ => rfl) hlk
  exact ⟨_, _, X.returnOut hx hret hd hr, hrun, hended, _, _, rfl, hq, hC, w1, w2, w3, w4.mono hc hs⟩
end Held
theorem own_selP {Z : State} {a0 : Array Value} {y : MethodName} {n : Nat} (hZ : Z.Warmed39 s.vm) (wi : (Cond.instantiable y.cls n).before a0 Z = true) (wp : (Cond.privateMethod y).before a0 Z = true) (wm : (Cond.instanceMethod y).before a0 Z = true) (hy : y.cls ≠ "java/lang/invoke/MethodHandle" ∧ y.cls ≠ "java/lang/invoke/VarHandle") : (Cond.selects y.cls y y).before args s = true := by
  obtain ⟨c, k, h1, h2, h3, h4, -⟩ := Cond.instantiable_spec (show (Cond.instantiable y.cls n).before args s = true from mv hZ wi)
  refine selects_self_of_private h1 h2 ?_ (Cond.privateMethod_at (mvP (args := args) hZ wp)) (mvT hZ wm) hy
  simp only [Bool.or_eq_false_iff] at h4; exact h4.1
theorem own_NSroot {Z : State} {a0 : Array Value} {O K : String} {n : Nat} (w : (Cond.noSuperclass O).before a0 Z = true) (wk : (Cond.instantiable K n).before a0 Z = true) (hn : O ≠ K) : NS Z O K := by
  obtain ⟨c, k, h1, h2, h3, -, -⟩ := Cond.noSuperclass_spec w
  obtain ⟨t, -, g1, -⟩ := Cond.instantiable_spec wk
  have ne := ids_ne h1 g1 hn
  refine ⟨c, t, h1, g1, fun fuel => ?_⟩
  cases fuel with
  | zero => rfl
  | succ f => simp [Vm.isSubclassAux, ne, h2, h3]
theorem own_NSno {Z : State} {a0 : Array Value} {C S K : String} {n : Nat} (w : (Cond.superclass C S).before a0 Z = true) (wk : (Cond.instantiable K n).before a0 Z = true) (ns : NS Z C K) (hn : C ≠ K) : ∃ c t, Z.vm.findClass C = some c ∧ Z.vm.findClass K = some t ∧ Z.vm.assignable c t = false := by
  obtain ⟨c, t, h0, g0, n3⟩ := ns
  obtain ⟨p, k, kp, h1, h2, h3, h4, h5, -, h7⟩ := Cond.superclass_spec h0 w
  obtain ⟨t', kt, g1, g2, g3, g4, -⟩ := Cond.instantiable_spec wk
  cases g0.symm.trans g1
  simp only [Bool.or_eq_false_iff] at g4
  have ne := ids_ne h0 g0 hn
  refine ⟨c, t, h0, g0, ?_⟩
  show Z.vm.assignableAux (255 + 1) c t = false
  simp [Vm.assignableAux, ne, h2, g2, h5, g3, g4.1, Vm.isSubclass, n3]
theorem own_old_size {Z : State} {n0 : Nat} {h : Heap} (O : Old Z n0 h) : n0 ≤ h.size := by rw [← O.1]; exact O.2.1
theorem own_cat1 {v : Value} (h : v.isRef = true) : v.category = 1 := by rcases ref_cases h with rfl | ⟨_, rfl⟩ <;> rfl
end New
end Jvm.RoadKit
namespace Jvm.Pilot.@@N@@
open Jvm Jvm.ClassFile Sem Op Lib Jvm.Free Jvm.Stand Jvm.LawKit Jvm.RoadKit Bundle Jvm.Pilot.@@N@@.Jvm.D
abbrev own_EL : List (String × Nat) := consts_1
theorem own_sA : ∀ a ∈ Bundle.stringAtoms, a ∈ tables_1 := by decide +kernel
theorem own_EW {Z : State} {a0 : Array Value} (hw : ∀ d ∈ tables_1, d.before a0 Z = true) : EW Z a0 own_EL := EW.cons (hw _ (List.mem_of_getElem? (i := 21) rfl)) (by decide) (EW.nil)
theorem own_ne0 {args : Array Value} {s : State} {t : Term} {x : Int32} (ht : t.eval args s none [] s = some (.int x)) (h : (Jvm.Cond.not (.eq t (.int 0))).value args s none s [] = some true) : x ≠ (0 : Int32) := by
  intro e; subst e; simp [Cond.value, Term.eval, ht] at h
theorem own_safeNull {Z : State} {EL : List (String × Nat)} {vm : Vm} {h : Heap} {x : Addr} (hal : Z.vm.Alike vm) (E : Exa Z h x "java/lang/String") (F : Fld Z h x "java/lang/String" "value" "[B" .null) : Safe Z EL vm h x := fun Bq => by
  obtain ⟨cell, cf, k, i, f, f1, f2, -, -, -, -, f7⟩ := F
  obtain ⟨p, -, u, a, -, q, -, G, rfl | rfl⟩ := Bq
  · cases (show h[q.sa]? = some q.sC from G.ha).symm.trans f1
    obtain ⟨cS, ⟨⟨-, -, -, ⟨c1, k1, i1, g1, -⟩, -, -, -, v1, -⟩, -⟩, -⟩ := G
    obtain ⟨k3, e3, -⟩ := State.fieldFound?_setVm (s := { Z with heap := h }) hal (show State.fieldFound? { Z with heap := h } _ _ _ = _ from f2)
    have e4 := (show (Wst Z vm h).fieldFound? _ _ _ = _ from e3).symm.trans g1
    simp only [Option.some.injEq, Prod.mk.injEq] at e4
    rw [← e4.2.2.2, f7] at v1
    simp at v1
  · obtain ⟨cell2, k2, e1, e2, e3, -, -⟩ := E
    cases (show h[q.sd]? = some q.SA from G.hd).symm.trans e1
    obtain ⟨cS, -, -, fB, -⟩ := G
    have fB' : vm.findClass "[B" = some q.SA.cls := fB
    rw [hal.findClass] at fB'
    obtain ⟨ka, q1, q2⟩ := Vm.findClass_spec fB'
    obtain ⟨kb, q3, q4⟩ := Vm.findClass_spec e2
    cases q1.symm.trans q3
    exact absurd (q2.symm.trans q4) (by decide)
def own_sv (a b l : Int32) : List Value := if l = 0 then [] else if l = 1 then [.int a] else [.int a, .int b]
def own_lat (a0 a1 za b0 b1 zb : Int32) : Int32 := if za = zb then (if (0 : Int32) < za then (if a0 = b0 then (if (1 : Int32) < za then (if a1 = b1 then 1 else 0) else 1) else 0) else 1) else 0
def own_weq (p q : Int32) : Int32 := if p = 0 then 0 else if q = 0 then 0 else 1
def own_same (c0 c1 l d0 d1 m : Int32) : Int32 := if l = m then (if l < (1 : Int32) then (if l < (2 : Int32) then 1 else if c1 = d1 then 1 else 0) else if c0 = d0 then (if l < (2 : Int32) then 1 else if c1 = d1 then 1 else 0) else 0) else 0
theorem own_sv0 {a b z : Int32} (hz : z = (0 : Int32) ∨ z = (1 : Int32) ∨ z = (2 : Int32)) (h : (0 : Int32) < z) : (own_sv a b z).getD (0 : Int32).toNatClampNeg (.int 0) = .int a := by
  rcases hz with rfl | rfl | rfl
  · exact absurd h (by decide)
  · rfl
  · rfl
theorem own_sv1 {a b z : Int32} (hz : z = (0 : Int32) ∨ z = (1 : Int32) ∨ z = (2 : Int32)) (h : (1 : Int32) < z) : (own_sv a b z).getD (1 : Int32).toNatClampNeg (.int 0) = .int b := by
  rcases hz with rfl | rfl | rfl
  · exact absurd h (by decide)
  · exact absurd h (by decide)
  · rfl
theorem own_no2 {z : Int32} (hz : z = (0 : Int32) ∨ z = (1 : Int32) ∨ z = (2 : Int32)) : ¬ (2 : Int32) < z := by rcases hz with rfl | rfl | rfl <;> decide
theorem own_lat01 (a0 a1 za b0 b1 zb : Int32) : own_lat a0 a1 za b0 b1 zb = 0 ∨ own_lat a0 a1 za b0 b1 zb = 1 := by
  unfold own_lat; repeat' split
  all_goals first | exact Or.inl rfl | exact Or.inr rfl
theorem own_lat1 {a0 a1 za b0 b1 zb : Int32} (h : ¬ own_lat a0 a1 za b0 b1 zb = (0 : Int32)) : own_lat a0 a1 za b0 b1 zb = 1 := (own_lat01 _ _ _ _ _ _).resolve_left h
theorem own_latc (a0 a1 za b0 b1 zb : Int32) : own_lat a0 a1 za b0 b1 zb = own_lat b0 b1 zb a0 a1 za := by
  by_cases h : za = zb
  · subst h; unfold own_lat; simp only [eq_comm (a := a0), eq_comm (a := a1)]
  · unfold own_lat; rw [if_neg h, if_neg (fun q => h q.symm)]
theorem own_weqc (a0 a1 za b0 b1 zb c0 c1 zc d0 d1 zd : Int32) : own_weq (own_lat a0 a1 za b0 b1 zb) (own_lat c0 c1 zc d0 d1 zd) = own_weq (own_lat b0 b1 zb a0 a1 za) (own_lat d0 d1 zd c0 c1 zc) := by
  rw [own_latc a0 a1 za b0 b1 zb, own_latc c0 c1 zc d0 d1 zd]
theorem own_bi {c d : Int32} (hc : 0 ≤ c.toInt ∧ c.toInt ≤ 255) (hd : 0 ≤ d.toInt ∧ d.toInt ≤ 255) : ((nar .byte (c.toInt8.toInt32)) = (nar .byte (d.toInt8.toInt32))) ↔ c = d := by
  refine ⟨fun h => ?_, fun h => by rw [h]⟩
  have h' : c.toInt8.toInt32.toInt8.toInt32 = d.toInt8.toInt32.toInt8.toInt32 := h
  have a1 := c_i2b c; have a2 := c_i2b d; have a3 := c_i2b c.toInt8.toInt32; have a4 := c_i2b d.toInt8.toInt32
  rw [h'] at a3
  exact Int32.toInt_inj.mp (by omega)
theorem own_fin {c0 c1 l d0 d1 m : Int32} (h0 : 0 ≤ c0.toInt ∧ c0.toInt ≤ 255) (k0 : 0 ≤ d0.toInt ∧ d0.toInt ≤ 255) (h1 : 0 ≤ c1.toInt ∧ c1.toInt ≤ 255) (k1 : 0 ≤ d1.toInt ∧ d1.toInt ≤ 255) (hl : l = (0 : Int32) ∨ l = (1 : Int32) ∨ l = (2 : Int32)) : own_lat (nar .byte (c0.toInt8.toInt32)) (nar .byte (c1.toInt8.toInt32)) l (nar .byte (d0.toInt8.toInt32)) (nar .byte (d1.toInt8.toInt32)) m = own_same c0 c1 l d0 d1 m := by
  unfold own_lat own_same
  simp only [own_bi h0 k0, own_bi h1 k1]
  by_cases hm : l = m
  · rw [if_pos hm, if_pos hm]
    rcases hl with rfl | rfl | rfl
    · rfl
    · rw [if_pos (by decide), if_neg (by decide : ¬ (1 : Int32) < 1), if_neg (by decide : ¬ (1 : Int32) < 1), if_pos (by decide : (1 : Int32) < 2)]
    · rw [if_pos (by decide), if_pos (by decide : (1 : Int32) < 2), if_neg (by decide : ¬ (2 : Int32) < 1), if_neg (by decide : ¬ (2 : Int32) < 2)]
  · rw [if_neg hm, if_neg hm]
theorem own_chA (x : Int32) : 0 ≤ ((x &&& (255 : Int32)).toUInt32.toUInt16.toUInt32.toInt32).toInt ∧ ((x &&& (255 : Int32)).toUInt32.toUInt16.toUInt32.toInt32).toInt ≤ 255 := by
  have a := c_mask x 255 8 (by decide) (by decide); have b := c_i2c (x &&& (255 : Int32))
  omega
theorem own_md3 (x : Int32) : ((x &&& (3 : Int32)) % (3 : Int32)) = (0 : Int32) ∨ ((x &&& (3 : Int32)) % (3 : Int32)) = (1 : Int32) ∨ ((x &&& (3 : Int32)) % (3 : Int32)) = (2 : Int32) := by
  have e := c_mask x 3 2 (by decide) (by decide)
  have f := (c_irem (x &&& (3 : Int32)) 3 3 rfl).1 (by omega)
  generalize ((x &&& (3 : Int32)) % (3 : Int32)) = k at *
  simp only [← Int32.toInt_inj, Int32.reduceToInt]
  omega
theorem own_nle {c : Int32} (h : 0 ≤ c.toInt ∧ c.toInt ≤ 255) : ¬ (255 : Int32) < c := by
  rw [Int32.lt_iff_toInt_lt]; have e : (255 : Int32).toInt = 255 := rfl
  omega
theorem own_narc {c : Int32} (h : 0 ≤ c.toInt ∧ c.toInt ≤ 255) : nar .char c = c := by
  have a := c_i2c c
  exact Int32.toInt_inj.mp (show c.toUInt32.toUInt16.toUInt32.toInt32.toInt = c.toInt by omega)
theorem own_two {l : Int32} (hl : l = (0 : Int32) ∨ l = (1 : Int32) ∨ l = (2 : Int32)) (h0 : ¬ l = (0 : Int32)) (h1 : ¬ l = (1 : Int32)) : l = 2 := by
  rcases hl with q | q | q
  · exact absurd q h0
  · exact absurd q h1
  · exact q
theorem pn_0 : plainName "java/lang/StringUTF16" = true := by first | (simp [plainName, overriddenIn]; done) | decide +kernel
theorem d16_0 : decode jdk_52_method_15_code 0 = .ok (.iload_n 1, 1) := by decide +kernel
theorem d16_1 : decode jdk_52_method_15_code 1 = .ok (.aload_n 0, 1) := by decide +kernel
theorem d16_2 : decode jdk_52_method_15_code 2 = .ok (.arraylength, 1) := by decide +kernel
theorem d16_3 : decode jdk_52_method_15_code 3 = .ok (.isub, 1) := by decide +kernel
theorem d16_4 : decode jdk_52_method_15_code 4 = .ok (.bipush 31, 2) := by decide +kernel
theorem d16_6 : decode jdk_52_method_15_code 6 = .ok (.iushr, 1) := by decide +kernel
theorem d16_7 : decode jdk_52_method_15_code 7 = .ok (.i2b, 1) := by decide +kernel
theorem d16_8 : decode jdk_52_method_15_code 8 = .ok (.ireturn, 1) := by decide +kernel
theorem ef_coderLen (m : MethodId) (xa : Addr) : entryFrame m #[(.ref xa), (.int (2 : Int32))] 2 = mkF m 0 #[.val (.ref xa), .val (.int (2 : Int32))] [] := by first | (simp [entryFrame, mkF, argsToLocals, Value.category]; done) | rfl
def Q_coderLen (Z : State) (xa : Addr) (ka : ClassId) (vs : List Value) (h0 : Heap) (n0 : Nat) (v : Option Value) (h : Heap) (L : List Loc) : Prop := v = some (.int (0 : Int32)) ∧ Fr n0 L ∧ h = h0
set_option maxRecDepth 65536 in
set_option maxHeartbeats 40000000 in
theorem coderLen (l : Launch) (Z : State) (a0 : Array Value) (hw : ∀ d ∈ tables_1, d.before a0 Z = true) (ws : List Jvm.Cond) (xa : Addr) (ka : ClassId) (vs : List Value) (h0 : Heap) (n0 : Nat) (O0 : Old Z n0 h0) (P0 : Arv Z h0 xa ka .byte (2 : Int32) vs (.int (0 : Int32))) :
    MetFree l (⟨"java/lang/StringUTF16", "coderFromArrayLen", "([BI)B"⟩ : MethodName) (head1 (Jvm.Cond.code (⟨"java/lang/StringUTF16", "coderFromArrayLen", "([BI)B"⟩ : MethodName) jdk_52_method_15_code 2 (some .byte) :: ws) ({ frames := 0, cells := 0, slots := 0, locals := 0 } : Room)) (fun a U => a = #[(.ref xa), (.int (2 : Int32))] ∧ Z.Warmed39 U.vm ∧ U.heap = h0) (fun _ _ _ _ _ => True) (fun _ U o U' => ∃ v L, o = .returned v ∧ Q_coderLen Z xa ka vs h0 n0 v U'.heap L ∧ FrameEnd U o U' L ({ frames := 0, cells := 0, slots := 0, locals := 0 } : Room).cells ({ frames := 0, cells := 0, slots := 0, locals := 0 } : Room).slots) := by
  refine MetFree.of_bodySF (plainFor_of_name pn_0) hisR ?_
  intro p e s m args below meth c s₁ Bd hml0 hP hK
  obtain ⟨rfl, hZ, hh⟩ := hP
  have hx := Bd.exec
  have hby := Bd.bytes
  have hml : c.maxLocals = 2 := hml0
  have hown : s.vm.findClass "java/lang/StringUTF16" = some m.cls := findClass_of_methodNamed Bd.named
  have hnm := (name_of_methodNamed Bd.named Bd.method).1
  have hlk := BodyLoose.notSynchronized Bd
  have X0 : Stand p l e ({ frames := 0, cells := 0, slots := 0, locals := 0 } : Room) s m #[(.ref xa), (.int (2 : Int32))] below meth c s₁ [] 0 0 := Stand.of_body Bd
  have e0 : s₁.heap = h0 := by rw [← hh, Bd.state]; rfl
  have N0 := Fr.nil n0
  refine Go.start (P := fun o U' => ∃ v L, o = .returned v ∧ Q_coderLen Z xa ka vs h0 n0 v U'.heap L ∧ FrameEnd s o U' L ({ frames := 0, cells := 0, slots := 0, locals := 0 } : Room).cells ({ frames := 0, cells := 0, slots := 0, locals := 0 } : Room).slots) (ef_coderLen m xa) ?_
  show Go p e below _ (s₁.setTop (mkF m 0 #[.val (.ref xa), .val (.int (2 : Int32))] []))
  refine Go.by (fun t k => XS.iloadN X0.here hx rfl (hb hby d16_0) rfl k) ?_
  show Go p e below _ (s₁.setTop (mkF m 1 #[.val (.ref xa), .val (.int (2 : Int32))] [(.int (2 : Int32))]))
  refine Go.by (fun t k => XS.aloadN X0.here hx rfl (hb hby d16_1) rfl rfl k) ?_
  show Go p e below _ (s₁.setTop (mkF m 2 #[.val (.ref xa), .val (.int (2 : Int32))] [(.ref xa), (.int (2 : Int32))]))
  obtain ⟨cl1, Ar1, qk1, sz1, nn1, Ha1, Gf1⟩ := id P0
  have hl1 : cl1.slots.size.toInt32 = (2 : Int32) := len_of sz1 nn1
  refine Go.by (fun t k => X0.arraylength hx (by rw [e0]; exact Ar1.1) (State.isArrayOf_alike hZ.alike Ar1.2.1) (g := (mkF m 2 #[.val (.ref xa), .val (.int (2 : Int32))] [(.ref xa), (.int (2 : Int32))])) rfl rfl (hb hby d16_2) t (by rw [hl1]; exact k)) ?_
  show Go p e below _ (s₁.setTop (mkF m 3 #[.val (.ref xa), .val (.int (2 : Int32))] [(.int (2 : Int32)), (.int (2 : Int32))]))
  refine Go.by (fun t k => XS.isub X0.here hx rfl (hb hby d16_3) rfl k) ?_
  show Go p e below _ (s₁.setTop (mkF m 4 #[.val (.ref xa), .val (.int (2 : Int32))] [(.int (0 : Int32))]))
  refine Go.by (fun t k => XS.bipush X0.here hx rfl (hb hby d16_4) k) ?_
  show Go p e below _ (s₁.setTop (mkF m 6 #[.val (.ref xa), .val (.int (2 : Int32))] [(.int (31 : Int32)), (.int (0 : Int32))]))
  refine Go.by (fun t k => XS.iushr X0.here hx rfl (hb hby d16_6) rfl k) ?_
  show Go p e below _ (s₁.setTop (mkF m 7 #[.val (.ref xa), .val (.int (2 : Int32))] [(.int (((0 : Int32).toUInt32 >>> ((31 : Int32) &&& 31).toUInt32).toInt32))]))
  refine Go.by (fun t k => XS.i2b X0.here hx rfl (hb hby d16_7) rfl k) ?_
  show Go p e below _ (s₁.setTop (mkF m 8 #[.val (.ref xa), .val (.int (2 : Int32))] [(.int ((((0 : Int32).toUInt32 >>> ((31 : Int32) &&& 31).toUInt32).toInt32).toInt8.toInt32))]))
  have hq : Q_coderLen Z xa ka vs h0 n0 (some (.int (nar .byte ((((0 : Int32).toUInt32 >>> ((31 : Int32) &&& 31).toUInt32).toInt32).toInt8.toInt32)))) h0 _ := ⟨rfl, N0, rfl⟩
  exact Go.retN X0 hx (t := .byte) Bd.returns (by simp) hlk (hb hby d16_8) (by decide) (by decide) (by rw [e0]; exact hq)
theorem d15_0 : decode jdk_52_method_21_code 0 = .ok (.iconst 0, 1) := by decide +kernel
theorem d15_1 : decode jdk_52_method_21_code 1 = .ok (.istore 5, 2) := by decide +kernel
theorem d15_3 : decode jdk_52_method_21_code 3 = .ok (.iload 5, 2) := by decide +kernel
theorem d15_5 : decode jdk_52_method_21_code 5 = .ok (.iload 4, 2) := by decide +kernel
theorem d15_7 : decode jdk_52_method_21_code 7 = .ok (.if_icmp .ge 37, 3) := by decide +kernel
theorem d15_10 : decode jdk_52_method_21_code 10 = .ok (.aload_n 0, 1) := by decide +kernel
theorem d15_11 : decode jdk_52_method_21_code 11 = .ok (.iload_n 1, 1) := by decide +kernel
theorem d15_12 : decode jdk_52_method_21_code 12 = .ok (.caload, 1) := by decide +kernel
theorem d15_13 : decode jdk_52_method_21_code 13 = .ok (.istore 6, 2) := by decide +kernel
theorem d15_15 : decode jdk_52_method_21_code 15 = .ok (.iload 6, 2) := by decide +kernel
theorem d15_17 : decode jdk_52_method_21_code 17 = .ok (.sipush 255, 3) := by decide +kernel
theorem d15_20 : decode jdk_52_method_21_code 20 = .ok (.if_icmp .le 6, 3) := by decide +kernel
theorem d15_26 : decode jdk_52_method_21_code 26 = .ok (.aload_n 2, 1) := by decide +kernel
theorem d15_27 : decode jdk_52_method_21_code 27 = .ok (.iload_n 3, 1) := by decide +kernel
theorem d15_28 : decode jdk_52_method_21_code 28 = .ok (.iload 6, 2) := by decide +kernel
theorem d15_30 : decode jdk_52_method_21_code 30 = .ok (.i2b, 1) := by decide +kernel
theorem d15_31 : decode jdk_52_method_21_code 31 = .ok (.bastore, 1) := by decide +kernel
theorem d15_32 : decode jdk_52_method_21_code 32 = .ok (.iinc 1 1, 3) := by decide +kernel
theorem d15_35 : decode jdk_52_method_21_code 35 = .ok (.iinc 3 1, 3) := by decide +kernel
theorem d15_38 : decode jdk_52_method_21_code 38 = .ok (.iinc 5 1, 3) := by decide +kernel
theorem d15_41 : decode jdk_52_method_21_code 41 = .ok (.goto (-38), 3) := by decide +kernel
theorem d15_44 : decode jdk_52_method_21_code 44 = .ok (.iload 4, 2) := by decide +kernel
theorem d15_46 : decode jdk_52_method_21_code 46 = .ok (.ireturn, 1) := by decide +kernel
theorem ef_comp5 (m : MethodId) (ca : Addr) (ba : Addr) : entryFrame m #[(.ref ca), (.int (0 : Int32)), (.ref ba), (.int (0 : Int32)), (.int (2 : Int32))] 7 = mkF m 0 #[.val (.ref ca), .val (.int (0 : Int32)), .val (.ref ba), .val (.int (0 : Int32)), .val (.int (2 : Int32)), .unset, .unset] [] := by first | (simp [entryFrame, mkF, argsToLocals, Value.category]; done) | rfl
def Q_comp5 (Z : State) (ca : Addr) (ba : Addr) (kc : ClassId) (c0_ : Int32) (c1_ : Int32) (kb : ClassId) (h0 : Heap) (n0 : Nat) (v : Option Value) (h : Heap) (L : List Loc) : Prop := v = some (.int (2 : Int32)) ∧ Fr n0 L ∧ Keep h0 h [ba] ∧ Arv Z h ba kb .byte (2 : Int32) [(.int (nar .byte (c0_.toInt8.toInt32))), (.int (nar .byte (c1_.toInt8.toInt32)))] (.int (0 : Int32))
set_option maxRecDepth 65536 in
set_option maxHeartbeats 40000000 in
theorem comp5 (l : Launch) (Z : State) (a0 : Array Value) (hw : ∀ d ∈ tables_1, d.before a0 Z = true) (ws : List Jvm.Cond) (ca : Addr) (ba : Addr) (kc : ClassId) (c0_ : Int32) (c1_ : Int32) (kb : ClassId) (h0 : Heap) (n0 : Nat) (O0 : Old Z n0 h0) (P0 : Arv Z h0 ca kc .char (2 : Int32) [(.int c0_), (.int c1_)] (.int (0 : Int32))) (P1 : Arv Z h0 ba kb .byte (2 : Int32) [(.int (0 : Int32)), (.int (0 : Int32))] (.int (0 : Int32))) (gba : n0 ≤ ba) (ncb : ca ≠ ba) (hq0 : 0 ≤ c0_.toInt ∧ c0_.toInt ≤ 255) (hq1 : 0 ≤ c1_.toInt ∧ c1_.toInt ≤ 255) :
    MetFree l (⟨"java/lang/StringUTF16", "compress", "([CI[BII)I"⟩ : MethodName) (head1 (Jvm.Cond.code (⟨"java/lang/StringUTF16", "compress", "([CI[BII)I"⟩ : MethodName) jdk_52_method_21_code 7 (some .int) :: ws) ({ frames := 0, cells := 0, slots := 0, locals := 0 } : Room)) (fun a U => a = #[(.ref ca), (.int (0 : Int32)), (.ref ba), (.int (0 : Int32)), (.int (2 : Int32))] ∧ Z.Warmed39 U.vm ∧ U.heap = h0) (fun _ _ _ _ _ => True) (fun _ U o U' => ∃ v L, o = .returned v ∧ Q_comp5 Z ca ba kc c0_ c1_ kb h0 n0 v U'.heap L ∧ FrameEnd U o U' L ({ frames := 0, cells := 0, slots := 0, locals := 0 } : Room).cells ({ frames := 0, cells := 0, slots := 0, locals := 0 } : Room).slots) := by
  refine MetFree.of_bodySF (plainFor_of_name pn_0) hisR ?_
  intro p e s m args below meth c s₁ Bd hml0 hP hK
  obtain ⟨rfl, hZ, hh⟩ := hP
  have hx := Bd.exec
  have hby := Bd.bytes
  have hml : c.maxLocals = 7 := hml0
  have hown : s.vm.findClass "java/lang/StringUTF16" = some m.cls := findClass_of_methodNamed Bd.named
  have hnm := (name_of_methodNamed Bd.named Bd.method).1
  have hlk := BodyLoose.notSynchronized Bd
  have X0 : Stand p l e ({ frames := 0, cells := 0, slots := 0, locals := 0 } : Room) s m #[(.ref ca), (.int (0 : Int32)), (.ref ba), (.int (0 : Int32)), (.int (2 : Int32))] below meth c s₁ [] 0 0 := Stand.of_body Bd
  have e0 : s₁.heap = h0 := by rw [← hh, Bd.state]; rfl
  have N0 := Fr.nil n0
  refine Go.start (P := fun o U' => ∃ v L, o = .returned v ∧ Q_comp5 Z ca ba kc c0_ c1_ kb h0 n0 v U'.heap L ∧ FrameEnd s o U' L ({ frames := 0, cells := 0, slots := 0, locals := 0 } : Room).cells ({ frames := 0, cells := 0, slots := 0, locals := 0 } : Room).slots) (ef_comp5 m ca ba) ?_
  show Go p e below _ (s₁.setTop (mkF m 0 #[.val (.ref ca), .val (.int (0 : Int32)), .val (.ref ba), .val (.int (0 : Int32)), .val (.int (2 : Int32)), .unset, .unset] []))
  refine Go.by (fun t k => XS.iconst X0.here hx rfl (hb hby d15_0) k) ?_
  show Go p e below _ (s₁.setTop (mkF m 1 #[.val (.ref ca), .val (.int (0 : Int32)), .val (.ref ba), .val (.int (0 : Int32)), .val (.int (2 : Int32)), .unset, .unset] [(.int (0 : Int32))]))
  refine Go.by (fun t k => XS.istore X0.here hx rfl (hb hby d15_1) rfl (l' := #[.val (.ref ca), .val (.int (0 : Int32)), .val (.ref ba), .val (.int (0 : Int32)), .val (.int (2 : Int32)), .val (.int (0 : Int32)), .unset]) rfl k) ?_
  show Go p e below _ (s₁.setTop (mkF m 3 #[.val (.ref ca), .val (.int (0 : Int32)), .val (.ref ba), .val (.int (0 : Int32)), .val (.int (2 : Int32)), .val (.int (0 : Int32)), .unset] []))
  refine Go.by (fun t k => XS.iload X0.here hx rfl (hb hby d15_3) rfl k) ?_
  show Go p e below _ (s₁.setTop (mkF m 5 #[.val (.ref ca), .val (.int (0 : Int32)), .val (.ref ba), .val (.int (0 : Int32)), .val (.int (2 : Int32)), .val (.int (0 : Int32)), .unset] [(.int (0 : Int32))]))
  refine Go.by (fun t k => XS.iload X0.here hx rfl (hb hby d15_5) rfl k) ?_
  show Go p e below _ (s₁.setTop (mkF m 7 #[.val (.ref ca), .val (.int (0 : Int32)), .val (.ref ba), .val (.int (0 : Int32)), .val (.int (2 : Int32)), .val (.int (0 : Int32)), .unset] [(.int (2 : Int32)), (.int (0 : Int32))]))
  refine Go.by (fun t k => XS.icmpNo X0.here hx rfl (hb hby d15_7) rfl (tlt (by decide : (0 : Int32) < (2 : Int32))).2.1 k) ?_
  show Go p e below _ (s₁.setTop (mkF m 10 #[.val (.ref ca), .val (.int (0 : Int32)), .val (.ref ba), .val (.int (0 : Int32)), .val (.int (2 : Int32)), .val (.int (0 : Int32)), .unset] []))
  refine Go.by (fun t k => XS.aloadN X0.here hx rfl (hb hby d15_10) rfl rfl k) ?_
  show Go p e below _ (s₁.setTop (mkF m 11 #[.val (.ref ca), .val (.int (0 : Int32)), .val (.ref ba), .val (.int (0 : Int32)), .val (.int (2 : Int32)), .val (.int (0 : Int32)), .unset] [(.ref ca)]))
  refine Go.by (fun t k => XS.iloadN X0.here hx rfl (hb hby d15_11) rfl k) ?_
  show Go p e below _ (s₁.setTop (mkF m 12 #[.val (.ref ca), .val (.int (0 : Int32)), .val (.ref ba), .val (.int (0 : Int32)), .val (.int (2 : Int32)), .val (.int (0 : Int32)), .unset] [(.int (0 : Int32)), (.ref ca)]))
  obtain ⟨cl1, Ar1, qk1, sz1, nn1, Ha1, Gf1⟩ := id P0
  have hin2 : ¬ ((0 : Int32) < 0 ∨ cl1.slots.size ≤ ((0 : Int32)).toNatClampNeg) := inb_of sz1 ⟨by decide, by decide⟩
  have hat3 : cl1.slots[((0 : Int32)).toNatClampNeg]? = some (.int c0_) := Has.at Ha1 hin2 rfl
  refine Go.by (fun t k => X0.caload hx (j := (0 : Int32)) (v := (.int c0_)) (by rw [e0]; exact Ar1.1) (State.isArrayOf_alike hZ.alike Ar1.2.1) Ar1.2.2 hin2 hat3 (g := (mkF m 12 #[.val (.ref ca), .val (.int (0 : Int32)), .val (.ref ba), .val (.int (0 : Int32)), .val (.int (2 : Int32)), .val (.int (0 : Int32)), .unset] [(.int (0 : Int32)), (.ref ca)])) rfl rfl (hb hby d15_12) t k) ?_
  show Go p e below _ (s₁.setTop (mkF m 13 #[.val (.ref ca), .val (.int (0 : Int32)), .val (.ref ba), .val (.int (0 : Int32)), .val (.int (2 : Int32)), .val (.int (0 : Int32)), .unset] [(.int c0_)]))
  refine Go.by (fun t k => XS.istore X0.here hx rfl (hb hby d15_13) rfl (l' := #[.val (.ref ca), .val (.int (0 : Int32)), .val (.ref ba), .val (.int (0 : Int32)), .val (.int (2 : Int32)), .val (.int (0 : Int32)), .val (.int c0_)]) rfl k) ?_
  show Go p e below _ (s₁.setTop (mkF m 15 #[.val (.ref ca), .val (.int (0 : Int32)), .val (.ref ba), .val (.int (0 : Int32)), .val (.int (2 : Int32)), .val (.int (0 : Int32)), .val (.int c0_)] []))
  refine Go.by (fun t k => XS.iload X0.here hx rfl (hb hby d15_15) rfl k) ?_
  show Go p e below _ (s₁.setTop (mkF m 17 #[.val (.ref ca), .val (.int (0 : Int32)), .val (.ref ba), .val (.int (0 : Int32)), .val (.int (2 : Int32)), .val (.int (0 : Int32)), .val (.int c0_)] [(.int c0_)]))
  refine Go.by (fun t k => XS.sipush X0.here hx rfl (hb hby d15_17) k) ?_
  show Go p e below _ (s₁.setTop (mkF m 20 #[.val (.ref ca), .val (.int (0 : Int32)), .val (.ref ba), .val (.int (0 : Int32)), .val (.int (2 : Int32)), .val (.int (0 : Int32)), .val (.int c0_)] [(.int (255 : Int32)), (.int c0_)]))
  refine Go.by (fun t k => XS.icmpYes X0.here hx rfl (pc0 := 20) (pc' := 26) rfl (hb hby d15_20) rfl (flt (own_nle hq0)).2.2.2 (by decide) (by decide) k) ?_
  show Go p e below _ (s₁.setTop (mkF m 26 #[.val (.ref ca), .val (.int (0 : Int32)), .val (.ref ba), .val (.int (0 : Int32)), .val (.int (2 : Int32)), .val (.int (0 : Int32)), .val (.int c0_)] []))
  refine Go.by (fun t k => XS.aloadN X0.here hx rfl (hb hby d15_26) rfl rfl k) ?_
  show Go p e below _ (s₁.setTop (mkF m 27 #[.val (.ref ca), .val (.int (0 : Int32)), .val (.ref ba), .val (.int (0 : Int32)), .val (.int (2 : Int32)), .val (.int (0 : Int32)), .val (.int c0_)] [(.ref ba)]))
  refine Go.by (fun t k => XS.iloadN X0.here hx rfl (hb hby d15_27) rfl k) ?_
  show Go p e below _ (s₁.setTop (mkF m 28 #[.val (.ref ca), .val (.int (0 : Int32)), .val (.ref ba), .val (.int (0 : Int32)), .val (.int (2 : Int32)), .val (.int (0 : Int32)), .val (.int c0_)] [(.int (0 : Int32)), (.ref ba)]))
  refine Go.by (fun t k => XS.iload X0.here hx rfl (hb hby d15_28) rfl k) ?_
  show Go p e below _ (s₁.setTop (mkF m 30 #[.val (.ref ca), .val (.int (0 : Int32)), .val (.ref ba), .val (.int (0 : Int32)), .val (.int (2 : Int32)), .val (.int (0 : Int32)), .val (.int c0_)] [(.int c0_), (.int (0 : Int32)), (.ref ba)]))
  refine Go.by (fun t k => XS.i2b X0.here hx rfl (hb hby d15_30) rfl k) ?_
  show Go p e below _ (s₁.setTop (mkF m 31 #[.val (.ref ca), .val (.int (0 : Int32)), .val (.ref ba), .val (.int (0 : Int32)), .val (.int (2 : Int32)), .val (.int (0 : Int32)), .val (.int c0_)] [(.int (c0_.toInt8.toInt32)), (.int (0 : Int32)), (.ref ba)]))
  obtain ⟨cl4, Ar4, qk4, sz4, nn4, Ha4, Gf4⟩ := id P1
  have hin5 : ¬ ((0 : Int32) < 0 ∨ cl4.slots.size ≤ ((0 : Int32)).toNatClampNeg) := inb_of sz4 ⟨by decide, by decide⟩
  obtain ⟨T6, h6, X6, e6, W6, st6⟩ := stB X0 hx hZ e0 Ar4 (j := (0 : Int32)) hin5 (g := (mkF m 31 #[.val (.ref ca), .val (.int (0 : Int32)), .val (.ref ba), .val (.int (0 : Int32)), .val (.int (2 : Int32)), .val (.int (0 : Int32)), .val (.int c0_)] [(.int (c0_.toInt8.toInt32)), (.int (0 : Int32)), (.ref ba)])) rfl rfl (hb hby d15_31)
  have N6 := Fr.snoc X6 N0 gba
  have F7 : Arv Z h6 ba kb .byte (2 : Int32) [(.int (nar .byte (c0_.toInt8.toInt32))), (.int (0 : Int32))] (.int (0 : Int32)) := Arv.set Ar4 qk4 sz4 nn4 Ha4 Gf4 (fits_nar_byte _) W6 0 rfl (Nat.le_of_ble_eq_true rfl)
  refine Go.by st6 ?_
  show Go p e below _ (T6.setTop (mkF m 32 #[.val (.ref ca), .val (.int (0 : Int32)), .val (.ref ba), .val (.int (0 : Int32)), .val (.int (2 : Int32)), .val (.int (0 : Int32)), .val (.int c0_)] []))
  refine Go.by (fun t k => XS.iinc X6.here hx rfl (hb hby d15_32) rfl (l' := #[.val (.ref ca), .val (.int (1 : Int32)), .val (.ref ba), .val (.int (0 : Int32)), .val (.int (2 : Int32)), .val (.int (0 : Int32)), .val (.int c0_)]) rfl k) ?_
  show Go p e below _ (T6.setTop (mkF m 35 #[.val (.ref ca), .val (.int (1 : Int32)), .val (.ref ba), .val (.int (0 : Int32)), .val (.int (2 : Int32)), .val (.int (0 : Int32)), .val (.int c0_)] []))
  refine Go.by (fun t k => XS.iinc X6.here hx rfl (hb hby d15_35) rfl (l' := #[.val (.ref ca), .val (.int (1 : Int32)), .val (.ref ba), .val (.int (1 : Int32)), .val (.int (2 : Int32)), .val (.int (0 : Int32)), .val (.int c0_)]) rfl k) ?_
  show Go p e below _ (T6.setTop (mkF m 38 #[.val (.ref ca), .val (.int (1 : Int32)), .val (.ref ba), .val (.int (1 : Int32)), .val (.int (2 : Int32)), .val (.int (0 : Int32)), .val (.int c0_)] []))
  refine Go.by (fun t k => XS.iinc X6.here hx rfl (hb hby d15_38) rfl (l' := #[.val (.ref ca), .val (.int (1 : Int32)), .val (.ref ba), .val (.int (1 : Int32)), .val (.int (2 : Int32)), .val (.int (1 : Int32)), .val (.int c0_)]) rfl k) ?_
  show Go p e below _ (T6.setTop (mkF m 41 #[.val (.ref ca), .val (.int (1 : Int32)), .val (.ref ba), .val (.int (1 : Int32)), .val (.int (2 : Int32)), .val (.int (1 : Int32)), .val (.int c0_)] []))
  refine Go.by (fun t k => XS.goto X6.here hx rfl (pc0 := 41) (pc' := 3) rfl (hb hby d15_41) (by decide) (by decide) k) ?_
  show Go p e below _ (T6.setTop (mkF m 3 #[.val (.ref ca), .val (.int (1 : Int32)), .val (.ref ba), .val (.int (1 : Int32)), .val (.int (2 : Int32)), .val (.int (1 : Int32)), .val (.int c0_)] []))
  refine Go.by (fun t k => XS.iload X6.here hx rfl (hb hby d15_3) rfl k) ?_
  show Go p e below _ (T6.setTop (mkF m 5 #[.val (.ref ca), .val (.int (1 : Int32)), .val (.ref ba), .val (.int (1 : Int32)), .val (.int (2 : Int32)), .val (.int (1 : Int32)), .val (.int c0_)] [(.int (1 : Int32))]))
  refine Go.by (fun t k => XS.iload X6.here hx rfl (hb hby d15_5) rfl k) ?_
  show Go p e below _ (T6.setTop (mkF m 7 #[.val (.ref ca), .val (.int (1 : Int32)), .val (.ref ba), .val (.int (1 : Int32)), .val (.int (2 : Int32)), .val (.int (1 : Int32)), .val (.int c0_)] [(.int (2 : Int32)), (.int (1 : Int32))]))
  refine Go.by (fun t k => XS.icmpNo X6.here hx rfl (hb hby d15_7) rfl (tlt (by decide : (1 : Int32) < (2 : Int32))).2.1 k) ?_
  show Go p e below _ (T6.setTop (mkF m 10 #[.val (.ref ca), .val (.int (1 : Int32)), .val (.ref ba), .val (.int (1 : Int32)), .val (.int (2 : Int32)), .val (.int (1 : Int32)), .val (.int c0_)] []))
  refine Go.by (fun t k => XS.aloadN X6.here hx rfl (hb hby d15_10) rfl rfl k) ?_
  show Go p e below _ (T6.setTop (mkF m 11 #[.val (.ref ca), .val (.int (1 : Int32)), .val (.ref ba), .val (.int (1 : Int32)), .val (.int (2 : Int32)), .val (.int (1 : Int32)), .val (.int c0_)] [(.ref ca)]))
  refine Go.by (fun t k => XS.iloadN X6.here hx rfl (hb hby d15_11) rfl k) ?_
  show Go p e below _ (T6.setTop (mkF m 12 #[.val (.ref ca), .val (.int (1 : Int32)), .val (.ref ba), .val (.int (1 : Int32)), .val (.int (2 : Int32)), .val (.int (1 : Int32)), .val (.int c0_)] [(.int (1 : Int32)), (.ref ca)]))
  have F8 : Arv Z h6 ca kc .char (2 : Int32) [(.int c0_), (.int c1_)] (.int (0 : Int32)) := (P0.other W6 ncb)
  obtain ⟨cl9, Ar9, qk9, sz9, nn9, Ha9, Gf9⟩ := id F8
  have hin10 : ¬ ((1 : Int32) < 0 ∨ cl9.slots.size ≤ ((1 : Int32)).toNatClampNeg) := inb_of sz9 ⟨by decide, by decide⟩
  have hat11 : cl9.slots[((1 : Int32)).toNatClampNeg]? = some (.int c1_) := Has.at Ha9 hin10 rfl
  refine Go.by (fun t k => X6.caload hx (j := (1 : Int32)) (v := (.int c1_)) (by rw [e6]; exact Ar9.1) (State.isArrayOf_alike hZ.alike Ar9.2.1) Ar9.2.2 hin10 hat11 (g := (mkF m 12 #[.val (.ref ca), .val (.int (1 : Int32)), .val (.ref ba), .val (.int (1 : Int32)), .val (.int (2 : Int32)), .val (.int (1 : Int32)), .val (.int c0_)] [(.int (1 : Int32)), (.ref ca)])) rfl rfl (hb hby d15_12) t k) ?_
  show Go p e below _ (T6.setTop (mkF m 13 #[.val (.ref ca), .val (.int (1 : Int32)), .val (.ref ba), .val (.int (1 : Int32)), .val (.int (2 : Int32)), .val (.int (1 : Int32)), .val (.int c0_)] [(.int c1_)]))
  refine Go.by (fun t k => XS.istore X6.here hx rfl (hb hby d15_13) rfl (l' := #[.val (.ref ca), .val (.int (1 : Int32)), .val (.ref ba), .val (.int (1 : Int32)), .val (.int (2 : Int32)), .val (.int (1 : Int32)), .val (.int c1_)]) rfl k) ?_
  show Go p e below _ (T6.setTop (mkF m 15 #[.val (.ref ca), .val (.int (1 : Int32)), .val (.ref ba), .val (.int (1 : Int32)), .val (.int (2 : Int32)), .val (.int (1 : Int32)), .val (.int c1_)] []))
  refine Go.by (fun t k => XS.iload X6.here hx rfl (hb hby d15_15) rfl k) ?_
  show Go p e below _ (T6.setTop (mkF m 17 #[.val (.ref ca), .val (.int (1 : Int32)), .val (.ref ba), .val (.int (1 : Int32)), .val (.int (2 : Int32)), .val (.int (1 : Int32)), .val (.int c1_)] [(.int c1_)]))
  refine Go.by (fun t k => XS.sipush X6.here hx rfl (hb hby d15_17) k) ?_
  show Go p e below _ (T6.setTop (mkF m 20 #[.val (.ref ca), .val (.int (1 : Int32)), .val (.ref ba), .val (.int (1 : Int32)), .val (.int (2 : Int32)), .val (.int (1 : Int32)), .val (.int c1_)] [(.int (255 : Int32)), (.int c1_)]))
  refine Go.by (fun t k => XS.icmpYes X6.here hx rfl (pc0 := 20) (pc' := 26) rfl (hb hby d15_20) rfl (flt (own_nle hq1)).2.2.2 (by decide) (by decide) k) ?_
  show Go p e below _ (T6.setTop (mkF m 26 #[.val (.ref ca), .val (.int (1 : Int32)), .val (.ref ba), .val (.int (1 : Int32)), .val (.int (2 : Int32)), .val (.int (1 : Int32)), .val (.int c1_)] []))
  refine Go.by (fun t k => XS.aloadN X6.here hx rfl (hb hby d15_26) rfl rfl k) ?_
  show Go p e below _ (T6.setTop (mkF m 27 #[.val (.ref ca), .val (.int (1 : Int32)), .val (.ref ba), .val (.int (1 : Int32)), .val (.int (2 : Int32)), .val (.int (1 : Int32)), .val (.int c1_)] [(.ref ba)]))
  refine Go.by (fun t k => XS.iloadN X6.here hx rfl (hb hby d15_27) rfl k) ?_
  show Go p e below _ (T6.setTop (mkF m 28 #[.val (.ref ca), .val (.int (1 : Int32)), .val (.ref ba), .val (.int (1 : Int32)), .val (.int (2 : Int32)), .val (.int (1 : Int32)), .val (.int c1_)] [(.int (1 : Int32)), (.ref ba)]))
  refine Go.by (fun t k => XS.iload X6.here hx rfl (hb hby d15_28) rfl k) ?_
  show Go p e below _ (T6.setTop (mkF m 30 #[.val (.ref ca), .val (.int (1 : Int32)), .val (.ref ba), .val (.int (1 : Int32)), .val (.int (2 : Int32)), .val (.int (1 : Int32)), .val (.int c1_)] [(.int c1_), (.int (1 : Int32)), (.ref ba)]))
  refine Go.by (fun t k => XS.i2b X6.here hx rfl (hb hby d15_30) rfl k) ?_
  show Go p e below _ (T6.setTop (mkF m 31 #[.val (.ref ca), .val (.int (1 : Int32)), .val (.ref ba), .val (.int (1 : Int32)), .val (.int (2 : Int32)), .val (.int (1 : Int32)), .val (.int c1_)] [(.int (c1_.toInt8.toInt32)), (.int (1 : Int32)), (.ref ba)]))
  obtain ⟨cl12, Ar12, qk12, sz12, nn12, Ha12, Gf12⟩ := id F7
  have hin13 : ¬ ((1 : Int32) < 0 ∨ cl12.slots.size ≤ ((1 : Int32)).toNatClampNeg) := inb_of sz12 ⟨by decide, by decide⟩
  obtain ⟨T14, h14, X14, e14, W14, st14⟩ := stB X6 hx hZ e6 Ar12 (j := (1 : Int32)) hin13 (g := (mkF m 31 #[.val (.ref ca), .val (.int (1 : Int32)), .val (.ref ba), .val (.int (1 : Int32)), .val (.int (2 : Int32)), .val (.int (1 : Int32)), .val (.int c1_)] [(.int (c1_.toInt8.toInt32)), (.int (1 : Int32)), (.ref ba)])) rfl rfl (hb hby d15_31)
  have N14 := Fr.snoc X14 N6 gba
  have F15 : Arv Z h14 ba kb .byte (2 : Int32) [(.int (nar .byte (c0_.toInt8.toInt32))), (.int (nar .byte (c1_.toInt8.toInt32)))] (.int (0 : Int32)) := Arv.set Ar12 qk12 sz12 nn12 Ha12 Gf12 (fits_nar_byte _) W14 1 rfl (Nat.le_of_ble_eq_true rfl)
  refine Go.by st14 ?_
  show Go p e below _ (T14.setTop (mkF m 32 #[.val (.ref ca), .val (.int (1 : Int32)), .val (.ref ba), .val (.int (1 : Int32)), .val (.int (2 : Int32)), .val (.int (1 : Int32)), .val (.int c1_)] []))
  refine Go.by (fun t k => XS.iinc X14.here hx rfl (hb hby d15_32) rfl (l' := #[.val (.ref ca), .val (.int (2 : Int32)), .val (.ref ba), .val (.int (1 : Int32)), .val (.int (2 : Int32)), .val (.int (1 : Int32)), .val (.int c1_)]) rfl k) ?_
  show Go p e below _ (T14.setTop (mkF m 35 #[.val (.ref ca), .val (.int (2 : Int32)), .val (.ref ba), .val (.int (1 : Int32)), .val (.int (2 : Int32)), .val (.int (1 : Int32)), .val (.int c1_)] []))
  refine Go.by (fun t k => XS.iinc X14.here hx rfl (hb hby d15_35) rfl (l' := #[.val (.ref ca), .val (.int (2 : Int32)), .val (.ref ba), .val (.int (2 : Int32)), .val (.int (2 : Int32)), .val (.int (1 : Int32)), .val (.int c1_)]) rfl k) ?_
  show Go p e below _ (T14.setTop (mkF m 38 #[.val (.ref ca), .val (.int (2 : Int32)), .val (.ref ba), .val (.int (2 : Int32)), .val (.int (2 : Int32)), .val (.int (1 : Int32)), .val (.int c1_)] []))
  refine Go.by (fun t k => XS.iinc X14.here hx rfl (hb hby d15_38) rfl (l' := #[.val (.ref ca), .val (.int (2 : Int32)), .val (.ref ba), .val (.int (2 : Int32)), .val (.int (2 : Int32)), .val (.int (2 : Int32)), .val (.int c1_)]) rfl k) ?_
  show Go p e below _ (T14.setTop (mkF m 41 #[.val (.ref ca), .val (.int (2 : Int32)), .val (.ref ba), .val (.int (2 : Int32)), .val (.int (2 : Int32)), .val (.int (2 : Int32)), .val (.int c1_)] []))
  refine Go.by (fun t k => XS.goto X14.here hx rfl (pc0 := 41) (pc' := 3) rfl (hb hby d15_41) (by decide) (by decide) k) ?_
  show Go p e below _ (T14.setTop (mkF m 3 #[.val (.ref ca), .val (.int (2 : Int32)), .val (.ref ba), .val (.int (2 : Int32)), .val (.int (2 : Int32)), .val (.int (2 : Int32)), .val (.int c1_)] []))
  refine Go.by (fun t k => XS.iload X14.here hx rfl (hb hby d15_3) rfl k) ?_
  show Go p e below _ (T14.setTop (mkF m 5 #[.val (.ref ca), .val (.int (2 : Int32)), .val (.ref ba), .val (.int (2 : Int32)), .val (.int (2 : Int32)), .val (.int (2 : Int32)), .val (.int c1_)] [(.int (2 : Int32))]))
  refine Go.by (fun t k => XS.iload X14.here hx rfl (hb hby d15_5) rfl k) ?_
  show Go p e below _ (T14.setTop (mkF m 7 #[.val (.ref ca), .val (.int (2 : Int32)), .val (.ref ba), .val (.int (2 : Int32)), .val (.int (2 : Int32)), .val (.int (2 : Int32)), .val (.int c1_)] [(.int (2 : Int32)), (.int (2 : Int32))]))
  refine Go.by (fun t k => XS.icmpYes X14.here hx rfl (pc0 := 7) (pc' := 44) rfl (hb hby d15_7) rfl (flt Int32.lt_irrefl).2.1 (by decide) (by decide) k) ?_
  show Go p e below _ (T14.setTop (mkF m 44 #[.val (.ref ca), .val (.int (2 : Int32)), .val (.ref ba), .val (.int (2 : Int32)), .val (.int (2 : Int32)), .val (.int (2 : Int32)), .val (.int c1_)] []))
  refine Go.by (fun t k => XS.iload X14.here hx rfl (hb hby d15_44) rfl k) ?_
  show Go p e below _ (T14.setTop (mkF m 46 #[.val (.ref ca), .val (.int (2 : Int32)), .val (.ref ba), .val (.int (2 : Int32)), .val (.int (2 : Int32)), .val (.int (2 : Int32)), .val (.int c1_)] [(.int (2 : Int32))]))
  have F16 : Keep h0 h14 [ba] := (((Keep.refl h0 [ba]).wr W6 (Or.inl (List.mem_of_getElem? (i := 0) rfl))).wr W14 (Or.inl (List.mem_of_getElem? (i := 0) rfl)))
  have hq : Q_comp5 Z ca ba kc c0_ c1_ kb h0 n0 (some (.int (2 : Int32))) h14 _ := ⟨rfl, N14, F16, F15⟩
  exact Go.retI X14 hx Bd.returns hlk (hb hby d15_46) (by decide) (by decide) (by rw [e14]; exact hq)
theorem d14_0 : decode jdk_52_method_16_code 0 = .ok (.iload_n 2, 1) := by decide +kernel
theorem d14_1 : decode jdk_52_method_16_code 1 = .ok (.newarray .byte, 2) := by decide +kernel
theorem d14_3 : decode jdk_52_method_16_code 3 = .ok (.astore_n 3, 1) := by decide +kernel
theorem d14_4 : decode jdk_52_method_16_code 4 = .ok (.aload_n 0, 1) := by decide +kernel
theorem d14_5 : decode jdk_52_method_16_code 5 = .ok (.iload_n 1, 1) := by decide +kernel
theorem d14_6 : decode jdk_52_method_16_code 6 = .ok (.aload_n 3, 1) := by decide +kernel
theorem d14_7 : decode jdk_52_method_16_code 7 = .ok (.iconst 0, 1) := by decide +kernel
theorem d14_8 : decode jdk_52_method_16_code 8 = .ok (.iload_n 2, 1) := by decide +kernel
theorem d14_9 : decode jdk_52_method_16_code 9 = .ok (.invokestatic 115, 3) := by decide +kernel
theorem pd_0 : parseMethodDescriptor "([CI[BII)I" = some ⟨[(.array .char), .int, (.array .byte), .int, .int], some .int⟩ := by decide +kernel
theorem d14_12 : decode jdk_52_method_16_code 12 = .ok (.istore 4, 2) := by decide +kernel
theorem d14_14 : decode jdk_52_method_16_code 14 = .ok (.iload 4, 2) := by decide +kernel
theorem d14_16 : decode jdk_52_method_16_code 16 = .ok (.iload_n 2, 1) := by decide +kernel
theorem d14_17 : decode jdk_52_method_16_code 17 = .ok (.if_icmp .eq 40, 3) := by decide +kernel
theorem d14_57 : decode jdk_52_method_16_code 57 = .ok (.aload_n 3, 1) := by decide +kernel
theorem d14_58 : decode jdk_52_method_16_code 58 = .ok (.areturn, 1) := by decide +kernel
theorem ef_comp3 (m : MethodId) (ca : Addr) : entryFrame m #[(.ref ca), (.int (0 : Int32)), (.int (2 : Int32))] 6 = mkF m 0 #[.val (.ref ca), .val (.int (0 : Int32)), .val (.int (2 : Int32)), .unset, .unset, .unset] [] := by first | (simp [entryFrame, mkF, argsToLocals, Value.category]; done) | rfl
def Q_comp3 (Z : State) (ca : Addr) (kc : ClassId) (c0_ : Int32) (c1_ : Int32) (h0 : Heap) (n0 : Nat) (v : Option Value) (h : Heap) (L : List Loc) : Prop := ∃ bb : Addr, ∃ kb : ClassId, v = some (.ref bb) ∧ Fr n0 L ∧ Keep h0 h [] ∧ h0.size ≤ bb ∧ Arv Z h bb kb .byte (2 : Int32) [(.int (nar .byte (c0_.toInt8.toInt32))), (.int (nar .byte (c1_.toInt8.toInt32)))] (.int (0 : Int32))
set_option maxRecDepth 65536 in
set_option maxHeartbeats 40000000 in
theorem comp3 (l : Launch) (Z : State) (a0 : Array Value) (hw : ∀ d ∈ tables_1, d.before a0 Z = true) (ws : List Jvm.Cond) (ca : Addr) (kc : ClassId) (c0_ : Int32) (c1_ : Int32) (h0 : Heap) (n0 : Nat) (O0 : Old Z n0 h0) (P0 : Arv Z h0 ca kc .char (2 : Int32) [(.int c0_), (.int c1_)] (.int (0 : Int32))) (hq0 : 0 ≤ c0_.toInt ∧ c0_.toInt ≤ 255) (hq1 : 0 ≤ c1_.toInt ∧ c1_.toInt ≤ 255) :
    MetFree l (⟨"java/lang/StringUTF16", "compress", "([CII)[B"⟩ : MethodName) (head1 (Jvm.Cond.code (⟨"java/lang/StringUTF16", "compress", "([CII)[B"⟩ : MethodName) jdk_52_method_16_code 6 (some (.array .byte)) :: ws) ({ frames := 1, cells := 1, slots := 2, locals := 18 } : Room)) (fun a U => a = #[(.ref ca), (.int (0 : Int32)), (.int (2 : Int32))] ∧ Z.Warmed39 U.vm ∧ U.heap = h0) (fun _ _ _ _ _ => True) (fun _ U o U' => ∃ v L, o = .returned v ∧ Q_comp3 Z ca kc c0_ c1_ h0 n0 v U'.heap L ∧ FrameEnd U o U' L ({ frames := 1, cells := 1, slots := 2, locals := 18 } : Room).cells ({ frames := 1, cells := 1, slots := 2, locals := 18 } : Room).slots) := by
  refine MetFree.of_bodySF (plainFor_of_name pn_0) hisR ?_
  intro p e s m args below meth c s₁ Bd hml0 hP hK
  obtain ⟨rfl, hZ, hh⟩ := hP
  have hx := Bd.exec
  have hby := Bd.bytes
  have hml : c.maxLocals = 6 := hml0
  have hown : s.vm.findClass "java/lang/StringUTF16" = some m.cls := findClass_of_methodNamed Bd.named
  have hnm := (name_of_methodNamed Bd.named Bd.method).1
  have hlk := BodyLoose.notSynchronized Bd
  have X0 : Stand p l e ({ frames := 1, cells := 1, slots := 2, locals := 18 } : Room) s m #[(.ref ca), (.int (0 : Int32)), (.int (2 : Int32))] below meth c s₁ [] 0 0 := Stand.of_body Bd
  have e0 : s₁.heap = h0 := by rw [← hh, Bd.state]; rfl
  have N0 := Fr.nil n0
  refine Go.start (P := fun o U' => ∃ v L, o = .returned v ∧ Q_comp3 Z ca kc c0_ c1_ h0 n0 v U'.heap L ∧ FrameEnd s o U' L ({ frames := 1, cells := 1, slots := 2, locals := 18 } : Room).cells ({ frames := 1, cells := 1, slots := 2, locals := 18 } : Room).slots) (ef_comp3 m ca) ?_
  show Go p e below _ (s₁.setTop (mkF m 0 #[.val (.ref ca), .val (.int (0 : Int32)), .val (.int (2 : Int32)), .unset, .unset, .unset] []))
  refine Go.by (fun t k => XS.iloadN X0.here hx rfl (hb hby d14_0) rfl k) ?_
  show Go p e below _ (s₁.setTop (mkF m 1 #[.val (.ref ca), .val (.int (0 : Int32)), .val (.int (2 : Int32)), .unset, .unset, .unset] [(.int (2 : Int32))]))
  obtain ⟨T1, h1, k1, X1, e1, E1, A1, Q1, st1⟩ := newPE X0 hx hZ (hw _ (List.mem_of_getElem? (i := 22) rfl)) e0 (g := (mkF m 1 #[.val (.ref ca), .val (.int (0 : Int32)), .val (.int (2 : Int32)), .unset, .unset, .unset] [(.int (2 : Int32))])) rfl (hb hby d14_1) rfl (by decide) (cap := 2) (by decide) (by decide) (by decide) (by decide) (ad := "[B") (by decide)
  obtain ⟨b1, g1⟩ : ∃ z, z = h0.size := ⟨_, rfl⟩
  rw [← g1] at A1 Q1 st1
  have gl1 : h0.size ≤ b1 := Nat.le_of_eq g1.symm
  have ge1 : n0 ≤ b1 := Nat.le_trans (own_old_size O0) gl1
  have sz1 : h0.size ≤ b1 := Nat.le_trans (Keep.refl h0 []).1 gl1
  have ne2 : ca ≠ b1 := Nat.ne_of_lt (Nat.lt_of_lt_of_le P0.lt gl1)
  have F3 : Arv Z h1 b1 k1 .byte (2 : Int32) [(.int (0 : Int32)), (.int (0 : Int32))] (.int (0 : Int32)) := (Arv.new A1 (by decide)).pad (pad_rep [] (.int (0 : Int32)) 2)
  refine Go.by st1 ?_
  show Go p e below _ (T1.setTop (mkF m 3 #[.val (.ref ca), .val (.int (0 : Int32)), .val (.int (2 : Int32)), .unset, .unset, .unset] [(.ref b1)]))
  refine Go.by (fun t k => XS.astoreN X1.here hx rfl (hb hby d14_3) rfl rfl (l' := #[.val (.ref ca), .val (.int (0 : Int32)), .val (.int (2 : Int32)), .val (.ref b1), .unset, .unset]) rfl k) ?_
  show Go p e below _ (T1.setTop (mkF m 4 #[.val (.ref ca), .val (.int (0 : Int32)), .val (.int (2 : Int32)), .val (.ref b1), .unset, .unset] []))
  refine Go.by (fun t k => XS.aloadN X1.here hx rfl (hb hby d14_4) rfl rfl k) ?_
  show Go p e below _ (T1.setTop (mkF m 5 #[.val (.ref ca), .val (.int (0 : Int32)), .val (.int (2 : Int32)), .val (.ref b1), .unset, .unset] [(.ref ca)]))
  refine Go.by (fun t k => XS.iloadN X1.here hx rfl (hb hby d14_5) rfl k) ?_
  show Go p e below _ (T1.setTop (mkF m 6 #[.val (.ref ca), .val (.int (0 : Int32)), .val (.int (2 : Int32)), .val (.ref b1), .unset, .unset] [(.int (0 : Int32)), (.ref ca)]))
  refine Go.by (fun t k => XS.aloadN X1.here hx rfl (hb hby d14_6) rfl rfl k) ?_
  show Go p e below _ (T1.setTop (mkF m 7 #[.val (.ref ca), .val (.int (0 : Int32)), .val (.int (2 : Int32)), .val (.ref b1), .unset, .unset] [(.ref b1), (.int (0 : Int32)), (.ref ca)]))
  refine Go.by (fun t k => XS.iconst X1.here hx rfl (hb hby d14_7) k) ?_
  show Go p e below _ (T1.setTop (mkF m 8 #[.val (.ref ca), .val (.int (0 : Int32)), .val (.int (2 : Int32)), .val (.ref b1), .unset, .unset] [(.int (0 : Int32)), (.ref b1), (.int (0 : Int32)), (.ref ca)]))
  refine Go.by (fun t k => XS.iloadN X1.here hx rfl (hb hby d14_8) rfl k) ?_
  show Go p e below _ (T1.setTop (mkF m 9 #[.val (.ref ca), .val (.int (0 : Int32)), .val (.int (2 : Int32)), .val (.ref b1), .unset, .unset] [(.int (2 : Int32)), (.int (0 : Int32)), (.ref b1), (.int (0 : Int32)), (.ref ca)]))
  have F5 : Old Z n0 h1 := (O0.ext E1)
  have F6 : Arv Z h1 ca kc .char (2 : Int32) [(.int c0_), (.int c1_)] (.int (0 : Int32)) := (P0.ext E1)
  have F7 : Keep h0 h1 [] := ((Keep.refl h0 []).ext E1)
  obtain ⟨_, _, ⟨T4, L4, k4, n4⟩, -, X4, ⟨Lc4, hQ4, l4, y4, z4⟩, st4⟩ := Jvm.LawKit.callS X1 hx (y := (⟨"java/lang/StringUTF16", "compress", "([CI[BII)I"⟩ : MethodName)) hown (mvT hZ (hw _ (List.mem_of_getElem? (i := 74) rfl))) (mvT hZ (hw _ (List.mem_of_getElem? (i := 75) rfl))) (mvT hZ (hw _ (List.mem_of_getElem? (i := 72) rfl))) (mvT hZ (hw _ (List.mem_of_getElem? (i := 76) rfl))) (by decide) (backOf (W := 0) (comp5 l Z a0 hw [] ca b1 kc c0_ c1_ k1 h1 n0 F5 F6 F3 ge1 ne2 (by first | assumption | omega | decide | simp_all : 0 ≤ c0_.toInt ∧ c0_.toInt ≤ 255) (by first | assumption | omega | decide | simp_all : 0 ≤ c1_.toInt ∧ c1_.toInt ≤ 255)) hZ (hw _ (List.mem_of_getElem? (i := 76) rfl)) (hw _ (List.mem_of_getElem? (i := 72) rfl)) (by decide) (by decide)) (g := (mkF m 9 #[.val (.ref ca), .val (.int (0 : Int32)), .val (.int (2 : Int32)), .val (.ref b1), .unset, .unset] [(.int (2 : Int32)), (.int (0 : Int32)), (.ref b1), (.int (0 : Int32)), (.ref ca)])) rfl (by rw [hml]; rfl) (argsL := [(.ref ca), (.int (0 : Int32)), (.ref b1), (.int (0 : Int32)), (.int (2 : Int32))]) (rest := []) (lenOf pd_0 rfl) rfl (by show 2 * 0 + _ ≤ _; exact Nat.le_of_eq rfl) (hb hby d14_9) (fun _ _ => ⟨rfl, e1, (by decide : 1 + 0 ≤ _), (by decide : 2 + 0 ≤ _)⟩)
  dsimp only [Pt.U, Pt.locs, Pt.cells, Pt.slots] at X4 l4 y4 z4 st4 hQ4
  subst l4 y4 z4
  obtain ⟨rfl, N4q, K4, F4_0⟩ := hQ4
  have N4 := Fr.app N0 N4q
  refine Go.by st4 ?_
  show Go p e below _ (T4.setTop (mkF m 12 #[.val (.ref ca), .val (.int (0 : Int32)), .val (.int (2 : Int32)), .val (.ref b1), .unset, .unset] [(.int (2 : Int32))]))
  refine Go.by (fun t k => XS.istore X4.here hx rfl (hb hby d14_12) rfl (l' := #[.val (.ref ca), .val (.int (0 : Int32)), .val (.int (2 : Int32)), .val (.ref b1), .val (.int (2 : Int32)), .unset]) rfl k) ?_
  show Go p e below _ (T4.setTop (mkF m 14 #[.val (.ref ca), .val (.int (0 : Int32)), .val (.int (2 : Int32)), .val (.ref b1), .val (.int (2 : Int32)), .unset] []))
  refine Go.by (fun t k => XS.iload X4.here hx rfl (hb hby d14_14) rfl k) ?_
  show Go p e below _ (T4.setTop (mkF m 16 #[.val (.ref ca), .val (.int (0 : Int32)), .val (.int (2 : Int32)), .val (.ref b1), .val (.int (2 : Int32)), .unset] [(.int (2 : Int32))]))
  refine Go.by (fun t k => XS.iloadN X4.here hx rfl (hb hby d14_16) rfl k) ?_
  show Go p e below _ (T4.setTop (mkF m 17 #[.val (.ref ca), .val (.int (0 : Int32)), .val (.int (2 : Int32)), .val (.ref b1), .val (.int (2 : Int32)), .unset] [(.int (2 : Int32)), (.int (2 : Int32))]))
  refine Go.by (fun t k => XS.icmpYes X4.here hx rfl (pc0 := 17) (pc' := 57) rfl (hb hby d14_17) rfl (teq rfl).1 (by decide) (by decide) k) ?_
  show Go p e below _ (T4.setTop (mkF m 57 #[.val (.ref ca), .val (.int (0 : Int32)), .val (.int (2 : Int32)), .val (.ref b1), .val (.int (2 : Int32)), .unset] []))
  refine Go.by (fun t k => XS.aloadN X4.here hx rfl (hb hby d14_57) rfl rfl k) ?_
  show Go p e below _ (T4.setTop (mkF m 58 #[.val (.ref ca), .val (.int (0 : Int32)), .val (.int (2 : Int32)), .val (.ref b1), .val (.int (2 : Int32)), .unset] [(.ref b1)]))
  have F8 : Keep h0 T4.heap [] := (F7.trans K4 (allS (Or.inr sz1) all0))
  have hq : Q_comp3 Z ca kc c0_ c1_ h0 n0 (some (.ref b1)) T4.heap _ := ⟨b1, k1, rfl, N4, F8, sz1, F4_0⟩
  exact Go.retA X4 hx Bd.returns rfl rfl hlk (hb hby d14_58) (by decide) (by decide) hq
theorem pn_1 : plainName "java/lang/String" = true := by first | (simp [plainName, overriddenIn]; done) | decide +kernel
theorem d3_0 : decode jdk_42_method_149_code 0 = .ok (.aload_n 0, 1) := by decide +kernel
theorem d3_1 : decode jdk_42_method_149_code 1 = .ok (.invokespecial 1, 3) := by decide +kernel
theorem d3_4 : decode jdk_42_method_149_code 4 = .ok (.iload_n 3, 1) := by decide +kernel
theorem d3_5 : decode jdk_42_method_149_code 5 = .ok (.ifCond .ne 22, 3) := by decide +kernel
theorem d3_27 : decode jdk_42_method_149_code 27 = .ok (.getstatic 38, 3) := by decide +kernel
theorem d3_30 : decode jdk_42_method_149_code 30 = .ok (.ifCond .eq 28, 3) := by decide +kernel
theorem d3_33 : decode jdk_42_method_149_code 33 = .ok (.aload_n 1, 1) := by decide +kernel
theorem d3_34 : decode jdk_42_method_149_code 34 = .ok (.iload_n 2, 1) := by decide +kernel
theorem d3_35 : decode jdk_42_method_149_code 35 = .ok (.iload_n 3, 1) := by decide +kernel
theorem d3_36 : decode jdk_42_method_149_code 36 = .ok (.invokestatic 177, 3) := by decide +kernel
theorem pd_1 : parseMethodDescriptor "([CII)[B" = some ⟨[(.array .char), .int, .int], some (.array .byte)⟩ := by decide +kernel
theorem d3_39 : decode jdk_42_method_149_code 39 = .ok (.astore 5, 2) := by decide +kernel
theorem d3_41 : decode jdk_42_method_149_code 41 = .ok (.aload_n 0, 1) := by decide +kernel
theorem d3_42 : decode jdk_42_method_149_code 42 = .ok (.aload 5, 2) := by decide +kernel
theorem d3_44 : decode jdk_42_method_149_code 44 = .ok (.iload_n 3, 1) := by decide +kernel
theorem d3_45 : decode jdk_42_method_149_code 45 = .ok (.invokestatic 47, 3) := by decide +kernel
theorem pd_2 : parseMethodDescriptor "([BI)B" = some ⟨[(.array .byte), .int], some .byte⟩ := by decide +kernel
theorem d3_48 : decode jdk_42_method_149_code 48 = .ok (.putfield 15, 3) := by decide +kernel
theorem d3_51 : decode jdk_42_method_149_code 51 = .ok (.aload_n 0, 1) := by decide +kernel
theorem d3_52 : decode jdk_42_method_149_code 52 = .ok (.aload 5, 2) := by decide +kernel
theorem d3_54 : decode jdk_42_method_149_code 54 = .ok (.putfield 9, 3) := by decide +kernel
theorem d3_57 : decode jdk_42_method_149_code 57 = .ok (.return_, 1) := by decide +kernel
theorem ef_init4_2 (m : MethodId) (ob : Addr) (ca : Addr) : entryFrame m #[(.ref ob), (.ref ca), (.int (0 : Int32)), (.int (2 : Int32)), .null] 6 = mkF m 0 #[.val (.ref ob), .val (.ref ca), .val (.int (0 : Int32)), .val (.int (2 : Int32)), .val .null, .unset] [] := by first | (simp [entryFrame, mkF, argsToLocals, Value.category]; done) | rfl
def Q_init4_2 (Z : State) (ob : Addr) (ca : Addr) (kc : ClassId) (c0_ : Int32) (c1_ : Int32) (cs : Int32) (h0 : Heap) (n0 : Nat) (v : Option Value) (h : Heap) (L : List Loc) : Prop := ∃ xb : Addr, ∃ kb : ClassId, v = none ∧ Fr n0 L ∧ Keep h0 h [ob] ∧ h0.size ≤ xb ∧ Exa Z h ob "java/lang/String" ∧ Fld Z h ob "java/lang/String" "coder" "B" (.int (0 : Int32)) ∧ Fld Z h ob "java/lang/String" "value" "[B" (.ref xb) ∧ Arv Z h xb kb .byte (2 : Int32) [(.int (nar .byte (c0_.toInt8.toInt32))), (.int (nar .byte (c1_.toInt8.toInt32)))] (.int (0 : Int32))
set_option maxRecDepth 65536 in
set_option maxHeartbeats 40000000 in
theorem init4_2 (l : Launch) (Z : State) (a0 : Array Value) (hw : ∀ d ∈ tables_1, d.before a0 Z = true) (ws : List Jvm.Cond) (ob : Addr) (ca : Addr) (kc : ClassId) (c0_ : Int32) (c1_ : Int32) (cs : Int32) (h0 : Heap) (n0 : Nat) (O0 : Old Z n0 h0) (P0 : Exa Z h0 ob "java/lang/String") (P1 : Fld Z h0 ob "java/lang/String" "value" "[B" .null) (P2 : Fld Z h0 ob "java/lang/String" "coder" "B" (.int (0 : Int32))) (P3 : Arv Z h0 ca kc .char (2 : Int32) [(.int c0_), (.int c1_)] (.int (0 : Int32))) (P4 : Sta Z Z.heap "java/lang/String" "COMPACT_STRINGS" "Z" (.int cs)) (gob : n0 ≤ ob) (nco : ca ≠ ob) (hcs : cs ≠ (0 : Int32)) (hq0 : 0 ≤ c0_.toInt ∧ c0_.toInt ≤ 255) (hq1 : 0 ≤ c1_.toInt ∧ c1_.toInt ≤ 255) :
    MetFree l (⟨"java/lang/String", "<init>", "([CIILjava/lang/Void;)V"⟩ : MethodName) (head1 (Jvm.Cond.code (⟨"java/lang/String", "<init>", "([CIILjava/lang/Void;)V"⟩ : MethodName) jdk_42_method_149_code 6 none :: ws) ({ frames := 2, cells := 1, slots := 2, locals := 35 } : Room)) (fun a U => a = #[(.ref ob), (.ref ca), (.int (0 : Int32)), (.int (2 : Int32)), .null] ∧ Z.Warmed39 U.vm ∧ U.heap = h0) (fun _ _ _ _ _ => True) (fun _ U o U' => ∃ v L, o = .returned v ∧ Q_init4_2 Z ob ca kc c0_ c1_ cs h0 n0 v U'.heap L ∧ FrameEnd U o U' L ({ frames := 2, cells := 1, slots := 2, locals := 35 } : Room).cells ({ frames := 2, cells := 1, slots := 2, locals := 35 } : Room).slots) := by
  refine MetFree.of_bodySF (plainFor_of_name pn_1) hisR ?_
  intro p e s m args below meth c s₁ Bd hml0 hP hK
  obtain ⟨rfl, hZ, hh⟩ := hP
  have hx := Bd.exec
  have hby := Bd.bytes
  have hml : c.maxLocals = 6 := hml0
  have hown : s.vm.findClass "java/lang/String" = some m.cls := findClass_of_methodNamed Bd.named
  have hnm := (name_of_methodNamed Bd.named Bd.method).1
  have hlk := BodyLoose.notSynchronized Bd
  have X0 : Stand p l e ({ frames := 2, cells := 1, slots := 2, locals := 35 } : Room) s m #[(.ref ob), (.ref ca), (.int (0 : Int32)), (.int (2 : Int32)), .null] below meth c s₁ [] 0 0 := Stand.of_body Bd
  have e0 : s₁.heap = h0 := by rw [← hh, Bd.state]; rfl
  have N0 := Fr.nil n0
  refine Go.start (P := fun o U' => ∃ v L, o = .returned v ∧ Q_init4_2 Z ob ca kc c0_ c1_ cs h0 n0 v U'.heap L ∧ FrameEnd s o U' L ({ frames := 2, cells := 1, slots := 2, locals := 35 } : Room).cells ({ frames := 2, cells := 1, slots := 2, locals := 35 } : Room).slots) (ef_init4_2 m ob ca) ?_
  show Go p e below _ (s₁.setTop (mkF m 0 #[.val (.ref ob), .val (.ref ca), .val (.int (0 : Int32)), .val (.int (2 : Int32)), .val .null, .unset] []))
  refine Go.by (fun t k => XS.aloadN X0.here hx rfl (hb hby d3_0) rfl rfl k) ?_
  show Go p e below _ (s₁.setTop (mkF m 1 #[.val (.ref ob), .val (.ref ca), .val (.int (0 : Int32)), .val (.int (2 : Int32)), .val .null, .unset] [(.ref ob)]))
  obtain ⟨T1, X1, e1, st1⟩ := initO X0 hx hZ hown (hw _ (List.mem_of_getElem? (i := 18) rfl)) (hw _ (List.mem_of_getElem? (i := 19) rfl)) (hw _ (List.mem_of_getElem? (i := 20) rfl)) e0 (g := (mkF m 1 #[.val (.ref ob), .val (.ref ca), .val (.int (0 : Int32)), .val (.int (2 : Int32)), .val .null, .unset] [(.ref ob)])) rfl (by rw [hml]; rfl) rfl (hb hby d3_1) (by decide) (W := 0) (by show 2 * 0 + _ ≤ _; exact Nat.le_of_eq rfl) (by decide)
  refine Go.by st1 ?_
  show Go p e below _ (T1.setTop (mkF m 4 #[.val (.ref ob), .val (.ref ca), .val (.int (0 : Int32)), .val (.int (2 : Int32)), .val .null, .unset] []))
  refine Go.by (fun t k => XS.iloadN X1.here hx rfl (hb hby d3_4) rfl k) ?_
  show Go p e below _ (T1.setTop (mkF m 5 #[.val (.ref ob), .val (.ref ca), .val (.int (0 : Int32)), .val (.int (2 : Int32)), .val .null, .unset] [(.int (2 : Int32))]))
  refine Go.by (fun t k => XS.ifYes X1.here hx rfl (pc0 := 5) (pc' := 27) rfl (hb hby d3_5) rfl ((if0 _ _).trans (feq (by decide : ¬ ((2 : Int32) = (0 : Int32)))).2) (by decide) (by decide) k) ?_
  show Go p e below _ (T1.setTop (mkF m 27 #[.val (.ref ob), .val (.ref ca), .val (.int (0 : Int32)), .val (.int (2 : Int32)), .val .null, .unset] []))
  have F2 : Sta Z h0 "java/lang/String" "COMPACT_STRINGS" "Z" (.int cs) := P4.ext O0.2
  obtain ⟨T3, X3, e3, st3⟩ := getS2 X1 hx hZ hown (host := "") (Or.inl (hw _ (List.mem_of_getElem? (i := 53) rfl))) Via.refl e1 F2 (g := (mkF m 27 #[.val (.ref ob), .val (.ref ca), .val (.int (0 : Int32)), .val (.int (2 : Int32)), .val .null, .unset] [])) rfl (hb hby d3_27)
  refine Go.by st3 ?_
  show Go p e below _ (T3.setTop (mkF m 30 #[.val (.ref ob), .val (.ref ca), .val (.int (0 : Int32)), .val (.int (2 : Int32)), .val .null, .unset] [(.int cs)]))
  refine Go.by (fun t k => XS.ifNo X3.here hx rfl (hb hby d3_30) rfl ((if0 _ _).trans (feq hcs).1) k) ?_
  show Go p e below _ (T3.setTop (mkF m 33 #[.val (.ref ob), .val (.ref ca), .val (.int (0 : Int32)), .val (.int (2 : Int32)), .val .null, .unset] []))
  refine Go.by (fun t k => XS.aloadN X3.here hx rfl (hb hby d3_33) rfl rfl k) ?_
  show Go p e below _ (T3.setTop (mkF m 34 #[.val (.ref ob), .val (.ref ca), .val (.int (0 : Int32)), .val (.int (2 : Int32)), .val .null, .unset] [(.ref ca)]))
  refine Go.by (fun t k => XS.iloadN X3.here hx rfl (hb hby d3_34) rfl k) ?_
  show Go p e below _ (T3.setTop (mkF m 35 #[.val (.ref ob), .val (.ref ca), .val (.int (0 : Int32)), .val (.int (2 : Int32)), .val .null, .unset] [(.int (0 : Int32)), (.ref ca)]))
  refine Go.by (fun t k => XS.iloadN X3.here hx rfl (hb hby d3_35) rfl k) ?_
  show Go p e below _ (T3.setTop (mkF m 36 #[.val (.ref ob), .val (.ref ca), .val (.int (0 : Int32)), .val (.int (2 : Int32)), .val .null, .unset] [(.int (2 : Int32)), (.int (0 : Int32)), (.ref ca)]))
  obtain ⟨_, _, ⟨T4, L4, k4, n4⟩, -, X4, ⟨Lc4, hQ4, l4, y4, z4⟩, st4⟩ := Jvm.LawKit.callS X3 hx (y := (⟨"java/lang/StringUTF16", "compress", "([CII)[B"⟩ : MethodName)) hown (mvT hZ (hw _ (List.mem_of_getElem? (i := 70) rfl))) (mvT hZ (hw _ (List.mem_of_getElem? (i := 71) rfl))) (mvT hZ (hw _ (List.mem_of_getElem? (i := 72) rfl))) (mvT hZ (hw _ (List.mem_of_getElem? (i := 73) rfl))) (by decide) (backOf (W := 0) (comp3 l Z a0 hw [] ca kc c0_ c1_ h0 n0 O0 P3 (by first | assumption | omega | decide | simp_all : 0 ≤ c0_.toInt ∧ c0_.toInt ≤ 255) (by first | assumption | omega | decide | simp_all : 0 ≤ c1_.toInt ∧ c1_.toInt ≤ 255)) hZ (hw _ (List.mem_of_getElem? (i := 73) rfl)) (hw _ (List.mem_of_getElem? (i := 72) rfl)) (by decide) (by decide)) (g := (mkF m 36 #[.val (.ref ob), .val (.ref ca), .val (.int (0 : Int32)), .val (.int (2 : Int32)), .val .null, .unset] [(.int (2 : Int32)), (.int (0 : Int32)), (.ref ca)])) rfl (by rw [hml]; rfl) (argsL := [(.ref ca), (.int (0 : Int32)), (.int (2 : Int32))]) (rest := []) (lenOf pd_1 rfl) rfl (by show 2 * 0 + _ ≤ _; exact Nat.le_of_eq rfl) (hb hby d3_36) (fun _ _ => ⟨rfl, e3, (by decide : 0 + 1 ≤ _), (by decide : 0 + 2 ≤ _)⟩)
  dsimp only [Pt.U, Pt.locs, Pt.cells, Pt.slots] at X4 l4 y4 z4 st4 hQ4
  subst l4 y4 z4
  obtain ⟨bb_4, kb_4, rfl, N4q, K4, fz4_bb, F4_0⟩ := hQ4
  have N4 := Fr.app N0 N4q
  have ge_bb_4 : n0 ≤ bb_4 := Nat.le_trans (own_old_size O0) fz4_bb
  have sz_bb_4 : h0.size ≤ bb_4 := Nat.le_trans (Keep.refl h0 [ob]).1 fz4_bb
  have ne5 : ob ≠ bb_4 := Nat.ne_of_lt (Nat.lt_of_lt_of_le P0.lt fz4_bb)
  have ne6 : ca ≠ bb_4 := Nat.ne_of_lt (Nat.lt_of_lt_of_le P3.lt fz4_bb)
  refine Go.by st4 ?_
  show Go p e below _ (T4.setTop (mkF m 39 #[.val (.ref ob), .val (.ref ca), .val (.int (0 : Int32)), .val (.int (2 : Int32)), .val .null, .unset] [(.ref bb_4)]))
  refine Go.by (fun t k => XS.astore X4.here hx rfl (hb hby d3_39) rfl rfl (l' := #[.val (.ref ob), .val (.ref ca), .val (.int (0 : Int32)), .val (.int (2 : Int32)), .val .null, .val (.ref bb_4)]) rfl k) ?_
  show Go p e below _ (T4.setTop (mkF m 41 #[.val (.ref ob), .val (.ref ca), .val (.int (0 : Int32)), .val (.int (2 : Int32)), .val .null, .val (.ref bb_4)] []))
  refine Go.by (fun t k => XS.aloadN X4.here hx rfl (hb hby d3_41) rfl rfl k) ?_
  show Go p e below _ (T4.setTop (mkF m 42 #[.val (.ref ob), .val (.ref ca), .val (.int (0 : Int32)), .val (.int (2 : Int32)), .val .null, .val (.ref bb_4)] [(.ref ob)]))
  refine Go.by (fun t k => XS.aload X4.here hx rfl (hb hby d3_42) rfl rfl k) ?_
  show Go p e below _ (T4.setTop (mkF m 44 #[.val (.ref ob), .val (.ref ca), .val (.int (0 : Int32)), .val (.int (2 : Int32)), .val .null, .val (.ref bb_4)] [(.ref bb_4), (.ref ob)]))
  refine Go.by (fun t k => XS.iloadN X4.here hx rfl (hb hby d3_44) rfl k) ?_
  show Go p e below _ (T4.setTop (mkF m 45 #[.val (.ref ob), .val (.ref ca), .val (.int (0 : Int32)), .val (.int (2 : Int32)), .val .null, .val (.ref bb_4)] [(.int (2 : Int32)), (.ref bb_4), (.ref ob)]))
  have F8 : Old Z n0 T4.heap := (O0.keep K4 all0)
  have F9 : Keep h0 T4.heap [ob] := ((Keep.refl h0 [ob]).trans K4 all0)
  obtain ⟨_, _, ⟨T7, L7, k7, n7⟩, -, X7, ⟨Lc7, hQ7, l7, y7, z7⟩, st7⟩ := Jvm.LawKit.callS X4 hx (y := (⟨"java/lang/StringUTF16", "coderFromArrayLen", "([BI)B"⟩ : MethodName)) hown (mvT hZ (hw _ (List.mem_of_getElem? (i := 77) rfl))) (mvT hZ (hw _ (List.mem_of_getElem? (i := 78) rfl))) (mvT hZ (hw _ (List.mem_of_getElem? (i := 72) rfl))) (mvT hZ (hw _ (List.mem_of_getElem? (i := 79) rfl))) (by decide) (backOf (W := 1) (coderLen l Z a0 hw [] bb_4 kb_4 ([(.int (nar .byte (c0_.toInt8.toInt32))), (.int (nar .byte (c1_.toInt8.toInt32)))]) T4.heap n0 F8 F4_0) hZ (hw _ (List.mem_of_getElem? (i := 79) rfl)) (hw _ (List.mem_of_getElem? (i := 72) rfl)) (by decide) (by decide)) (g := (mkF m 45 #[.val (.ref ob), .val (.ref ca), .val (.int (0 : Int32)), .val (.int (2 : Int32)), .val .null, .val (.ref bb_4)] [(.int (2 : Int32)), (.ref bb_4), (.ref ob)])) rfl (by rw [hml]; rfl) (argsL := [(.ref bb_4), (.int (2 : Int32))]) (rest := [(.ref ob)]) (lenOf pd_2 rfl) rfl (by show 2 * 0 + _ ≤ _; exact Nat.le_of_eq rfl) (hb hby d3_45) (fun _ _ => ⟨rfl, rfl, (by decide : 1 + 0 ≤ _), (by decide : 2 + 0 ≤ _)⟩)
  dsimp only [Pt.U, Pt.locs, Pt.cells, Pt.slots] at X7 l7 y7 z7 st7 hQ7
  subst l7 y7 z7
  obtain ⟨rfl, N7q, e7⟩ := hQ7
  have N7 := Fr.app N4 N7q
  refine Go.by st7 ?_
  show Go p e below _ (T7.setTop (mkF m 48 #[.val (.ref ob), .val (.ref ca), .val (.int (0 : Int32)), .val (.int (2 : Int32)), .val .null, .val (.ref bb_4)] [(.int (0 : Int32)), (.ref ob)]))
  have F10 : Fld Z T4.heap ob "java/lang/String" "coder" "B" (.int (0 : Int32)) := (P2.keep K4 nin0)
  have F11 : Exa Z T4.heap ob "java/lang/String" := (P0.keep K4)
  obtain ⟨T12, h12, X12, e12, W12, st12⟩ := putFN X7 hx hZ hown (hw _ (List.mem_of_getElem? (i := 28) rfl)) Via.refl e7 F10 F11 (Or.inr ⟨(hw _ (List.mem_of_getElem? (i := 24) rfl)), rfl, hnm⟩) (hw _ (List.mem_of_getElem? (i := 8) rfl)) (ty := .byte) (v' := (.int (0 : Int32))) (by decide) rfl rfl (g := (mkF m 48 #[.val (.ref ob), .val (.ref ca), .val (.int (0 : Int32)), .val (.int (2 : Int32)), .val .null, .val (.ref bb_4)] [(.int (0 : Int32)), (.ref ob)])) rfl rfl (hb hby d3_48)
  have N12 := Fr.snoc X12 N7 gob
  have F13 : Fld Z h12 ob "java/lang/String" "coder" "B" (.int (0 : Int32)) := F10.same W12
  refine Go.by st12 ?_
  show Go p e below _ (T12.setTop (mkF m 51 #[.val (.ref ob), .val (.ref ca), .val (.int (0 : Int32)), .val (.int (2 : Int32)), .val .null, .val (.ref bb_4)] []))
  refine Go.by (fun t k => XS.aloadN X12.here hx rfl (hb hby d3_51) rfl rfl k) ?_
  show Go p e below _ (T12.setTop (mkF m 52 #[.val (.ref ob), .val (.ref ca), .val (.int (0 : Int32)), .val (.int (2 : Int32)), .val .null, .val (.ref bb_4)] [(.ref ob)]))
  refine Go.by (fun t k => XS.aload X12.here hx rfl (hb hby d3_52) rfl rfl k) ?_
  show Go p e below _ (T12.setTop (mkF m 54 #[.val (.ref ob), .val (.ref ca), .val (.int (0 : Int32)), .val (.int (2 : Int32)), .val .null, .val (.ref bb_4)] [(.ref bb_4), (.ref ob)]))
  have F14 : Fld Z h12 ob "java/lang/String" "value" "[B" .null := ((P1.keep K4 nin0).other W12 (Or.inr (slot_ne (Or.inr (hw _ (List.mem_of_getElem? (i := 23) rfl))) (Or.inr (hw _ (List.mem_of_getElem? (i := 24) rfl))) (by decide) (t := (.array .byte)) (t' := .byte) (by decide) (by decide))))
  have F15 : Exa Z h12 ob "java/lang/String" := (F11.wr W12)
  obtain ⟨T16, h16, X16, e16, W16, st16⟩ := putF X12 hx hZ hown (host := "") (Or.inl (hw _ (List.mem_of_getElem? (i := 27) rfl))) Via.refl e12 F14 F15 (Or.inr ⟨(hw _ (List.mem_of_getElem? (i := 23) rfl)), rfl, hnm⟩) (hw _ (List.mem_of_getElem? (i := 8) rfl)) (ty := (.array .byte)) (by decide) rfl rfl (g := (mkF m 54 #[.val (.ref ob), .val (.ref ca), .val (.int (0 : Int32)), .val (.int (2 : Int32)), .val .null, .val (.ref bb_4)] [(.ref bb_4), (.ref ob)])) rfl rfl (hb hby d3_54)
  have N16 := Fr.snoc X16 N12 gob
  have F17 : Fld Z h16 ob "java/lang/String" "value" "[B" (.ref bb_4) := F14.same W16
  refine Go.by st16 ?_
  show Go p e below _ (T16.setTop (mkF m 57 #[.val (.ref ob), .val (.ref ca), .val (.int (0 : Int32)), .val (.int (2 : Int32)), .val .null, .val (.ref bb_4)] []))
  have F18 : Keep h0 h16 [ob] := ((F9.wr W12 (Or.inl (List.mem_of_getElem? (i := 0) rfl))).wr W16 (Or.inl (List.mem_of_getElem? (i := 0) rfl)))
  have F19 : Exa Z h16 ob "java/lang/String" := (F15.wr W16)
  have F20 : Fld Z h16 ob "java/lang/String" "coder" "B" (.int (0 : Int32)) := (F13.other W16 (Or.inr (slot_ne (Or.inr (hw _ (List.mem_of_getElem? (i := 24) rfl))) (Or.inr (hw _ (List.mem_of_getElem? (i := 23) rfl))) (by decide) (t := .byte) (t' := (.array .byte)) (by decide) (by decide))))
  have F21 : Arv Z h16 bb_4 kb_4 .byte (2 : Int32) [(.int (nar .byte (c0_.toInt8.toInt32))), (.int (nar .byte (c1_.toInt8.toInt32)))] (.int (0 : Int32)) := ((F4_0.other W12 (Ne.symm ne5)).other W16 (Ne.symm ne5))
  have hq : Q_init4_2 Z ob ca kc c0_ c1_ cs h0 n0 none h16 _ := ⟨bb_4, kb_4, rfl, N16, F18, sz_bb_4, F19, F20, F17, F21⟩
  exact Go.ret0 X16 hx Bd.returns hlk (hb hby d3_57) (by decide) (by decide) (by rw [e16]; exact hq)
theorem d2_0 : decode jdk_42_method_3_code 0 = .ok (.aload_n 0, 1) := by decide +kernel
theorem d2_1 : decode jdk_42_method_3_code 1 = .ok (.aload_n 1, 1) := by decide +kernel
theorem d2_2 : decode jdk_42_method_3_code 2 = .ok (.iconst 0, 1) := by decide +kernel
theorem d2_3 : decode jdk_42_method_3_code 3 = .ok (.aload_n 1, 1) := by decide +kernel
theorem d2_4 : decode jdk_42_method_3_code 4 = .ok (.arraylength, 1) := by decide +kernel
theorem d2_5 : decode jdk_42_method_3_code 5 = .ok (.aconst_null, 1) := by decide +kernel
theorem d2_6 : decode jdk_42_method_3_code 6 = .ok (.invokespecial 27, 3) := by decide +kernel
theorem pd_3 : parseMethodDescriptor "([CIILjava/lang/Void;)V" = some ⟨[(.array .char), .int, .int, (.object "java/lang/Void")], none⟩ := by decide +kernel
theorem d2_9 : decode jdk_42_method_3_code 9 = .ok (.return_, 1) := by decide +kernel
theorem ef_init1_2 (m : MethodId) (ob : Addr) (ca : Addr) : entryFrame m #[(.ref ob), (.ref ca)] 2 = mkF m 0 #[.val (.ref ob), .val (.ref ca)] [] := by first | (simp [entryFrame, mkF, argsToLocals, Value.category]; done) | rfl
def Q_init1_2 (Z : State) (ob : Addr) (ca : Addr) (kc : ClassId) (c0_ : Int32) (c1_ : Int32) (cs : Int32) (h0 : Heap) (n0 : Nat) (v : Option Value) (h : Heap) (L : List Loc) : Prop := ∃ xb : Addr, ∃ kb : ClassId, v = none ∧ Fr n0 L ∧ Keep h0 h [ob] ∧ h0.size ≤ xb ∧ Exa Z h ob "java/lang/String" ∧ Fld Z h ob "java/lang/String" "coder" "B" (.int (0 : Int32)) ∧ Fld Z h ob "java/lang/String" "value" "[B" (.ref xb) ∧ Arv Z h xb kb .byte (2 : Int32) [(.int (nar .byte (c0_.toInt8.toInt32))), (.int (nar .byte (c1_.toInt8.toInt32)))] (.int (0 : Int32))
set_option maxRecDepth 65536 in
set_option maxHeartbeats 40000000 in
theorem init1_2 (l : Launch) (Z : State) (a0 : Array Value) (hw : ∀ d ∈ tables_1, d.before a0 Z = true) (ws : List Jvm.Cond) (ob : Addr) (ca : Addr) (kc : ClassId) (c0_ : Int32) (c1_ : Int32) (cs : Int32) (h0 : Heap) (n0 : Nat) (O0 : Old Z n0 h0) (P0 : Exa Z h0 ob "java/lang/String") (P1 : Fld Z h0 ob "java/lang/String" "value" "[B" .null) (P2 : Fld Z h0 ob "java/lang/String" "coder" "B" (.int (0 : Int32))) (P3 : Arv Z h0 ca kc .char (2 : Int32) [(.int c0_), (.int c1_)] (.int (0 : Int32))) (P4 : Sta Z Z.heap "java/lang/String" "COMPACT_STRINGS" "Z" (.int cs)) (gob : n0 ≤ ob) (nco : ca ≠ ob) (hcs : cs ≠ (0 : Int32)) (hq0 : 0 ≤ c0_.toInt ∧ c0_.toInt ≤ 255) (hq1 : 0 ≤ c1_.toInt ∧ c1_.toInt ≤ 255) :
    MetFree l (⟨"java/lang/String", "<init>", "([C)V"⟩ : MethodName) (head1 (Jvm.Cond.code (⟨"java/lang/String", "<init>", "([C)V"⟩ : MethodName) jdk_42_method_3_code 2 none :: ws) ({ frames := 3, cells := 1, slots := 2, locals := 52 } : Room)) (fun a U => a = #[(.ref ob), (.ref ca)] ∧ Z.Warmed39 U.vm ∧ U.heap = h0) (fun _ _ _ _ _ => True) (fun _ U o U' => ∃ v L, o = .returned v ∧ Q_init1_2 Z ob ca kc c0_ c1_ cs h0 n0 v U'.heap L ∧ FrameEnd U o U' L ({ frames := 3, cells := 1, slots := 2, locals := 52 } : Room).cells ({ frames := 3, cells := 1, slots := 2, locals := 52 } : Room).slots) := by
  refine MetFree.of_bodySF (plainFor_of_name pn_1) hisR ?_
  intro p e s m args below meth c s₁ Bd hml0 hP hK
  obtain ⟨rfl, hZ, hh⟩ := hP
  have hx := Bd.exec
  have hby := Bd.bytes
  have hml : c.maxLocals = 2 := hml0
  have hown : s.vm.findClass "java/lang/String" = some m.cls := findClass_of_methodNamed Bd.named
  have hnm := (name_of_methodNamed Bd.named Bd.method).1
  have hlk := BodyLoose.notSynchronized Bd
  have X0 : Stand p l e ({ frames := 3, cells := 1, slots := 2, locals := 52 } : Room) s m #[(.ref ob), (.ref ca)] below meth c s₁ [] 0 0 := Stand.of_body Bd
  have e0 : s₁.heap = h0 := by rw [← hh, Bd.state]; rfl
  have N0 := Fr.nil n0
  refine Go.start (P := fun o U' => ∃ v L, o = .returned v ∧ Q_init1_2 Z ob ca kc c0_ c1_ cs h0 n0 v U'.heap L ∧ FrameEnd s o U' L ({ frames := 3, cells := 1, slots := 2, locals := 52 } : Room).cells ({ frames := 3, cells := 1, slots := 2, locals := 52 } : Room).slots) (ef_init1_2 m ob ca) ?_
  show Go p e below _ (s₁.setTop (mkF m 0 #[.val (.ref ob), .val (.ref ca)] []))
  refine Go.by (fun t k => XS.aloadN X0.here hx rfl (hb hby d2_0) rfl rfl k) ?_
  show Go p e below _ (s₁.setTop (mkF m 1 #[.val (.ref ob), .val (.ref ca)] [(.ref ob)]))
  refine Go.by (fun t k => XS.aloadN X0.here hx rfl (hb hby d2_1) rfl rfl k) ?_
  show Go p e below _ (s₁.setTop (mkF m 2 #[.val (.ref ob), .val (.ref ca)] [(.ref ca), (.ref ob)]))
  refine Go.by (fun t k => XS.iconst X0.here hx rfl (hb hby d2_2) k) ?_
  show Go p e below _ (s₁.setTop (mkF m 3 #[.val (.ref ob), .val (.ref ca)] [(.int (0 : Int32)), (.ref ca), (.ref ob)]))
  refine Go.by (fun t k => XS.aloadN X0.here hx rfl (hb hby d2_3) rfl rfl k) ?_
  show Go p e below _ (s₁.setTop (mkF m 4 #[.val (.ref ob), .val (.ref ca)] [(.ref ca), (.int (0 : Int32)), (.ref ca), (.ref ob)]))
  obtain ⟨cl1, Ar1, qk1, sz1, nn1, Ha1, Gf1⟩ := id P3
  have hl1 : cl1.slots.size.toInt32 = (2 : Int32) := len_of sz1 nn1
  refine Go.by (fun t k => X0.arraylength hx (by rw [e0]; exact Ar1.1) (State.isArrayOf_alike hZ.alike Ar1.2.1) (g := (mkF m 4 #[.val (.ref ob), .val (.ref ca)] [(.ref ca), (.int (0 : Int32)), (.ref ca), (.ref ob)])) rfl rfl (hb hby d2_4) t (by rw [hl1]; exact k)) ?_
  show Go p e below _ (s₁.setTop (mkF m 5 #[.val (.ref ob), .val (.ref ca)] [(.int (2 : Int32)), (.int (0 : Int32)), (.ref ca), (.ref ob)]))
  refine Go.by (fun t k => XS.aconstNull X0.here hx rfl (hb hby d2_5) k) ?_
  show Go p e below _ (s₁.setTop (mkF m 6 #[.val (.ref ob), .val (.ref ca)] [.null, (.int (2 : Int32)), (.int (0 : Int32)), (.ref ca), (.ref ob)]))
  obtain ⟨_, _, ⟨T2, L2, k2, n2⟩, -, X2, ⟨Lc2, hQ2, l2, y2, z2⟩, st2⟩ := X0.specialBack hx (y := (⟨"java/lang/String", "<init>", "([CIILjava/lang/Void;)V"⟩ : MethodName)) rfl hown (mvT hZ (hw _ (List.mem_of_getElem? (i := 14) rfl))) (mvT hZ (hw _ (List.mem_of_getElem? (i := 15) rfl))) (mvT hZ (hw _ (List.mem_of_getElem? (i := 17) rfl))) (by decide) (backOf (W := 0) (init4_2 l Z a0 hw [] ob ca kc c0_ c1_ cs h0 n0 O0 P0 P1 P2 P3 P4 gob nco (by first | assumption | omega | decide | simp_all : cs ≠ (0 : Int32)) (by first | assumption | omega | decide | simp_all : 0 ≤ c0_.toInt ∧ c0_.toInt ≤ 255) (by first | assumption | omega | decide | simp_all : 0 ≤ c1_.toInt ∧ c1_.toInt ≤ 255)) hZ (hw _ (List.mem_of_getElem? (i := 17) rfl)) (hw _ (List.mem_of_getElem? (i := 9) rfl)) (by decide) (by decide)) (g := (mkF m 6 #[.val (.ref ob), .val (.ref ca)] [.null, (.int (2 : Int32)), (.int (0 : Int32)), (.ref ca), (.ref ob)])) rfl (by rw [hml]; rfl) (Steps.refl _) (a := ob) (argsL := [(.ref ca), (.int (0 : Int32)), (.int (2 : Int32)), .null]) (rest := []) (lenOf pd_3 rfl) rfl (by show 2 * 0 + _ ≤ _; exact Nat.le_of_eq rfl) (hb hby d2_6) (fun _ _ => ⟨rfl, e0, (by decide : 0 + 1 ≤ _), (by decide : 0 + 2 ≤ _)⟩)
  dsimp only [Pt.U, Pt.locs, Pt.cells, Pt.slots] at X2 l2 y2 z2 st2 hQ2
  subst l2 y2 z2
  obtain ⟨xb_2, kb_2, rfl, N2q, K2, fz2_xb, F2_0, F2_1, F2_2, F2_3⟩ := hQ2
  have N2 := Fr.app N0 N2q
  have ge_xb_2 : n0 ≤ xb_2 := Nat.le_trans (own_old_size O0) fz2_xb
  have sz_xb_2 : h0.size ≤ xb_2 := Nat.le_trans (Keep.refl h0 [ob]).1 fz2_xb
  have ne3 : ob ≠ xb_2 := Nat.ne_of_lt (Nat.lt_of_lt_of_le P0.lt fz2_xb)
  have ne4 : ca ≠ xb_2 := Nat.ne_of_lt (Nat.lt_of_lt_of_le P3.lt fz2_xb)
  refine Go.tr st2 ?_
  show Go p e below _ (T2.setTop (mkF m 9 #[.val (.ref ob), .val (.ref ca)] []))
  have F5 : Keep h0 T2.heap [ob] := ((Keep.refl h0 [ob]).trans K2 (allS (Or.inl (List.mem_of_getElem? (i := 0) rfl)) all0))
  have hq : Q_init1_2 Z ob ca kc c0_ c1_ cs h0 n0 none T2.heap _ := ⟨xb_2, kb_2, rfl, N2, F5, sz_xb_2, F2_0, F2_1, F2_2, F2_3⟩
  exact Go.ret0 X2 hx Bd.returns hlk (hb hby d2_9) (by decide) (by decide) hq
theorem d3_8 : decode jdk_42_method_149_code 8 = .ok (.aload_n 0, 1) := by decide +kernel
theorem d3_9 : decode jdk_42_method_149_code 9 = .ok (.ldc 7, 2) := by decide +kernel
theorem d3_11 : decode jdk_42_method_149_code 11 = .ok (.getfield 9, 3) := by decide +kernel
theorem d3_14 : decode jdk_42_method_149_code 14 = .ok (.putfield 9, 3) := by decide +kernel
theorem d3_17 : decode jdk_42_method_149_code 17 = .ok (.aload_n 0, 1) := by decide +kernel
theorem d3_18 : decode jdk_42_method_149_code 18 = .ok (.ldc 7, 2) := by decide +kernel
theorem d3_20 : decode jdk_42_method_149_code 20 = .ok (.getfield 15, 3) := by decide +kernel
theorem d3_23 : decode jdk_42_method_149_code 23 = .ok (.putfield 15, 3) := by decide +kernel
theorem d3_26 : decode jdk_42_method_149_code 26 = .ok (.return_, 1) := by decide +kernel
theorem ef_init4_0 (m : MethodId) (ob : Addr) (ca : Addr) : entryFrame m #[(.ref ob), (.ref ca), (.int (0 : Int32)), (.int (0 : Int32)), .null] 6 = mkF m 0 #[.val (.ref ob), .val (.ref ca), .val (.int (0 : Int32)), .val (.int (0 : Int32)), .val .null, .unset] [] := by first | (simp [entryFrame, mkF, argsToLocals, Value.category]; done) | rfl
def Q_init4_0 (Z : State) (ob : Addr) (ca : Addr) (h0 : Heap) (n0 : Nat) (v : Option Value) (h : Heap) (L : List Loc) : Prop := ∃ xb : Addr, ∃ kb : ClassId, v = none ∧ Fr n0 L ∧ Keep h0 h [ob] ∧ Exa Z h ob "java/lang/String" ∧ Fld Z h ob "java/lang/String" "coder" "B" (.int (0 : Int32)) ∧ Fld Z h ob "java/lang/String" "value" "[B" (.ref xb) ∧ Arv Z h xb kb .byte (0 : Int32) [] (.int (0 : Int32))
set_option maxRecDepth 65536 in
set_option maxHeartbeats 40000000 in
theorem init4_0 (l : Launch) (Z : State) (a0 : Array Value) (hw : ∀ d ∈ tables_1, d.before a0 Z = true) (ws : List Jvm.Cond) (ob : Addr) (ca : Addr) (h0 : Heap) (n0 : Nat) (O0 : Old Z n0 h0) (P0 : Exa Z h0 ob "java/lang/String") (P1 : Fld Z h0 ob "java/lang/String" "value" "[B" .null) (P2 : Fld Z h0 ob "java/lang/String" "coder" "B" (.int (0 : Int32))) (gob : n0 ≤ ob) :
    MetFree l (⟨"java/lang/String", "<init>", "([CIILjava/lang/Void;)V"⟩ : MethodName) (head1 (Jvm.Cond.code (⟨"java/lang/String", "<init>", "([CIILjava/lang/Void;)V"⟩ : MethodName) jdk_42_method_149_code 6 none :: ws) ({ frames := 1, cells := 4, slots := 8, locals := 12 } : Room)) (fun a U => a = #[(.ref ob), (.ref ca), (.int (0 : Int32)), (.int (0 : Int32)), .null] ∧ Z.Warmed39 U.vm ∧ U.heap = h0 ∧ CHv Z own_EL U.vm h0) (fun _ _ _ _ _ => True) (fun _ U o U' => ∃ v L, o = .returned v ∧ Q_init4_0 Z ob ca h0 n0 v U'.heap L ∧ CHr Z own_EL U.vm U.heap U'.vm U'.heap ∧ ReturnedEndW U o U' L ({ frames := 1, cells := 4, slots := 8, locals := 12 } : Room).cells ({ frames := 1, cells := 4, slots := 8, locals := 12 } : Room).slots) := by
  refine MetFree.of_bodySF (plainFor_of_name pn_1) hisR ?_
  intro p e s m args below meth c s₁ Bd hml0 hP hK
  obtain ⟨rfl, hZ, hh, hCH⟩ := hP
  have hx := Bd.exec
  have hby := Bd.bytes
  have hml : c.maxLocals = 6 := hml0
  have hown : s.vm.findClass "java/lang/String" = some m.cls := findClass_of_methodNamed Bd.named
  have hnm := (name_of_methodNamed Bd.named Bd.method).1
  have hlk := BodyLoose.notSynchronized Bd
  have X0 : Stand p l e ({ frames := 1, cells := 4, slots := 8, locals := 12 } : Room) (s.setVm s.vm) m #[(.ref ob), (.ref ca), (.int (0 : Int32)), (.int (0 : Int32)), .null] below meth c s₁ [] 0 0 := Stand.of_body Bd
  have e0 : s₁.heap = h0 := by rw [← hh, Bd.state]; rfl
  have N0 := Fr.nil n0
  have hS : s.Since s.vm h0.size := (State.WarmedH.refl s).since _
  have hk0 : h0.size ≤ h0.size := Nat.le_refl _
  have wS : ∀ a ∈ Bundle.stringAtoms, a.before a0 Z = true := fun a q => hw a (own_sA a q)
  have hEL : EW Z a0 own_EL := own_EW hw
  have hR0 : CHr Z own_EL s.vm h0 s.vm h0 := CHr.refl hCH
  refine Go.start (P := fun o U' => ∃ v L, o = .returned v ∧ Q_init4_0 Z ob ca h0 n0 v U'.heap L ∧ CHr Z own_EL s.vm s.heap U'.vm U'.heap ∧ ReturnedEndW s o U' L ({ frames := 1, cells := 4, slots := 8, locals := 12 } : Room).cells ({ frames := 1, cells := 4, slots := 8, locals := 12 } : Room).slots) (ef_init4_0 m ob ca) ?_
  show Go p e below _ (s₁.setTop (mkF m 0 #[.val (.ref ob), .val (.ref ca), .val (.int (0 : Int32)), .val (.int (0 : Int32)), .val .null, .unset] []))
  have S0 : Safe Z own_EL s.vm h0 ob := own_safeNull hZ.alike P0 P1
  refine Go.by (fun t k => XS.aloadN X0.here hx rfl (hb hby d3_0) rfl rfl k) ?_
  show Go p e below _ (s₁.setTop (mkF m 1 #[.val (.ref ob), .val (.ref ca), .val (.int (0 : Int32)), .val (.int (0 : Int32)), .val .null, .unset] [(.ref ob)]))
  obtain ⟨T1, X1, e1, st1⟩ := initO X0 hx hZ hown (hw _ (List.mem_of_getElem? (i := 18) rfl)) (hw _ (List.mem_of_getElem? (i := 19) rfl)) (hw _ (List.mem_of_getElem? (i := 20) rfl)) e0 (g := (mkF m 1 #[.val (.ref ob), .val (.ref ca), .val (.int (0 : Int32)), .val (.int (0 : Int32)), .val .null, .unset] [(.ref ob)])) rfl (by rw [hml]; rfl) rfl (hb hby d3_1) (by decide) (W := 0) (by show 2 * 0 + _ ≤ _; exact Nat.le_of_eq rfl) (by decide)
  refine Go.by st1 ?_
  show Go p e below _ (T1.setTop (mkF m 4 #[.val (.ref ob), .val (.ref ca), .val (.int (0 : Int32)), .val (.int (0 : Int32)), .val .null, .unset] []))
  refine Go.by (fun t k => XS.iloadN X1.here hx rfl (hb hby d3_4) rfl k) ?_
  show Go p e below _ (T1.setTop (mkF m 5 #[.val (.ref ob), .val (.ref ca), .val (.int (0 : Int32)), .val (.int (0 : Int32)), .val .null, .unset] [(.int (0 : Int32))]))
  refine Go.by (fun t k => XS.ifNo X1.here hx rfl (hb hby d3_5) rfl ((if0 _ _).trans (teq rfl).2) k) ?_
  show Go p e below _ (T1.setTop (mkF m 8 #[.val (.ref ob), .val (.ref ca), .val (.int (0 : Int32)), .val (.int (0 : Int32)), .val .null, .unset] []))
  refine Go.by (fun t k => XS.aloadN X1.here hx rfl (hb hby d3_8) rfl rfl k) ?_
  show Go p e below _ (T1.setTop (mkF m 9 #[.val (.ref ob), .val (.ref ca), .val (.int (0 : Int32)), .val (.int (0 : Int32)), .val .null, .unset] [(.ref ob)]))
  obtain ⟨a2, T2, h2, k2, d2, kd2, X2, e2, E2, hS, hk2, hZ, hown, F2_e, F2_c, F2_v, F2_a, -, -, C2, -, ns2, st2⟩ := ldcCH X1 hx hZ hown (hw _ (List.mem_of_getElem? (i := 21) rfl)) wS e1 hS hk0 hEL (List.mem_of_getElem? (i := 0) rfl) hR0.1 (vs := []) (z := (0 : Int32)) ⟨by decide, rfl⟩ (by decide) rfl (g := (mkF m 9 #[.val (.ref ob), .val (.ref ca), .val (.int (0 : Int32)), .val (.int (0 : Int32)), .val .null, .unset] [(.ref ob)])) rfl (hb hby d3_9) (n := 0) (by decide) (by decide) (by decide) (by decide)
  have A2 := hR0.trans C2
  have ne3 := ns2 ob (A2.safe P0.lt S0)
  refine Go.by st2 ?_
  show Go p e below _ (T2.setTop (mkF m 11 #[.val (.ref ob), .val (.ref ca), .val (.int (0 : Int32)), .val (.int (0 : Int32)), .val .null, .unset] [(.ref a2), (.ref ob)]))
  obtain ⟨T4, X4, e4, st4⟩ := getF X2 hx hZ hown (host := "") (Or.inl (hw _ (List.mem_of_getElem? (i := 27) rfl))) Via.refl e2 F2_v (g := (mkF m 11 #[.val (.ref ob), .val (.ref ca), .val (.int (0 : Int32)), .val (.int (0 : Int32)), .val .null, .unset] [(.ref a2), (.ref ob)])) rfl rfl (hb hby d3_11)
  refine Go.by st4 ?_
  show Go p e below _ (T4.setTop (mkF m 14 #[.val (.ref ob), .val (.ref ca), .val (.int (0 : Int32)), .val (.int (0 : Int32)), .val .null, .unset] [(.ref d2), (.ref ob)]))
  have F5 : Fld Z h2 ob "java/lang/String" "value" "[B" .null := (P1.ext E2)
  have F6 : Exa Z h2 ob "java/lang/String" := (P0.ext E2)
  obtain ⟨T7, h7, X7, e7, W7, st7⟩ := putF X4 hx hZ hown (host := "") (Or.inl (hw _ (List.mem_of_getElem? (i := 27) rfl))) Via.refl e4 F5 F6 (Or.inr ⟨(hw _ (List.mem_of_getElem? (i := 23) rfl)), rfl, hnm⟩) (hw _ (List.mem_of_getElem? (i := 8) rfl)) (ty := (.array .byte)) (by decide) rfl rfl (g := (mkF m 14 #[.val (.ref ob), .val (.ref ca), .val (.int (0 : Int32)), .val (.int (0 : Int32)), .val .null, .unset] [(.ref d2), (.ref ob)])) rfl rfl (hb hby d3_14)
  have N7 := Fr.snoc X7 N0 gob
  have F8 : Fld Z h7 ob "java/lang/String" "value" "[B" (.ref d2) := F5.same W7
  refine Go.by st7 ?_
  show Go p e below _ (T7.setTop (mkF m 17 #[.val (.ref ob), .val (.ref ca), .val (.int (0 : Int32)), .val (.int (0 : Int32)), .val .null, .unset] []))
  refine Go.by (fun t k => XS.aloadN X7.here hx rfl (hb hby d3_17) rfl rfl k) ?_
  show Go p e below _ (T7.setTop (mkF m 18 #[.val (.ref ob), .val (.ref ca), .val (.int (0 : Int32)), .val (.int (0 : Int32)), .val .null, .unset] [(.ref ob)]))
  have F9 : k2 ≤ h7.size := (Nat.le_trans hk2 (Nat.le_of_eq W7.size.symm))
  have F10 : CHr Z own_EL s.vm h0 T2.vm h7 := (own_chW A2 W7 (A2.safe P0.lt S0))
  obtain ⟨a11, T11, h11, k11, d11, kd11, X11, e11, E11, hS, hk11, hZ, hown, F11_e, F11_c, F11_v, F11_a, -, -, C11, -, ns11, st11⟩ := ldcCH X7 hx hZ hown (hw _ (List.mem_of_getElem? (i := 21) rfl)) wS e7 hS F9 hEL (List.mem_of_getElem? (i := 0) rfl) F10.1 (vs := []) (z := (0 : Int32)) ⟨by decide, rfl⟩ (by decide) rfl (g := (mkF m 18 #[.val (.ref ob), .val (.ref ca), .val (.int (0 : Int32)), .val (.int (0 : Int32)), .val .null, .unset] [(.ref ob)])) rfl (hb hby d3_18) (n := 0) (by decide) (by decide) (by decide) (by decide)
  have A11 := F10.trans C11
  have ne12 := ns11 ob (A11.safe P0.lt S0)
  refine Go.by st11 ?_
  show Go p e below _ (T11.setTop (mkF m 20 #[.val (.ref ob), .val (.ref ca), .val (.int (0 : Int32)), .val (.int (0 : Int32)), .val .null, .unset] [(.ref a11), (.ref ob)]))
  obtain ⟨T13, X13, e13, st13⟩ := getF X11 hx hZ hown (host := "") (Or.inl (hw _ (List.mem_of_getElem? (i := 28) rfl))) Via.refl e11 F11_c (g := (mkF m 20 #[.val (.ref ob), .val (.ref ca), .val (.int (0 : Int32)), .val (.int (0 : Int32)), .val .null, .unset] [(.ref a11), (.ref ob)])) rfl rfl (hb hby d3_20)
  refine Go.by st13 ?_
  show Go p e below _ (T13.setTop (mkF m 23 #[.val (.ref ob), .val (.ref ca), .val (.int (0 : Int32)), .val (.int (0 : Int32)), .val .null, .unset] [(.int (0 : Int32)), (.ref ob)]))
  have F14 : Fld Z h11 ob "java/lang/String" "coder" "B" (.int (0 : Int32)) := (((P2.ext E2).other W7 (Or.inr (slot_ne (Or.inr (hw _ (List.mem_of_getElem? (i := 24) rfl))) (Or.inr (hw _ (List.mem_of_getElem? (i := 23) rfl))) (by decide) (t := .byte) (t' := (.array .byte)) (by decide) (by decide)))).ext E11)
  have F15 : Exa Z h11 ob "java/lang/String" := ((F6.wr W7).ext E11)
  obtain ⟨T16, h16, X16, e16, W16, st16⟩ := putFN X13 hx hZ hown (hw _ (List.mem_of_getElem? (i := 28) rfl)) Via.refl e13 F14 F15 (Or.inr ⟨(hw _ (List.mem_of_getElem? (i := 24) rfl)), rfl, hnm⟩) (hw _ (List.mem_of_getElem? (i := 8) rfl)) (ty := .byte) (v' := (.int (0 : Int32))) (by decide) rfl rfl (g := (mkF m 23 #[.val (.ref ob), .val (.ref ca), .val (.int (0 : Int32)), .val (.int (0 : Int32)), .val .null, .unset] [(.int (0 : Int32)), (.ref ob)])) rfl rfl (hb hby d3_23)
  have N16 := Fr.snoc X16 N7 gob
  have F17 : Fld Z h16 ob "java/lang/String" "coder" "B" (.int (0 : Int32)) := F14.same W16
  refine Go.by st16 ?_
  show Go p e below _ (T16.setTop (mkF m 26 #[.val (.ref ob), .val (.ref ca), .val (.int (0 : Int32)), .val (.int (0 : Int32)), .val .null, .unset] []))
  have F18 : Keep h0 h16 [ob] := (((((Keep.refl h0 [ob]).ext E2).wr W7 (Or.inl (List.mem_of_getElem? (i := 0) rfl))).ext E11).wr W16 (Or.inl (List.mem_of_getElem? (i := 0) rfl)))
  have F19 : Exa Z h16 ob "java/lang/String" := (F15.wr W16)
  have F20 : Fld Z h16 ob "java/lang/String" "value" "[B" (.ref d2) := ((F8.ext E11).other W16 (Or.inr (slot_ne (Or.inr (hw _ (List.mem_of_getElem? (i := 23) rfl))) (Or.inr (hw _ (List.mem_of_getElem? (i := 24) rfl))) (by decide) (t := (.array .byte)) (t' := .byte) (by decide) (by decide))))
  have F21 : Arv Z h16 d2 kd2 .byte (0 : Int32) [] (.int (0 : Int32)) := (((F2_a.other W7 (Ne.symm ne3.2)).ext E11).other W16 (Ne.symm ne3.2))
  have hq : Q_init4_0 Z ob ca h0 n0 none h16 _ := ⟨d2, kd2, rfl, N16, F18, F19, F17, F20, F21⟩
  have F22 : CHr Z own_EL s.vm h0 T11.vm h16 := (own_chW A11 W16 (A11.safe P0.lt S0))
  have F23 : k11 ≤ h16.size := (Nat.le_trans hk11 (Nat.le_of_eq W16.size.symm))
  exact Go.ret0H hS (by rw [e16]; exact F23) (own_chEnd X16 e16 hZ hEL F22 hh) X16 hx Bd.returns hlk (hb hby d3_26) (by decide) (by decide) (by rw [e16]; exact hq)
theorem ef_init1_0 (m : MethodId) (ob : Addr) (ca : Addr) : entryFrame m #[(.ref ob), (.ref ca)] 2 = mkF m 0 #[.val (.ref ob), .val (.ref ca)] [] := by first | (simp [entryFrame, mkF, argsToLocals, Value.category]; done) | rfl
def Q_init1_0 (Z : State) (ob : Addr) (ca : Addr) (kc : ClassId) (h0 : Heap) (n0 : Nat) (v : Option Value) (h : Heap) (L : List Loc) : Prop := ∃ xb : Addr, ∃ kb : ClassId, v = none ∧ Fr n0 L ∧ Keep h0 h [ob] ∧ Exa Z h ob "java/lang/String" ∧ Fld Z h ob "java/lang/String" "coder" "B" (.int (0 : Int32)) ∧ Fld Z h ob "java/lang/String" "value" "[B" (.ref xb) ∧ Arv Z h xb kb .byte (0 : Int32) [] (.int (0 : Int32))
set_option maxRecDepth 65536 in
set_option maxHeartbeats 40000000 in
theorem init1_0 (l : Launch) (Z : State) (a0 : Array Value) (hw : ∀ d ∈ tables_1, d.before a0 Z = true) (ws : List Jvm.Cond) (ob : Addr) (ca : Addr) (kc : ClassId) (h0 : Heap) (n0 : Nat) (O0 : Old Z n0 h0) (P0 : Exa Z h0 ob "java/lang/String") (P1 : Fld Z h0 ob "java/lang/String" "value" "[B" .null) (P2 : Fld Z h0 ob "java/lang/String" "coder" "B" (.int (0 : Int32))) (P3 : Arv Z h0 ca kc .char (0 : Int32) [] (.int (0 : Int32))) (gob : n0 ≤ ob) :
    MetFree l (⟨"java/lang/String", "<init>", "([C)V"⟩ : MethodName) (head1 (Jvm.Cond.code (⟨"java/lang/String", "<init>", "([C)V"⟩ : MethodName) jdk_42_method_3_code 2 none :: ws) ({ frames := 2, cells := 4, slots := 8, locals := 29 } : Room)) (fun a U => a = #[(.ref ob), (.ref ca)] ∧ Z.Warmed39 U.vm ∧ U.heap = h0 ∧ CHv Z own_EL U.vm h0) (fun _ _ _ _ _ => True) (fun _ U o U' => ∃ v L, o = .returned v ∧ Q_init1_0 Z ob ca kc h0 n0 v U'.heap L ∧ CHr Z own_EL U.vm U.heap U'.vm U'.heap ∧ ReturnedEndW U o U' L ({ frames := 2, cells := 4, slots := 8, locals := 29 } : Room).cells ({ frames := 2, cells := 4, slots := 8, locals := 29 } : Room).slots) := by
  refine MetFree.of_bodySF (plainFor_of_name pn_1) hisR ?_
  intro p e s m args below meth c s₁ Bd hml0 hP hK
  obtain ⟨rfl, hZ, hh, hCH⟩ := hP
  have hx := Bd.exec
  have hby := Bd.bytes
  have hml : c.maxLocals = 2 := hml0
  have hown : s.vm.findClass "java/lang/String" = some m.cls := findClass_of_methodNamed Bd.named
  have hnm := (name_of_methodNamed Bd.named Bd.method).1
  have hlk := BodyLoose.notSynchronized Bd
  have X0 : Stand p l e ({ frames := 2, cells := 4, slots := 8, locals := 29 } : Room) (s.setVm s.vm) m #[(.ref ob), (.ref ca)] below meth c s₁ [] 0 0 := Stand.of_body Bd
  have e0 : s₁.heap = h0 := by rw [← hh, Bd.state]; rfl
  have N0 := Fr.nil n0
  have hS : s.Since s.vm h0.size := (State.WarmedH.refl s).since _
  have hk0 : h0.size ≤ h0.size := Nat.le_refl _
  have wS : ∀ a ∈ Bundle.stringAtoms, a.before a0 Z = true := fun a q => hw a (own_sA a q)
  have hEL : EW Z a0 own_EL := own_EW hw
  have hR0 : CHr Z own_EL s.vm h0 s.vm h0 := CHr.refl hCH
  refine Go.start (P := fun o U' => ∃ v L, o = .returned v ∧ Q_init1_0 Z ob ca kc h0 n0 v U'.heap L ∧ CHr Z own_EL s.vm s.heap U'.vm U'.heap ∧ ReturnedEndW s o U' L ({ frames := 2, cells := 4, slots := 8, locals := 29 } : Room).cells ({ frames := 2, cells := 4, slots := 8, locals := 29 } : Room).slots) (ef_init1_0 m ob ca) ?_
  show Go p e below _ (s₁.setTop (mkF m 0 #[.val (.ref ob), .val (.ref ca)] []))
  refine Go.by (fun t k => XS.aloadN X0.here hx rfl (hb hby d2_0) rfl rfl k) ?_
  show Go p e below _ (s₁.setTop (mkF m 1 #[.val (.ref ob), .val (.ref ca)] [(.ref ob)]))
  refine Go.by (fun t k => XS.aloadN X0.here hx rfl (hb hby d2_1) rfl rfl k) ?_
  show Go p e below _ (s₁.setTop (mkF m 2 #[.val (.ref ob), .val (.ref ca)] [(.ref ca), (.ref ob)]))
  refine Go.by (fun t k => XS.iconst X0.here hx rfl (hb hby d2_2) k) ?_
  show Go p e below _ (s₁.setTop (mkF m 3 #[.val (.ref ob), .val (.ref ca)] [(.int (0 : Int32)), (.ref ca), (.ref ob)]))
  refine Go.by (fun t k => XS.aloadN X0.here hx rfl (hb hby d2_3) rfl rfl k) ?_
  show Go p e below _ (s₁.setTop (mkF m 4 #[.val (.ref ob), .val (.ref ca)] [(.ref ca), (.int (0 : Int32)), (.ref ca), (.ref ob)]))
  obtain ⟨cl1, Ar1, qk1, sz1, nn1, Ha1, Gf1⟩ := id P3
  have hl1 : cl1.slots.size.toInt32 = (0 : Int32) := len_of sz1 nn1
  refine Go.by (fun t k => X0.arraylength hx (by rw [e0]; exact Ar1.1) (State.isArrayOf_alike hZ.alike Ar1.2.1) (g := (mkF m 4 #[.val (.ref ob), .val (.ref ca)] [(.ref ca), (.int (0 : Int32)), (.ref ca), (.ref ob)])) rfl rfl (hb hby d2_4) t (by rw [hl1]; exact k)) ?_
  show Go p e below _ (s₁.setTop (mkF m 5 #[.val (.ref ob), .val (.ref ca)] [(.int (0 : Int32)), (.int (0 : Int32)), (.ref ca), (.ref ob)]))
  refine Go.by (fun t k => XS.aconstNull X0.here hx rfl (hb hby d2_5) k) ?_
  show Go p e below _ (s₁.setTop (mkF m 6 #[.val (.ref ob), .val (.ref ca)] [.null, (.int (0 : Int32)), (.int (0 : Int32)), (.ref ca), (.ref ob)]))
  obtain ⟨_, _, ⟨T2, L2, k2, n2⟩, -, X2, sn2, gr2, ⟨Lc2, hQ2, l2, y2, z2, C2⟩, st2⟩ := X0.specialBackS hx (y := (⟨"java/lang/String", "<init>", "([CIILjava/lang/Void;)V"⟩ : MethodName)) rfl hown (mvT hZ (hw _ (List.mem_of_getElem? (i := 14) rfl))) (mvT hZ (hw _ (List.mem_of_getElem? (i := 15) rfl))) (mvT hZ (hw _ (List.mem_of_getElem? (i := 17) rfl))) (by decide) (backOfSH (W := 0) (init4_0 l Z a0 hw [] ob ca h0 n0 O0 P0 P1 P2 gob) hZ (hw _ (List.mem_of_getElem? (i := 17) rfl)) (hw _ (List.mem_of_getElem? (i := 9) rfl)) (by decide) (by decide) hEL hR0.1) (g := (mkF m 6 #[.val (.ref ob), .val (.ref ca)] [.null, (.int (0 : Int32)), (.int (0 : Int32)), (.ref ca), (.ref ob)])) rfl (by rw [hml]; rfl) (Steps.refl _) (a := ob) (argsL := [(.ref ca), (.int (0 : Int32)), (.int (0 : Int32)), .null]) (rest := []) (lenOf pd_3 rfl) rfl (by show 2 * 0 + _ ≤ _; exact Nat.le_of_eq rfl) (hb hby d2_6) (fun _ _ => ⟨rfl, e0, (by decide : 0 + 4 ≤ _), (by decide : 0 + 8 ≤ _)⟩)
  dsimp only [Pt.U, Pt.locs, Pt.cells, Pt.slots] at X2 l2 y2 z2 st2 hQ2 sn2 gr2 C2
  subst l2 y2 z2
  obtain ⟨X2, hS, hZ, hown⟩ := rebS hS (n1 := s₁.heap.size) (by rw [e0]; exact hk0) X2 sn2 gr2 hZ hown
  have hk2 : T2.heap.size ≤ T2.heap.size := Nat.le_refl _
  have A2 := hR0.trans C2
  obtain ⟨xb_2, kb_2, rfl, N2q, K2, F2_0, F2_1, F2_2, F2_3⟩ := hQ2
  have N2 := Fr.app N0 N2q
  refine Go.tr st2 ?_
  show Go p e below _ (T2.setTop (mkF m 9 #[.val (.ref ob), .val (.ref ca)] []))
  have F3 : Keep h0 T2.heap [ob] := ((Keep.refl h0 [ob]).trans K2 (allS (Or.inl (List.mem_of_getElem? (i := 0) rfl)) all0))
  have hq : Q_init1_0 Z ob ca kc h0 n0 none T2.heap _ := ⟨xb_2, kb_2, rfl, N2, F3, F2_0, F2_1, F2_2, F2_3⟩
  exact Go.ret0H hS hk2 (own_chEnd X2 rfl hZ hEL A2 hh) X2 hx Bd.returns hlk (hb hby d2_9) (by decide) (by decide) hq
theorem pn_2 : plainName "java/lang/StringLatin1" = true := by first | (simp [plainName, overriddenIn]; done) | decide +kernel
theorem d11_0 : decode jdk_43_method_3_code 0 = .ok (.iload_n 0, 1) := by decide +kernel
theorem d11_1 : decode jdk_43_method_3_code 1 = .ok (.sipush 255, 3) := by decide +kernel
theorem d11_4 : decode jdk_43_method_3_code 4 = .ok (.if_icmp .gt 7, 3) := by decide +kernel
theorem d11_7 : decode jdk_43_method_3_code 7 = .ok (.iconst 1, 1) := by decide +kernel
theorem d11_8 : decode jdk_43_method_3_code 8 = .ok (.goto 4, 3) := by decide +kernel
theorem d11_12 : decode jdk_43_method_3_code 12 = .ok (.ireturn, 1) := by decide +kernel
theorem ef_canEnc (m : MethodId) (c0_ : Int32) : entryFrame m #[(.int c0_)] 1 = mkF m 0 #[.val (.int c0_)] [] := by first | (simp [entryFrame, mkF, argsToLocals, Value.category]; done) | rfl
def Q_canEnc (Z : State) (c0_ : Int32) (h0 : Heap) (n0 : Nat) (v : Option Value) (h : Heap) (L : List Loc) : Prop := v = some (.int (1 : Int32)) ∧ Fr n0 L ∧ h = h0
set_option maxRecDepth 65536 in
set_option maxHeartbeats 40000000 in
theorem canEnc (l : Launch) (Z : State) (a0 : Array Value) (hw : ∀ d ∈ tables_1, d.before a0 Z = true) (ws : List Jvm.Cond) (c0_ : Int32) (h0 : Heap) (n0 : Nat) (O0 : Old Z n0 h0) (hq0 : 0 ≤ c0_.toInt ∧ c0_.toInt ≤ 255) :
    MetFree l (⟨"java/lang/StringLatin1", "canEncode", "(C)Z"⟩ : MethodName) (head1 (Jvm.Cond.code (⟨"java/lang/StringLatin1", "canEncode", "(C)Z"⟩ : MethodName) jdk_43_method_3_code 1 (some .boolean) :: ws) ({ frames := 0, cells := 0, slots := 0, locals := 0 } : Room)) (fun a U => a = #[(.int c0_)] ∧ Z.Warmed39 U.vm ∧ U.heap = h0) (fun _ _ _ _ _ => True) (fun _ U o U' => ∃ v L, o = .returned v ∧ Q_canEnc Z c0_ h0 n0 v U'.heap L ∧ FrameEnd U o U' L ({ frames := 0, cells := 0, slots := 0, locals := 0 } : Room).cells ({ frames := 0, cells := 0, slots := 0, locals := 0 } : Room).slots) := by
  refine MetFree.of_bodySF (plainFor_of_name pn_2) hisR ?_
  intro p e s m args below meth c s₁ Bd hml0 hP hK
  obtain ⟨rfl, hZ, hh⟩ := hP
  have hx := Bd.exec
  have hby := Bd.bytes
  have hml : c.maxLocals = 1 := hml0
  have hown : s.vm.findClass "java/lang/StringLatin1" = some m.cls := findClass_of_methodNamed Bd.named
  have hnm := (name_of_methodNamed Bd.named Bd.method).1
  have hlk := BodyLoose.notSynchronized Bd
  have X0 : Stand p l e ({ frames := 0, cells := 0, slots := 0, locals := 0 } : Room) s m #[(.int c0_)] below meth c s₁ [] 0 0 := Stand.of_body Bd
  have e0 : s₁.heap = h0 := by rw [← hh, Bd.state]; rfl
  have N0 := Fr.nil n0
  refine Go.start (P := fun o U' => ∃ v L, o = .returned v ∧ Q_canEnc Z c0_ h0 n0 v U'.heap L ∧ FrameEnd s o U' L ({ frames := 0, cells := 0, slots := 0, locals := 0 } : Room).cells ({ frames := 0, cells := 0, slots := 0, locals := 0 } : Room).slots) (ef_canEnc m c0_) ?_
  show Go p e below _ (s₁.setTop (mkF m 0 #[.val (.int c0_)] []))
  refine Go.by (fun t k => XS.iloadN X0.here hx rfl (hb hby d11_0) rfl k) ?_
  show Go p e below _ (s₁.setTop (mkF m 1 #[.val (.int c0_)] [(.int c0_)]))
  refine Go.by (fun t k => XS.sipush X0.here hx rfl (hb hby d11_1) k) ?_
  show Go p e below _ (s₁.setTop (mkF m 4 #[.val (.int c0_)] [(.int (255 : Int32)), (.int c0_)]))
  refine Go.by (fun t k => XS.icmpNo X0.here hx rfl (hb hby d11_4) rfl (flt (own_nle hq0)).2.2.1 k) ?_
  show Go p e below _ (s₁.setTop (mkF m 7 #[.val (.int c0_)] []))
  refine Go.by (fun t k => XS.iconst X0.here hx rfl (hb hby d11_7) k) ?_
  show Go p e below _ (s₁.setTop (mkF m 8 #[.val (.int c0_)] [(.int (1 : Int32))]))
  refine Go.by (fun t k => XS.goto X0.here hx rfl (pc0 := 8) (pc' := 12) rfl (hb hby d11_8) (by decide) (by decide) k) ?_
  show Go p e below _ (s₁.setTop (mkF m 12 #[.val (.int c0_)] [(.int (1 : Int32))]))
  have hq : Q_canEnc Z c0_ h0 n0 (some (.int (nar .boolean (1 : Int32)))) h0 _ := ⟨rfl, N0, rfl⟩
  exact Go.retN X0 hx (t := .boolean) Bd.returns (by simp) hlk (hb hby d11_12) (by decide) (by decide) (by rw [e0]; exact hq)
theorem d12_0 : decode jdk_43_method_46_code 0 = .ok (.iconst 1, 1) := by decide +kernel
theorem d12_1 : decode jdk_43_method_46_code 1 = .ok (.newarray .byte, 2) := by decide +kernel
theorem d12_3 : decode jdk_43_method_46_code 3 = .ok (.dup, 1) := by decide +kernel
theorem d12_4 : decode jdk_43_method_46_code 4 = .ok (.iconst 0, 1) := by decide +kernel
theorem d12_5 : decode jdk_43_method_46_code 5 = .ok (.iload_n 0, 1) := by decide +kernel
theorem d12_6 : decode jdk_43_method_46_code 6 = .ok (.i2b, 1) := by decide +kernel
theorem d12_7 : decode jdk_43_method_46_code 7 = .ok (.bastore, 1) := by decide +kernel
theorem d12_8 : decode jdk_43_method_46_code 8 = .ok (.areturn, 1) := by decide +kernel
theorem ef_toBytes (m : MethodId) (c0_ : Int32) : entryFrame m #[(.int c0_)] 1 = mkF m 0 #[.val (.int c0_)] [] := by first | (simp [entryFrame, mkF, argsToLocals, Value.category]; done) | rfl
def Q_toBytes (Z : State) (c0_ : Int32) (h0 : Heap) (n0 : Nat) (v : Option Value) (h : Heap) (L : List Loc) : Prop := ∃ bb : Addr, ∃ kb : ClassId, v = some (.ref bb) ∧ Fr n0 L ∧ Keep h0 h [] ∧ h0.size ≤ bb ∧ Arv Z h bb kb .byte (1 : Int32) [(.int (nar .byte (c0_.toInt8.toInt32)))] (.int (0 : Int32))
set_option maxRecDepth 65536 in
set_option maxHeartbeats 40000000 in
theorem toBytes (l : Launch) (Z : State) (a0 : Array Value) (hw : ∀ d ∈ tables_1, d.before a0 Z = true) (ws : List Jvm.Cond) (c0_ : Int32) (h0 : Heap) (n0 : Nat) (O0 : Old Z n0 h0) :
    MetFree l (⟨"java/lang/StringLatin1", "toBytes", "(C)[B"⟩ : MethodName) (head1 (Jvm.Cond.code (⟨"java/lang/StringLatin1", "toBytes", "(C)[B"⟩ : MethodName) jdk_43_method_46_code 1 (some (.array .byte)) :: ws) ({ frames := 0, cells := 1, slots := 1, locals := 0 } : Room)) (fun a U => a = #[(.int c0_)] ∧ Z.Warmed39 U.vm ∧ U.heap = h0) (fun _ _ _ _ _ => True) (fun _ U o U' => ∃ v L, o = .returned v ∧ Q_toBytes Z c0_ h0 n0 v U'.heap L ∧ FrameEnd U o U' L ({ frames := 0, cells := 1, slots := 1, locals := 0 } : Room).cells ({ frames := 0, cells := 1, slots := 1, locals := 0 } : Room).slots) := by
  refine MetFree.of_bodySF (plainFor_of_name pn_2) hisR ?_
  intro p e s m args below meth c s₁ Bd hml0 hP hK
  obtain ⟨rfl, hZ, hh⟩ := hP
  have hx := Bd.exec
  have hby := Bd.bytes
  have hml : c.maxLocals = 1 := hml0
  have hown : s.vm.findClass "java/lang/StringLatin1" = some m.cls := findClass_of_methodNamed Bd.named
  have hnm := (name_of_methodNamed Bd.named Bd.method).1
  have hlk := BodyLoose.notSynchronized Bd
  have X0 : Stand p l e ({ frames := 0, cells := 1, slots := 1, locals := 0 } : Room) s m #[(.int c0_)] below meth c s₁ [] 0 0 := Stand.of_body Bd
  have e0 : s₁.heap = h0 := by rw [← hh, Bd.state]; rfl
  have N0 := Fr.nil n0
  refine Go.start (P := fun o U' => ∃ v L, o = .returned v ∧ Q_toBytes Z c0_ h0 n0 v U'.heap L ∧ FrameEnd s o U' L ({ frames := 0, cells := 1, slots := 1, locals := 0 } : Room).cells ({ frames := 0, cells := 1, slots := 1, locals := 0 } : Room).slots) (ef_toBytes m c0_) ?_
  show Go p e below _ (s₁.setTop (mkF m 0 #[.val (.int c0_)] []))
  refine Go.by (fun t k => XS.iconst X0.here hx rfl (hb hby d12_0) k) ?_
  show Go p e below _ (s₁.setTop (mkF m 1 #[.val (.int c0_)] [(.int (1 : Int32))]))
  obtain ⟨T1, h1, k1, X1, e1, E1, A1, Q1, st1⟩ := newPE X0 hx hZ (hw _ (List.mem_of_getElem? (i := 22) rfl)) e0 (g := (mkF m 1 #[.val (.int c0_)] [(.int (1 : Int32))])) rfl (hb hby d12_1) rfl (by decide) (cap := 1) (by decide) (by decide) (by decide) (by decide) (ad := "[B") (by decide)
  obtain ⟨b1, g1⟩ : ∃ z, z = h0.size := ⟨_, rfl⟩
  rw [← g1] at A1 Q1 st1
  have gl1 : h0.size ≤ b1 := Nat.le_of_eq g1.symm
  have ge1 : n0 ≤ b1 := Nat.le_trans (own_old_size O0) gl1
  have sz1 : h0.size ≤ b1 := Nat.le_trans (Keep.refl h0 []).1 gl1
  have F2 : Arv Z h1 b1 k1 .byte (1 : Int32) [(.int (0 : Int32))] (.int (0 : Int32)) := (Arv.new A1 (by decide)).pad (pad_rep [] (.int (0 : Int32)) 1)
  refine Go.by st1 ?_
  show Go p e below _ (T1.setTop (mkF m 3 #[.val (.int c0_)] [(.ref b1)]))
  refine Go.by (fun t k => XS.dup X1.here hx rfl (hb hby d12_3) rfl rfl k) ?_
  show Go p e below _ (T1.setTop (mkF m 4 #[.val (.int c0_)] [(.ref b1), (.ref b1)]))
  refine Go.by (fun t k => XS.iconst X1.here hx rfl (hb hby d12_4) k) ?_
  show Go p e below _ (T1.setTop (mkF m 5 #[.val (.int c0_)] [(.int (0 : Int32)), (.ref b1), (.ref b1)]))
  refine Go.by (fun t k => XS.iloadN X1.here hx rfl (hb hby d12_5) rfl k) ?_
  show Go p e below _ (T1.setTop (mkF m 6 #[.val (.int c0_)] [(.int c0_), (.int (0 : Int32)), (.ref b1), (.ref b1)]))
  refine Go.by (fun t k => XS.i2b X1.here hx rfl (hb hby d12_6) rfl k) ?_
  show Go p e below _ (T1.setTop (mkF m 7 #[.val (.int c0_)] [(.int (c0_.toInt8.toInt32)), (.int (0 : Int32)), (.ref b1), (.ref b1)]))
  obtain ⟨cl3, Ar3, qk3, sz3, nn3, Ha3, Gf3⟩ := id F2
  have hin4 : ¬ ((0 : Int32) < 0 ∨ cl3.slots.size ≤ ((0 : Int32)).toNatClampNeg) := inb_of sz3 ⟨by decide, by decide⟩
  obtain ⟨T5, h5, X5, e5, W5, st5⟩ := stB X1 hx hZ e1 Ar3 (j := (0 : Int32)) hin4 (g := (mkF m 7 #[.val (.int c0_)] [(.int (c0_.toInt8.toInt32)), (.int (0 : Int32)), (.ref b1), (.ref b1)])) rfl rfl (hb hby d12_7)
  have N5 := Fr.snoc X5 N0 ge1
  have F6 : Arv Z h5 b1 k1 .byte (1 : Int32) [(.int (nar .byte (c0_.toInt8.toInt32)))] (.int (0 : Int32)) := Arv.set Ar3 qk3 sz3 nn3 Ha3 Gf3 (fits_nar_byte _) W5 0 rfl (Nat.le_of_ble_eq_true rfl)
  refine Go.by st5 ?_
  show Go p e below _ (T5.setTop (mkF m 8 #[.val (.int c0_)] [(.ref b1)]))
  have F7 : Keep h0 h5 [] := (((Keep.refl h0 []).ext E1).wr W5 (Or.inr sz1))
  have hq : Q_toBytes Z c0_ h0 n0 (some (.ref b1)) h5 _ := ⟨b1, k1, rfl, N5, F7, sz1, F6⟩
  exact Go.retA X5 hx Bd.returns rfl rfl hlk (hb hby d12_8) (by decide) (by decide) (by rw [e5]; exact hq)
theorem d13_0 : decode jdk_42_method_151_code 0 = .ok (.aload_n 0, 1) := by decide +kernel
theorem d13_1 : decode jdk_42_method_151_code 1 = .ok (.invokespecial 1, 3) := by decide +kernel
theorem d13_4 : decode jdk_42_method_151_code 4 = .ok (.aload_n 0, 1) := by decide +kernel
theorem d13_5 : decode jdk_42_method_151_code 5 = .ok (.aload_n 1, 1) := by decide +kernel
theorem d13_6 : decode jdk_42_method_151_code 6 = .ok (.putfield 9, 3) := by decide +kernel
theorem d13_9 : decode jdk_42_method_151_code 9 = .ok (.aload_n 0, 1) := by decide +kernel
theorem d13_10 : decode jdk_42_method_151_code 10 = .ok (.iload_n 2, 1) := by decide +kernel
theorem d13_11 : decode jdk_42_method_151_code 11 = .ok (.putfield 15, 3) := by decide +kernel
theorem d13_14 : decode jdk_42_method_151_code 14 = .ok (.return_, 1) := by decide +kernel
theorem ef_initBB (m : MethodId) (ob : Addr) (ba : Addr) : entryFrame m #[(.ref ob), (.ref ba), (.int (0 : Int32))] 3 = mkF m 0 #[.val (.ref ob), .val (.ref ba), .val (.int (0 : Int32))] [] := by first | (simp [entryFrame, mkF, argsToLocals, Value.category]; done) | rfl
def Q_initBB (Z : State) (ob : Addr) (ba : Addr) (h0 : Heap) (n0 : Nat) (v : Option Value) (h : Heap) (L : List Loc) : Prop := v = none ∧ Fr n0 L ∧ Keep h0 h [ob] ∧ Exa Z h ob "java/lang/String" ∧ Fld Z h ob "java/lang/String" "coder" "B" (.int (0 : Int32)) ∧ Fld Z h ob "java/lang/String" "value" "[B" (.ref ba)
set_option maxRecDepth 65536 in
set_option maxHeartbeats 40000000 in
theorem initBB (l : Launch) (Z : State) (a0 : Array Value) (hw : ∀ d ∈ tables_1, d.before a0 Z = true) (ws : List Jvm.Cond) (ob : Addr) (ba : Addr) (h0 : Heap) (n0 : Nat) (O0 : Old Z n0 h0) (P0 : Exa Z h0 ob "java/lang/String") (P1 : Fld Z h0 ob "java/lang/String" "value" "[B" .null) (P2 : Fld Z h0 ob "java/lang/String" "coder" "B" (.int (0 : Int32))) (gob : n0 ≤ ob) :
    MetFree l (⟨"java/lang/String", "<init>", "([BB)V"⟩ : MethodName) (head1 (Jvm.Cond.code (⟨"java/lang/String", "<init>", "([BB)V"⟩ : MethodName) jdk_42_method_151_code 3 none :: ws) ({ frames := 1, cells := 0, slots := 0, locals := 12 } : Room)) (fun a U => a = #[(.ref ob), (.ref ba), (.int (0 : Int32))] ∧ Z.Warmed39 U.vm ∧ U.heap = h0) (fun _ _ _ _ _ => True) (fun _ U o U' => ∃ v L, o = .returned v ∧ Q_initBB Z ob ba h0 n0 v U'.heap L ∧ FrameEnd U o U' L ({ frames := 1, cells := 0, slots := 0, locals := 12 } : Room).cells ({ frames := 1, cells := 0, slots := 0, locals := 12 } : Room).slots) := by
  refine MetFree.of_bodySF (plainFor_of_name pn_1) hisR ?_
  intro p e s m args below meth c s₁ Bd hml0 hP hK
  obtain ⟨rfl, hZ, hh⟩ := hP
  have hx := Bd.exec
  have hby := Bd.bytes
  have hml : c.maxLocals = 3 := hml0
  have hown : s.vm.findClass "java/lang/String" = some m.cls := findClass_of_methodNamed Bd.named
  have hnm := (name_of_methodNamed Bd.named Bd.method).1
  have hlk := BodyLoose.notSynchronized Bd
  have X0 : Stand p l e ({ frames := 1, cells := 0, slots := 0, locals := 12 } : Room) s m #[(.ref ob), (.ref ba), (.int (0 : Int32))] below meth c s₁ [] 0 0 := Stand.of_body Bd
  have e0 : s₁.heap = h0 := by rw [← hh, Bd.state]; rfl
  have N0 := Fr.nil n0
  refine Go.start (P := fun o U' => ∃ v L, o = .returned v ∧ Q_initBB Z ob ba h0 n0 v U'.heap L ∧ FrameEnd s o U' L ({ frames := 1, cells := 0, slots := 0, locals := 12 } : Room).cells ({ frames := 1, cells := 0, slots := 0, locals := 12 } : Room).slots) (ef_initBB m ob ba) ?_
  show Go p e below _ (s₁.setTop (mkF m 0 #[.val (.ref ob), .val (.ref ba), .val (.int (0 : Int32))] []))
  refine Go.by (fun t k => XS.aloadN X0.here hx rfl (hb hby d13_0) rfl rfl k) ?_
  show Go p e below _ (s₁.setTop (mkF m 1 #[.val (.ref ob), .val (.ref ba), .val (.int (0 : Int32))] [(.ref ob)]))
  obtain ⟨T1, X1, e1, st1⟩ := initO X0 hx hZ hown (hw _ (List.mem_of_getElem? (i := 18) rfl)) (hw _ (List.mem_of_getElem? (i := 19) rfl)) (hw _ (List.mem_of_getElem? (i := 20) rfl)) e0 (g := (mkF m 1 #[.val (.ref ob), .val (.ref ba), .val (.int (0 : Int32))] [(.ref ob)])) rfl (by rw [hml]; rfl) rfl (hb hby d13_1) (by decide) (W := 0) (by show 2 * 0 + _ ≤ _; exact Nat.le_of_eq rfl) (by decide)
  refine Go.by st1 ?_
  show Go p e below _ (T1.setTop (mkF m 4 #[.val (.ref ob), .val (.ref ba), .val (.int (0 : Int32))] []))
  refine Go.by (fun t k => XS.aloadN X1.here hx rfl (hb hby d13_4) rfl rfl k) ?_
  show Go p e below _ (T1.setTop (mkF m 5 #[.val (.ref ob), .val (.ref ba), .val (.int (0 : Int32))] [(.ref ob)]))
  refine Go.by (fun t k => XS.aloadN X1.here hx rfl (hb hby d13_5) rfl rfl k) ?_
  show Go p e below _ (T1.setTop (mkF m 6 #[.val (.ref ob), .val (.ref ba), .val (.int (0 : Int32))] [(.ref ba), (.ref ob)]))
  obtain ⟨T2, h2, X2, e2, W2, st2⟩ := putF X1 hx hZ hown (host := "") (Or.inl (hw _ (List.mem_of_getElem? (i := 27) rfl))) Via.refl e1 P1 P0 (Or.inr ⟨(hw _ (List.mem_of_getElem? (i := 23) rfl)), rfl, hnm⟩) (hw _ (List.mem_of_getElem? (i := 8) rfl)) (ty := (.array .byte)) (by decide) rfl rfl (g := (mkF m 6 #[.val (.ref ob), .val (.ref ba), .val (.int (0 : Int32))] [(.ref ba), (.ref ob)])) rfl rfl (hb hby d13_6)
  have N2 := Fr.snoc X2 N0 gob
  have F3 : Fld Z h2 ob "java/lang/String" "value" "[B" (.ref ba) := P1.same W2
  refine Go.by st2 ?_
  show Go p e below _ (T2.setTop (mkF m 9 #[.val (.ref ob), .val (.ref ba), .val (.int (0 : Int32))] []))
  refine Go.by (fun t k => XS.aloadN X2.here hx rfl (hb hby d13_9) rfl rfl k) ?_
  show Go p e below _ (T2.setTop (mkF m 10 #[.val (.ref ob), .val (.ref ba), .val (.int (0 : Int32))] [(.ref ob)]))
  refine Go.by (fun t k => XS.iloadN X2.here hx rfl (hb hby d13_10) rfl k) ?_
  show Go p e below _ (T2.setTop (mkF m 11 #[.val (.ref ob), .val (.ref ba), .val (.int (0 : Int32))] [(.int (0 : Int32)), (.ref ob)]))
  have F4 : Fld Z h2 ob "java/lang/String" "coder" "B" (.int (0 : Int32)) := (P2.other W2 (Or.inr (slot_ne (Or.inr (hw _ (List.mem_of_getElem? (i := 24) rfl))) (Or.inr (hw _ (List.mem_of_getElem? (i := 23) rfl))) (by decide) (t := .byte) (t' := (.array .byte)) (by decide) (by decide))))
  have F5 : Exa Z h2 ob "java/lang/String" := (P0.wr W2)
  obtain ⟨T6, h6, X6, e6, W6, st6⟩ := putFN X2 hx hZ hown (hw _ (List.mem_of_getElem? (i := 28) rfl)) Via.refl e2 F4 F5 (Or.inr ⟨(hw _ (List.mem_of_getElem? (i := 24) rfl)), rfl, hnm⟩) (hw _ (List.mem_of_getElem? (i := 8) rfl)) (ty := .byte) (v' := (.int (0 : Int32))) (by decide) rfl rfl (g := (mkF m 11 #[.val (.ref ob), .val (.ref ba), .val (.int (0 : Int32))] [(.int (0 : Int32)), (.ref ob)])) rfl rfl (hb hby d13_11)
  have N6 := Fr.snoc X6 N2 gob
  have F7 : Fld Z h6 ob "java/lang/String" "coder" "B" (.int (0 : Int32)) := F4.same W6
  refine Go.by st6 ?_
  show Go p e below _ (T6.setTop (mkF m 14 #[.val (.ref ob), .val (.ref ba), .val (.int (0 : Int32))] []))
  have F8 : Keep h0 h6 [ob] := (((Keep.refl h0 [ob]).wr W2 (Or.inl (List.mem_of_getElem? (i := 0) rfl))).wr W6 (Or.inl (List.mem_of_getElem? (i := 0) rfl)))
  have F9 : Exa Z h6 ob "java/lang/String" := (F5.wr W6)
  have F10 : Fld Z h6 ob "java/lang/String" "value" "[B" (.ref ba) := (F3.other W6 (Or.inr (slot_ne (Or.inr (hw _ (List.mem_of_getElem? (i := 23) rfl))) (Or.inr (hw _ (List.mem_of_getElem? (i := 24) rfl))) (by decide) (t := (.array .byte)) (t' := .byte) (by decide) (by decide))))
  have hq : Q_initBB Z ob ba h0 n0 none h6 _ := ⟨rfl, N6, F8, F9, F7, F10⟩
  exact Go.ret0 X6 hx Bd.returns hlk (hb hby d13_14) (by decide) (by decide) (by rw [e6]; exact hq)
theorem d10_0 : decode jdk_42_method_139_code 0 = .ok (.getstatic 38, 3) := by decide +kernel
theorem d10_3 : decode jdk_42_method_139_code 3 = .ok (.ifCond .eq 23, 3) := by decide +kernel
theorem d10_6 : decode jdk_42_method_139_code 6 = .ok (.iload_n 0, 1) := by decide +kernel
theorem d10_7 : decode jdk_42_method_139_code 7 = .ok (.invokestatic 1015, 3) := by decide +kernel
theorem pd_4 : parseMethodDescriptor "(C)Z" = some ⟨[.char], some .boolean⟩ := by decide +kernel
theorem d10_10 : decode jdk_42_method_139_code 10 = .ok (.ifCond .eq 16, 3) := by decide +kernel
theorem d10_13 : decode jdk_42_method_139_code 13 = .ok (.new 10, 3) := by decide +kernel
theorem d10_16 : decode jdk_42_method_139_code 16 = .ok (.dup, 1) := by decide +kernel
theorem d10_17 : decode jdk_42_method_139_code 17 = .ok (.iload_n 0, 1) := by decide +kernel
theorem d10_18 : decode jdk_42_method_139_code 18 = .ok (.invokestatic 1018, 3) := by decide +kernel
theorem pd_5 : parseMethodDescriptor "(C)[B" = some ⟨[.char], some (.array .byte)⟩ := by decide +kernel
theorem d10_21 : decode jdk_42_method_139_code 21 = .ok (.iconst 0, 1) := by decide +kernel
theorem d10_22 : decode jdk_42_method_139_code 22 = .ok (.invokespecial 209, 3) := by decide +kernel
theorem pd_6 : parseMethodDescriptor "([BB)V" = some ⟨[(.array .byte), .byte], none⟩ := by decide +kernel
theorem d10_25 : decode jdk_42_method_139_code 25 = .ok (.areturn, 1) := by decide +kernel
theorem ef_valueOf (m : MethodId) (c0_ : Int32) : entryFrame m #[(.int c0_)] 1 = mkF m 0 #[.val (.int c0_)] [] := by first | (simp [entryFrame, mkF, argsToLocals, Value.category]; done) | rfl
def Q_valueOf (Z : State) (c0_ : Int32) (cs : Int32) (h0 : Heap) (n0 : Nat) (v : Option Value) (h : Heap) (L : List Loc) : Prop := ∃ sa : Addr, ∃ xb : Addr, ∃ kb : ClassId, v = some (.ref sa) ∧ Fr n0 L ∧ Keep h0 h [] ∧ h0.size ≤ sa ∧ h0.size ≤ xb ∧ Exa Z h sa "java/lang/String" ∧ Fld Z h sa "java/lang/String" "coder" "B" (.int (0 : Int32)) ∧ Fld Z h sa "java/lang/String" "value" "[B" (.ref xb) ∧ Arv Z h xb kb .byte (1 : Int32) [(.int (nar .byte (c0_.toInt8.toInt32)))] (.int (0 : Int32))
set_option maxRecDepth 65536 in
set_option maxHeartbeats 40000000 in
theorem valueOf (l : Launch) (Z : State) (a0 : Array Value) (hw : ∀ d ∈ tables_1, d.before a0 Z = true) (ws : List Jvm.Cond) (c0_ : Int32) (cs : Int32) (h0 : Heap) (n0 : Nat) (O0 : Old Z n0 h0) (P0 : Sta Z Z.heap "java/lang/String" "COMPACT_STRINGS" "Z" (.int cs)) (hcs : cs ≠ (0 : Int32)) (hq0 : 0 ≤ c0_.toInt ∧ c0_.toInt ≤ 255) :
    MetFree l (⟨"java/lang/String", "valueOf", "(C)Ljava/lang/String;"⟩ : MethodName) (head1 (Jvm.Cond.code (⟨"java/lang/String", "valueOf", "(C)Ljava/lang/String;"⟩ : MethodName) jdk_42_method_139_code 1 (some (.object "java/lang/String")) :: ws) ({ frames := 2, cells := 2, slots := 5, locals := 27 } : Room)) (fun a U => a = #[(.int c0_)] ∧ Z.Warmed39 U.vm ∧ U.heap = h0) (fun _ _ _ _ _ => True) (fun _ U o U' => ∃ v L, o = .returned v ∧ Q_valueOf Z c0_ cs h0 n0 v U'.heap L ∧ FrameEnd U o U' L ({ frames := 2, cells := 2, slots := 5, locals := 27 } : Room).cells ({ frames := 2, cells := 2, slots := 5, locals := 27 } : Room).slots) := by
  refine MetFree.of_bodySF (plainFor_of_name pn_1) hisR ?_
  intro p e s m args below meth c s₁ Bd hml0 hP hK
  obtain ⟨rfl, hZ, hh⟩ := hP
  have hx := Bd.exec
  have hby := Bd.bytes
  have hml : c.maxLocals = 1 := hml0
  have hown : s.vm.findClass "java/lang/String" = some m.cls := findClass_of_methodNamed Bd.named
  have hnm := (name_of_methodNamed Bd.named Bd.method).1
  have hlk := BodyLoose.notSynchronized Bd
  have X0 : Stand p l e ({ frames := 2, cells := 2, slots := 5, locals := 27 } : Room) s m #[(.int c0_)] below meth c s₁ [] 0 0 := Stand.of_body Bd
  have e0 : s₁.heap = h0 := by rw [← hh, Bd.state]; rfl
  have N0 := Fr.nil n0
  refine Go.start (P := fun o U' => ∃ v L, o = .returned v ∧ Q_valueOf Z c0_ cs h0 n0 v U'.heap L ∧ FrameEnd s o U' L ({ frames := 2, cells := 2, slots := 5, locals := 27 } : Room).cells ({ frames := 2, cells := 2, slots := 5, locals := 27 } : Room).slots) (ef_valueOf m c0_) ?_
  show Go p e below _ (s₁.setTop (mkF m 0 #[.val (.int c0_)] []))
  have F1 : Sta Z h0 "java/lang/String" "COMPACT_STRINGS" "Z" (.int cs) := P0.ext O0.2
  obtain ⟨T2, X2, e2, st2⟩ := getS2 X0 hx hZ hown (host := "") (Or.inl (hw _ (List.mem_of_getElem? (i := 53) rfl))) Via.refl e0 F1 (g := (mkF m 0 #[.val (.int c0_)] [])) rfl (hb hby d10_0)
  refine Go.by st2 ?_
  show Go p e below _ (T2.setTop (mkF m 3 #[.val (.int c0_)] [(.int cs)]))
  refine Go.by (fun t k => XS.ifNo X2.here hx rfl (hb hby d10_3) rfl ((if0 _ _).trans (feq hcs).1) k) ?_
  show Go p e below _ (T2.setTop (mkF m 6 #[.val (.int c0_)] []))
  refine Go.by (fun t k => XS.iloadN X2.here hx rfl (hb hby d10_6) rfl k) ?_
  show Go p e below _ (T2.setTop (mkF m 7 #[.val (.int c0_)] [(.int c0_)]))
  obtain ⟨_, _, ⟨T3, L3, k3, n3⟩, -, X3, ⟨Lc3, hQ3, l3, y3, z3⟩, st3⟩ := Jvm.LawKit.callS X2 hx (y := (⟨"java/lang/StringLatin1", "canEncode", "(C)Z"⟩ : MethodName)) hown (mvT hZ (hw _ (List.mem_of_getElem? (i := 61) rfl))) (mvT hZ (hw _ (List.mem_of_getElem? (i := 62) rfl))) (mvT hZ (hw _ (List.mem_of_getElem? (i := 56) rfl))) (mvT hZ (hw _ (List.mem_of_getElem? (i := 63) rfl))) (by decide) (backOf (W := 0) (canEnc l Z a0 hw [] c0_ h0 n0 O0 (by first | assumption | omega | decide | simp_all : 0 ≤ c0_.toInt ∧ c0_.toInt ≤ 255)) hZ (hw _ (List.mem_of_getElem? (i := 63) rfl)) (hw _ (List.mem_of_getElem? (i := 56) rfl)) (by decide) (by decide)) (g := (mkF m 7 #[.val (.int c0_)] [(.int c0_)])) rfl (by rw [hml]; rfl) (argsL := [(.int c0_)]) (rest := []) (lenOf pd_4 rfl) rfl (by show 2 * 0 + _ ≤ _; exact Nat.le_of_eq rfl) (hb hby d10_7) (fun _ _ => ⟨rfl, e2, (by decide : 0 + 0 ≤ _), (by decide : 0 + 0 ≤ _)⟩)
  dsimp only [Pt.U, Pt.locs, Pt.cells, Pt.slots] at X3 l3 y3 z3 st3 hQ3
  subst l3 y3 z3
  obtain ⟨rfl, N3q, e3⟩ := hQ3
  have N3 := Fr.app N0 N3q
  refine Go.by st3 ?_
  show Go p e below _ (T3.setTop (mkF m 10 #[.val (.int c0_)] [(.int (1 : Int32))]))
  refine Go.by (fun t k => XS.ifNo X3.here hx rfl (hb hby d10_10) rfl ((if0 _ _).trans (feq (by decide : ¬ ((1 : Int32) = (0 : Int32)))).1) k) ?_
  show Go p e below _ (T3.setTop (mkF m 13 #[.val (.int c0_)] []))
  obtain ⟨T4, h4, X4, e4, E4, A4, D4, -, st4⟩ := newO X3 hx hZ hown (hw _ (List.mem_of_getElem? (i := 52) rfl)) (hw _ (List.mem_of_getElem? (i := 8) rfl)) (hw _ (List.mem_of_getElem? (i := 9) rfl)) e3 (g := (mkF m 13 #[.val (.int c0_)] [])) rfl (hb hby d10_13) (by decide) (by decide)
  obtain ⟨b4, g4⟩ : ∃ z, z = h0.size := ⟨_, rfl⟩
  rw [← g4] at A4 D4 st4
  have gl4 : h0.size ≤ b4 := Nat.le_of_eq g4.symm
  have ge4 : n0 ≤ b4 := Nat.le_trans (own_old_size O0) gl4
  have sz4 : h0.size ≤ b4 := Nat.le_trans (Keep.refl h0 []).1 gl4
  have F5 : Fld Z h4 b4 "java/lang/String" "value" "[B" .null := D4 (Or.inr (hw _ (List.mem_of_getElem? (i := 23) rfl))) (ty := (.array .byte)) (by decide)
  have F6 : Fld Z h4 b4 "java/lang/String" "coder" "B" (.int (0 : Int32)) := D4 (Or.inr (hw _ (List.mem_of_getElem? (i := 24) rfl))) (ty := .byte) (by decide)
  refine Go.by st4 ?_
  show Go p e below _ (T4.setTop (mkF m 16 #[.val (.int c0_)] [(.ref b4)]))
  refine Go.by (fun t k => XS.dup X4.here hx rfl (hb hby d10_16) rfl rfl k) ?_
  show Go p e below _ (T4.setTop (mkF m 17 #[.val (.int c0_)] [(.ref b4), (.ref b4)]))
  refine Go.by (fun t k => XS.iloadN X4.here hx rfl (hb hby d10_17) rfl k) ?_
  show Go p e below _ (T4.setTop (mkF m 18 #[.val (.int c0_)] [(.int c0_), (.ref b4), (.ref b4)]))
  have F8 : Old Z n0 h4 := (O0.ext E4)
  have F9 : Keep h0 h4 [] := ((Keep.refl h0 []).ext E4)
  obtain ⟨_, _, ⟨T7, L7, k7, n7⟩, -, X7, ⟨Lc7, hQ7, l7, y7, z7⟩, st7⟩ := Jvm.LawKit.callS X4 hx (y := (⟨"java/lang/StringLatin1", "toBytes", "(C)[B"⟩ : MethodName)) hown (mvT hZ (hw _ (List.mem_of_getElem? (i := 64) rfl))) (mvT hZ (hw _ (List.mem_of_getElem? (i := 65) rfl))) (mvT hZ (hw _ (List.mem_of_getElem? (i := 56) rfl))) (mvT hZ (hw _ (List.mem_of_getElem? (i := 66) rfl))) (by decide) (backOf (W := 2) (toBytes l Z a0 hw [] c0_ h4 n0 F8) hZ (hw _ (List.mem_of_getElem? (i := 66) rfl)) (hw _ (List.mem_of_getElem? (i := 56) rfl)) (by decide) (by decide)) (g := (mkF m 18 #[.val (.int c0_)] [(.int c0_), (.ref b4), (.ref b4)])) rfl (by rw [hml]; rfl) (argsL := [(.int c0_)]) (rest := [(.ref b4), (.ref b4)]) (lenOf pd_5 rfl) rfl (by show 2 * 0 + _ ≤ _; exact Nat.le_of_eq rfl) (hb hby d10_18) (fun _ _ => ⟨rfl, e4, (by decide : 1 + 1 ≤ _), (by decide : 4 + 1 ≤ _)⟩)
  dsimp only [Pt.U, Pt.locs, Pt.cells, Pt.slots] at X7 l7 y7 z7 st7 hQ7
  subst l7 y7 z7
  obtain ⟨bb_7, kb_7, rfl, N7q, K7, fz7_bb, F7_0⟩ := hQ7
  have N7 := Fr.app N3 N7q
  have ge_bb_7 : n0 ≤ bb_7 := Nat.le_trans (own_old_size F8) fz7_bb
  have sz_bb_7 : h0.size ≤ bb_7 := Nat.le_trans F9.1 fz7_bb
  have ne10 : b4 ≠ bb_7 := Nat.ne_of_lt (Nat.lt_of_lt_of_le A4.lt fz7_bb)
  refine Go.by st7 ?_
  show Go p e below _ (T7.setTop (mkF m 21 #[.val (.int c0_)] [(.ref bb_7), (.ref b4), (.ref b4)]))
  refine Go.by (fun t k => XS.iconst X7.here hx rfl (hb hby d10_21) k) ?_
  show Go p e below _ (T7.setTop (mkF m 22 #[.val (.int c0_)] [(.int (0 : Int32)), (.ref bb_7), (.ref b4), (.ref b4)]))
  have F12 : Old Z n0 T7.heap := (F8.keep K7 all0)
  have F13 : Exa Z T7.heap b4 "java/lang/String" := (A4.keep K7)
  have F14 : Fld Z T7.heap b4 "java/lang/String" "value" "[B" .null := (F5.keep K7 nin0)
  have F15 : Fld Z T7.heap b4 "java/lang/String" "coder" "B" (.int (0 : Int32)) := (F6.keep K7 nin0)
  have F16 : Keep h0 T7.heap [] := (F9.trans K7 all0)
  obtain ⟨_, _, ⟨T11, L11, k11, n11⟩, -, X11, ⟨Lc11, hQ11, l11, y11, z11⟩, st11⟩ := X7.specialBack hx (y := (⟨"java/lang/String", "<init>", "([BB)V"⟩ : MethodName)) rfl hown (mvT hZ (hw _ (List.mem_of_getElem? (i := 67) rfl))) (mvT hZ (hw _ (List.mem_of_getElem? (i := 68) rfl))) (mvT hZ (hw _ (List.mem_of_getElem? (i := 69) rfl))) (by decide) (backOf (W := 1) (initBB l Z a0 hw [] b4 bb_7 T7.heap n0 F12 F13 F14 F15 ge4) hZ (hw _ (List.mem_of_getElem? (i := 69) rfl)) (hw _ (List.mem_of_getElem? (i := 9) rfl)) (by decide) (by decide)) (g := (mkF m 22 #[.val (.int c0_)] [(.int (0 : Int32)), (.ref bb_7), (.ref b4), (.ref b4)])) rfl (by rw [hml]; rfl) (Steps.refl _) (a := b4) (argsL := [(.ref bb_7), (.int (0 : Int32))]) (rest := [(.ref b4)]) (lenOf pd_6 rfl) rfl (by show 2 * 0 + _ ≤ _; exact Nat.le_of_eq rfl) (hb hby d10_22) (fun _ _ => ⟨rfl, rfl, (by decide : 2 + 0 ≤ _), (by decide : 5 + 0 ≤ _)⟩)
  dsimp only [Pt.U, Pt.locs, Pt.cells, Pt.slots] at X11 l11 y11 z11 st11 hQ11
  subst l11 y11 z11
  obtain ⟨rfl, N11q, K11, F11_0, F11_1, F11_2⟩ := hQ11
  have N11 := Fr.app N7 N11q
  refine Go.tr st11 ?_
  show Go p e below _ (T11.setTop (mkF m 25 #[.val (.int c0_)] [(.ref b4)]))
  have F17 : Keep h0 T11.heap [] := (F16.trans K11 (allS (Or.inr sz4) all0))
  have F18 : Arv Z T11.heap bb_7 kb_7 .byte (1 : Int32) [(.int (nar .byte (c0_.toInt8.toInt32)))] (.int (0 : Int32)) := (F7_0.keep K11 (ninS (Ne.symm ne10) nin0))
  have hq : Q_valueOf Z c0_ cs h0 n0 (some (.ref b4)) T11.heap _ := ⟨b4, bb_7, kb_7, rfl, N11, F17, sz4, sz_bb_7, F11_0, F11_1, F11_2, F18⟩
  exact Go.retA X11 hx Bd.returns rfl rfl hlk (hb hby d10_25) (by decide) (by decide) hq
theorem pn_3 : plainName "com/example/tattler/tattler/channel/WatchedResourceEqualsPinLaw" = true := by first | (simp [plainName, overriddenIn]; done) | decide +kernel
theorem d1_0 : decode method_2_code 0 = .ok (.iload_n 2, 1) := by decide +kernel
theorem d1_1 : decode method_2_code 1 = .ok (.ifCond .ne 14, 3) := by decide +kernel
theorem d1_4 : decode method_2_code 4 = .ok (.new 7, 3) := by decide +kernel
theorem d1_7 : decode method_2_code 7 = .ok (.dup, 1) := by decide +kernel
theorem d1_8 : decode method_2_code 8 = .ok (.iconst 0, 1) := by decide +kernel
theorem d1_9 : decode method_2_code 9 = .ok (.newarray .char, 2) := by decide +kernel
theorem d1_11 : decode method_2_code 11 = .ok (.invokespecial 9, 3) := by decide +kernel
theorem pd_7 : parseMethodDescriptor "([C)V" = some ⟨[(.array .char)], none⟩ := by decide +kernel
theorem d1_14 : decode method_2_code 14 = .ok (.areturn, 1) := by decide +kernel
theorem d1_15 : decode method_2_code 15 = .ok (.iload_n 2, 1) := by decide +kernel
theorem d1_16 : decode method_2_code 16 = .ok (.iconst 1, 1) := by decide +kernel
theorem d1_17 : decode method_2_code 17 = .ok (.if_icmp .ne 8, 3) := by decide +kernel
theorem d1_20 : decode method_2_code 20 = .ok (.iload_n 0, 1) := by decide +kernel
theorem d1_21 : decode method_2_code 21 = .ok (.invokestatic 12, 3) := by decide +kernel
theorem pd_8 : parseMethodDescriptor "(C)Ljava/lang/String;" = some ⟨[.char], some (.object "java/lang/String")⟩ := by decide +kernel
theorem d1_24 : decode method_2_code 24 = .ok (.areturn, 1) := by decide +kernel
theorem d1_25 : decode method_2_code 25 = .ok (.new 7, 3) := by decide +kernel
theorem d1_28 : decode method_2_code 28 = .ok (.dup, 1) := by decide +kernel
theorem d1_29 : decode method_2_code 29 = .ok (.iconst 2, 1) := by decide +kernel
theorem d1_30 : decode method_2_code 30 = .ok (.newarray .char, 2) := by decide +kernel
theorem d1_32 : decode method_2_code 32 = .ok (.dup, 1) := by decide +kernel
theorem d1_33 : decode method_2_code 33 = .ok (.iconst 0, 1) := by decide +kernel
theorem d1_34 : decode method_2_code 34 = .ok (.iload_n 0, 1) := by decide +kernel
theorem d1_35 : decode method_2_code 35 = .ok (.castore, 1) := by decide +kernel
theorem d1_36 : decode method_2_code 36 = .ok (.dup, 1) := by decide +kernel
theorem d1_37 : decode method_2_code 37 = .ok (.iconst 1, 1) := by decide +kernel
theorem d1_38 : decode method_2_code 38 = .ok (.iload_n 1, 1) := by decide +kernel
theorem d1_39 : decode method_2_code 39 = .ok (.castore, 1) := by decide +kernel
theorem d1_40 : decode method_2_code 40 = .ok (.invokespecial 9, 3) := by decide +kernel
theorem d1_43 : decode method_2_code 43 = .ok (.areturn, 1) := by decide +kernel
theorem ef_str (m : MethodId) (c0_ : Int32) (c1_ : Int32) (l_ : Int32) : entryFrame m #[(.int c0_), (.int c1_), (.int l_)] 3 = mkF m 0 #[.val (.int c0_), .val (.int c1_), .val (.int l_)] [] := by first | (simp [entryFrame, mkF, argsToLocals, Value.category]; done) | rfl
def Q_str (Z : State) (c0_ : Int32) (c1_ : Int32) (l_ : Int32) (cs : Int32) (h0 : Heap) (n0 : Nat) (v : Option Value) (h : Heap) (L : List Loc) : Prop := ∃ sa : Addr, ∃ xb : Addr, ∃ kb : ClassId, v = some (.ref sa) ∧ Fr n0 L ∧ Keep h0 h [] ∧ h0.size ≤ sa ∧ Exa Z h sa "java/lang/String" ∧ Fld Z h sa "java/lang/String" "coder" "B" (.int (0 : Int32)) ∧ Fld Z h sa "java/lang/String" "value" "[B" (.ref xb) ∧ Arv Z h xb kb .byte l_ (own_sv (nar .byte (c0_.toInt8.toInt32)) (nar .byte (c1_.toInt8.toInt32)) l_) (.int (0 : Int32))
set_option maxRecDepth 65536 in
set_option maxHeartbeats 40000000 in
theorem str (l : Launch) (Z : State) (a0 : Array Value) (hw : ∀ d ∈ tables_1, d.before a0 Z = true) (ws : List Jvm.Cond) (c0_ : Int32) (c1_ : Int32) (l_ : Int32) (cs : Int32) (h0 : Heap) (n0 : Nat) (O0 : Old Z n0 h0) (P0 : Sta Z Z.heap "java/lang/String" "COMPACT_STRINGS" "Z" (.int cs)) (hcs : cs ≠ (0 : Int32)) (hq0 : 0 ≤ c0_.toInt ∧ c0_.toInt ≤ 255) (hq1 : 0 ≤ c1_.toInt ∧ c1_.toInt ≤ 255) (hl : l_ = (0 : Int32) ∨ l_ = (1 : Int32) ∨ l_ = (2 : Int32)) :
    MetFree l (⟨"com/example/tattler/tattler/channel/WatchedResourceEqualsPinLaw", "str", "(CCI)Ljava/lang/String;"⟩ : MethodName) (head1 (Jvm.Cond.code (⟨"com/example/tattler/tattler/channel/WatchedResourceEqualsPinLaw", "str", "(CCI)Ljava/lang/String;"⟩ : MethodName) method_2_code 3 (some (.object "java/lang/String")) :: ws) ({ frames := 4, cells := 6, slots := 12, locals := 66 } : Room)) (fun a U => a = #[(.int c0_), (.int c1_), (.int l_)] ∧ Z.Warmed39 U.vm ∧ U.heap = h0 ∧ CHv Z own_EL U.vm h0) (fun _ _ _ _ _ => True) (fun _ U o U' => ∃ v L, o = .returned v ∧ Q_str Z c0_ c1_ l_ cs h0 n0 v U'.heap L ∧ CHr Z own_EL U.vm U.heap U'.vm U'.heap ∧ ReturnedEndW U o U' L ({ frames := 4, cells := 6, slots := 12, locals := 66 } : Room).cells ({ frames := 4, cells := 6, slots := 12, locals := 66 } : Room).slots) := by
  refine MetFree.of_bodySF (plainFor_of_name pn_3) hisR ?_
  intro p e s m args below meth c s₁ Bd hml0 hP hK
  obtain ⟨rfl, hZ, hh, hCH⟩ := hP
  have hx := Bd.exec
  have hby := Bd.bytes
  have hml : c.maxLocals = 3 := hml0
  have hown : s.vm.findClass "com/example/tattler/tattler/channel/WatchedResourceEqualsPinLaw" = some m.cls := findClass_of_methodNamed Bd.named
  have hnm := (name_of_methodNamed Bd.named Bd.method).1
  have hlk := BodyLoose.notSynchronized Bd
  have X0 : Stand p l e ({ frames := 4, cells := 6, slots := 12, locals := 66 } : Room) (s.setVm s.vm) m #[(.int c0_), (.int c1_), (.int l_)] below meth c s₁ [] 0 0 := Stand.of_body Bd
  have e0 : s₁.heap = h0 := by rw [← hh, Bd.state]; rfl
  have N0 := Fr.nil n0
  have hS : s.Since s.vm h0.size := (State.WarmedH.refl s).since _
  have hk0 : h0.size ≤ h0.size := Nat.le_refl _
  have wS : ∀ a ∈ Bundle.stringAtoms, a.before a0 Z = true := fun a q => hw a (own_sA a q)
  have hEL : EW Z a0 own_EL := own_EW hw
  have hR0 : CHr Z own_EL s.vm h0 s.vm h0 := CHr.refl hCH
  refine Go.start (P := fun o U' => ∃ v L, o = .returned v ∧ Q_str Z c0_ c1_ l_ cs h0 n0 v U'.heap L ∧ CHr Z own_EL s.vm s.heap U'.vm U'.heap ∧ ReturnedEndW s o U' L ({ frames := 4, cells := 6, slots := 12, locals := 66 } : Room).cells ({ frames := 4, cells := 6, slots := 12, locals := 66 } : Room).slots) (ef_str m c0_ c1_ l_) ?_
  show Go p e below _ (s₁.setTop (mkF m 0 #[.val (.int c0_), .val (.int c1_), .val (.int l_)] []))
  refine Go.by (fun t k => XS.iloadN X0.here hx rfl (hb hby d1_0) rfl k) ?_
  show Go p e below _ (s₁.setTop (mkF m 1 #[.val (.int c0_), .val (.int c1_), .val (.int l_)] [(.int l_)]))
  by_cases hc1 : l_ = (0 : Int32)
  · skip
    refine Go.by (fun t k => XS.ifNo X0.here hx rfl (hb hby d1_1) rfl ((if0 _ _).trans (teq hc1).2) k) ?_
    show Go p e below _ (s₁.setTop (mkF m 4 #[.val (.int c0_), .val (.int c1_), .val (.int l_)] []))
    obtain ⟨T2, h2, X2, e2, E2, A2, D2, -, st2⟩ := newO X0 hx hZ hown (hw _ (List.mem_of_getElem? (i := 7) rfl)) (hw _ (List.mem_of_getElem? (i := 8) rfl)) (hw _ (List.mem_of_getElem? (i := 9) rfl)) e0 (g := (mkF m 4 #[.val (.int c0_), .val (.int c1_), .val (.int l_)] [])) rfl (hb hby d1_4) (by decide) (by decide)
    obtain ⟨b2, g2⟩ : ∃ z, z = h0.size := ⟨_, rfl⟩
    rw [← g2] at A2 D2 st2
    have gl2 : h0.size ≤ b2 := Nat.le_of_eq g2.symm
    have ge2 : n0 ≤ b2 := Nat.le_trans (own_old_size O0) gl2
    have sz2 : h0.size ≤ b2 := Nat.le_trans (Keep.refl h0 []).1 gl2
    have F3 : Fld Z h2 b2 "java/lang/String" "value" "[B" .null := D2 (Or.inr (hw _ (List.mem_of_getElem? (i := 23) rfl))) (ty := (.array .byte)) (by decide)
    have F4 : Fld Z h2 b2 "java/lang/String" "coder" "B" (.int (0 : Int32)) := D2 (Or.inr (hw _ (List.mem_of_getElem? (i := 24) rfl))) (ty := .byte) (by decide)
    refine Go.by st2 ?_
    show Go p e below _ (T2.setTop (mkF m 7 #[.val (.int c0_), .val (.int c1_), .val (.int l_)] [(.ref b2)]))
    refine Go.by (fun t k => XS.dup X2.here hx rfl (hb hby d1_7) rfl rfl k) ?_
    show Go p e below _ (T2.setTop (mkF m 8 #[.val (.int c0_), .val (.int c1_), .val (.int l_)] [(.ref b2), (.ref b2)]))
    refine Go.by (fun t k => XS.iconst X2.here hx rfl (hb hby d1_8) k) ?_
    show Go p e below _ (T2.setTop (mkF m 9 #[.val (.int c0_), .val (.int c1_), .val (.int l_)] [(.int (0 : Int32)), (.ref b2), (.ref b2)]))
    have F5 : Old Z n0 h2 := (O0.ext E2)
    have F6 : Keep h0 h2 [] := ((Keep.refl h0 []).ext E2)
    obtain ⟨T7, h7, k7, X7, e7, E7, A7, Q7, st7⟩ := newPE X2 hx hZ (hw _ (List.mem_of_getElem? (i := 10) rfl)) e2 (g := (mkF m 9 #[.val (.int c0_), .val (.int c1_), .val (.int l_)] [(.int (0 : Int32)), (.ref b2), (.ref b2)])) rfl (hb hby d1_9) rfl (by decide) (cap := 0) (by decide) (by decide) (by decide) (by decide) (ad := "[C") (by decide)
    obtain ⟨b7, g7⟩ : ∃ z, z = h2.size := ⟨_, rfl⟩
    rw [← g7] at A7 Q7 st7
    have gl7 : h2.size ≤ b7 := Nat.le_of_eq g7.symm
    have ge7 : n0 ≤ b7 := Nat.le_trans (own_old_size F5) gl7
    have sz7 : h0.size ≤ b7 := Nat.le_trans F6.1 gl7
    have ne8 : b2 ≠ b7 := Nat.ne_of_lt (Nat.lt_of_lt_of_le A2.lt gl7)
    have F9 : Arv Z h7 b7 k7 .char (0 : Int32) [] (.int (0 : Int32)) := Arv.new A7 (by decide)
    refine Go.by st7 ?_
    show Go p e below _ (T7.setTop (mkF m 11 #[.val (.int c0_), .val (.int c1_), .val (.int l_)] [(.ref b7), (.ref b2), (.ref b2)]))
    have F11 : Old Z n0 h7 := (F5.ext E7)
    have F12 : Exa Z h7 b2 "java/lang/String" := (A2.ext E7)
    have F13 : Fld Z h7 b2 "java/lang/String" "value" "[B" .null := (F3.ext E7)
    have F14 : Fld Z h7 b2 "java/lang/String" "coder" "B" (.int (0 : Int32)) := (F4.ext E7)
    have F15 : Keep h0 h7 [] := (F6.ext E7)
    have F16 : h0.size ≤ h7.size := (Nat.le_trans (Nat.le_trans hk0 E2.1) E7.1)
    have F17 : CHr Z own_EL s.vm h0 s.vm h7 := (own_chE (own_chE hR0 E2) E7)
    obtain ⟨_, _, ⟨T10, L10, k10, n10⟩, -, X10, sn10, gr10, ⟨Lc10, hQ10, l10, y10, z10, C10⟩, st10⟩ := X7.specialBackS hx (y := (⟨"java/lang/String", "<init>", "([C)V"⟩ : MethodName)) rfl hown (mvT hZ (hw _ (List.mem_of_getElem? (i := 11) rfl))) (mvT hZ (hw _ (List.mem_of_getElem? (i := 12) rfl))) (mvT hZ (hw _ (List.mem_of_getElem? (i := 13) rfl))) (by decide) (backOfSH (W := 1) (init1_0 l Z a0 hw [] b2 b7 k7 h7 n0 F11 F12 F13 F14 F9 ge2) hZ (hw _ (List.mem_of_getElem? (i := 13) rfl)) (hw _ (List.mem_of_getElem? (i := 9) rfl)) (by decide) (by decide) hEL F17.1) (g := (mkF m 11 #[.val (.int c0_), .val (.int c1_), .val (.int l_)] [(.ref b7), (.ref b2), (.ref b2)])) rfl (by rw [hml]; rfl) (Steps.refl _) (a := b2) (argsL := [(.ref b7)]) (rest := [(.ref b2)]) (lenOf pd_7 rfl) rfl (by show 2 * 0 + _ ≤ _; exact Nat.le_of_eq rfl) (hb hby d1_11) (fun _ _ => ⟨rfl, e7, (by decide : 2 + 4 ≤ _), (by decide : 4 + 8 ≤ _)⟩)
    dsimp only [Pt.U, Pt.locs, Pt.cells, Pt.slots] at X10 l10 y10 z10 st10 hQ10 sn10 gr10 C10
    subst l10 y10 z10
    obtain ⟨X10, hS, hZ, hown⟩ := rebS hS (n1 := T7.heap.size) (by rw [e7]; exact F16) X10 sn10 gr10 hZ hown
    have hk10 : T10.heap.size ≤ T10.heap.size := Nat.le_refl _
    have A10 := F17.trans C10
    obtain ⟨xb_10, kb_10, rfl, N10q, K10, F10_0, F10_1, F10_2, F10_3⟩ := hQ10
    have N10 := Fr.app N0 N10q
    refine Go.tr st10 ?_
    show Go p e below _ (T10.setTop (mkF m 14 #[.val (.int c0_), .val (.int c1_), .val (.int l_)] [(.ref b2)]))
    have F18 : Keep h0 T10.heap [] := (F15.trans K10 (allS (Or.inr sz2) all0))
    have hq : Q_str Z c0_ c1_ l_ cs h0 n0 (some (.ref b2)) T10.heap _ := ⟨b2, xb_10, kb_10, rfl, N10, F18, sz2, F10_0, F10_1, F10_2, (by rw [hc1]; exact F10_3)⟩
    exact Go.retAH hS hk10 (own_chEnd X10 rfl hZ hEL A10 hh) X10 hx Bd.returns rfl rfl hlk (hb hby d1_14) (by decide) (by decide) hq
  · skip
    refine Go.by (fun t k => XS.ifYes X0.here hx rfl (pc0 := 1) (pc' := 15) rfl (hb hby d1_1) rfl ((if0 _ _).trans (feq hc1).2) (by decide) (by decide) k) ?_
    show Go p e below _ (s₁.setTop (mkF m 15 #[.val (.int c0_), .val (.int c1_), .val (.int l_)] []))
    refine Go.by (fun t k => XS.iloadN X0.here hx rfl (hb hby d1_15) rfl k) ?_
    show Go p e below _ (s₁.setTop (mkF m 16 #[.val (.int c0_), .val (.int c1_), .val (.int l_)] [(.int l_)]))
    refine Go.by (fun t k => XS.iconst X0.here hx rfl (hb hby d1_16) k) ?_
    show Go p e below _ (s₁.setTop (mkF m 17 #[.val (.int c0_), .val (.int c1_), .val (.int l_)] [(.int (1 : Int32)), (.int l_)]))
    by_cases hc19 : l_ = (1 : Int32)
    · skip
      refine Go.by (fun t k => XS.icmpNo X0.here hx rfl (hb hby d1_17) rfl (teq hc19).2 k) ?_
      show Go p e below _ (s₁.setTop (mkF m 20 #[.val (.int c0_), .val (.int c1_), .val (.int l_)] []))
      refine Go.by (fun t k => XS.iloadN X0.here hx rfl (hb hby d1_20) rfl k) ?_
      show Go p e below _ (s₁.setTop (mkF m 21 #[.val (.int c0_), .val (.int c1_), .val (.int l_)] [(.int c0_)]))
      obtain ⟨_, _, ⟨T20, L20, k20, n20⟩, -, X20, ⟨Lc20, hQ20, l20, y20, z20⟩, st20⟩ := Jvm.LawKit.callS X0 hx (y := (⟨"java/lang/String", "valueOf", "(C)Ljava/lang/String;"⟩ : MethodName)) hown (mvT hZ (hw _ (List.mem_of_getElem? (i := 58) rfl))) (mvT hZ (hw _ (List.mem_of_getElem? (i := 59) rfl))) (mvT hZ (hw _ (List.mem_of_getElem? (i := 9) rfl))) (mvT hZ (hw _ (List.mem_of_getElem? (i := 60) rfl))) (by decide) (backOf (W := 0) (valueOf l Z a0 hw [] c0_ cs h0 n0 O0 P0 (by first | assumption | omega | decide | simp_all : cs ≠ (0 : Int32)) (by first | assumption | omega | decide | simp_all : 0 ≤ c0_.toInt ∧ c0_.toInt ≤ 255)) hZ (hw _ (List.mem_of_getElem? (i := 60) rfl)) (hw _ (List.mem_of_getElem? (i := 9) rfl)) (by decide) (by decide)) (g := (mkF m 21 #[.val (.int c0_), .val (.int c1_), .val (.int l_)] [(.int c0_)])) rfl (by rw [hml]; rfl) (argsL := [(.int c0_)]) (rest := []) (lenOf pd_8 rfl) rfl (by show 2 * 0 + _ ≤ _; exact Nat.le_of_eq rfl) (hb hby d1_21) (fun _ _ => ⟨rfl, e0, (by decide : 0 + 2 ≤ _), (by decide : 0 + 5 ≤ _)⟩)
      dsimp only [Pt.U, Pt.locs, Pt.cells, Pt.slots] at X20 l20 y20 z20 st20 hQ20
      subst l20 y20 z20
      obtain ⟨sa_20, xb_20, kb_20, rfl, N20q, K20, fz20_sa, fz20_xb, F20_0, F20_1, F20_2, F20_3⟩ := hQ20
      have N20 := Fr.app N0 N20q
      have ge_sa_20 : n0 ≤ sa_20 := Nat.le_trans (own_old_size O0) fz20_sa
      have sz_sa_20 : h0.size ≤ sa_20 := Nat.le_trans (Keep.refl h0 []).1 fz20_sa
      have ge_xb_20 : n0 ≤ xb_20 := Nat.le_trans (own_old_size O0) fz20_xb
      have sz_xb_20 : h0.size ≤ xb_20 := Nat.le_trans (Keep.refl h0 []).1 fz20_xb
      refine Go.by st20 ?_
      show Go p e below _ (T20.setTop (mkF m 24 #[.val (.int c0_), .val (.int c1_), .val (.int l_)] [(.ref sa_20)]))
      have F21 : Keep h0 T20.heap [] := ((Keep.refl h0 []).trans K20 all0)
      have hq : Q_str Z c0_ c1_ l_ cs h0 n0 (some (.ref sa_20)) T20.heap _ := ⟨sa_20, xb_20, kb_20, rfl, N20, F21, sz_sa_20, F20_0, F20_1, F20_2, (by rw [hc19]; exact F20_3)⟩
      have F22 : CHr Z own_EL s.vm h0 s.vm T20.heap := (own_chK hR0 K20 sf0)
      have F23 : h0.size ≤ T20.heap.size := (Nat.le_trans hk0 K20.1)
      exact Go.retAH hS F23 (own_chEnd X20 rfl hZ hEL F22 hh) X20 hx Bd.returns rfl rfl hlk (hb hby d1_24) (by decide) (by decide) hq
    · skip
      refine Go.by (fun t k => XS.icmpYes X0.here hx rfl (pc0 := 17) (pc' := 25) rfl (hb hby d1_17) rfl (feq hc19).2 (by decide) (by decide) k) ?_
      show Go p e below _ (s₁.setTop (mkF m 25 #[.val (.int c0_), .val (.int c1_), .val (.int l_)] []))
      obtain ⟨T24, h24, X24, e24, E24, A24, D24, -, st24⟩ := newO X0 hx hZ hown (hw _ (List.mem_of_getElem? (i := 7) rfl)) (hw _ (List.mem_of_getElem? (i := 8) rfl)) (hw _ (List.mem_of_getElem? (i := 9) rfl)) e0 (g := (mkF m 25 #[.val (.int c0_), .val (.int c1_), .val (.int l_)] [])) rfl (hb hby d1_25) (by decide) (by decide)
      obtain ⟨b24, g24⟩ : ∃ z, z = h0.size := ⟨_, rfl⟩
      rw [← g24] at A24 D24 st24
      have gl24 : h0.size ≤ b24 := Nat.le_of_eq g24.symm
      have ge24 : n0 ≤ b24 := Nat.le_trans (own_old_size O0) gl24
      have sz24 : h0.size ≤ b24 := Nat.le_trans (Keep.refl h0 []).1 gl24
      have F25 : Fld Z h24 b24 "java/lang/String" "value" "[B" .null := D24 (Or.inr (hw _ (List.mem_of_getElem? (i := 23) rfl))) (ty := (.array .byte)) (by decide)
      have F26 : Fld Z h24 b24 "java/lang/String" "coder" "B" (.int (0 : Int32)) := D24 (Or.inr (hw _ (List.mem_of_getElem? (i := 24) rfl))) (ty := .byte) (by decide)
      refine Go.by st24 ?_
      show Go p e below _ (T24.setTop (mkF m 28 #[.val (.int c0_), .val (.int c1_), .val (.int l_)] [(.ref b24)]))
      refine Go.by (fun t k => XS.dup X24.here hx rfl (hb hby d1_28) rfl rfl k) ?_
      show Go p e below _ (T24.setTop (mkF m 29 #[.val (.int c0_), .val (.int c1_), .val (.int l_)] [(.ref b24), (.ref b24)]))
      refine Go.by (fun t k => XS.iconst X24.here hx rfl (hb hby d1_29) k) ?_
      show Go p e below _ (T24.setTop (mkF m 30 #[.val (.int c0_), .val (.int c1_), .val (.int l_)] [(.int (2 : Int32)), (.ref b24), (.ref b24)]))
      have F27 : Old Z n0 h24 := (O0.ext E24)
      have F28 : Keep h0 h24 [] := ((Keep.refl h0 []).ext E24)
      obtain ⟨T29, h29, k29, X29, e29, E29, A29, Q29, st29⟩ := newPE X24 hx hZ (hw _ (List.mem_of_getElem? (i := 10) rfl)) e24 (g := (mkF m 30 #[.val (.int c0_), .val (.int c1_), .val (.int l_)] [(.int (2 : Int32)), (.ref b24), (.ref b24)])) rfl (hb hby d1_30) rfl (by decide) (cap := 2) (by decide) (by decide) (by decide) (by decide) (ad := "[C") (by decide)
      obtain ⟨b29, g29⟩ : ∃ z, z = h24.size := ⟨_, rfl⟩
      rw [← g29] at A29 Q29 st29
      have gl29 : h24.size ≤ b29 := Nat.le_of_eq g29.symm
      have ge29 : n0 ≤ b29 := Nat.le_trans (own_old_size F27) gl29
      have sz29 : h0.size ≤ b29 := Nat.le_trans F28.1 gl29
      have ne30 : b24 ≠ b29 := Nat.ne_of_lt (Nat.lt_of_lt_of_le A24.lt gl29)
      have F31 : Arv Z h29 b29 k29 .char (2 : Int32) [(.int (0 : Int32)), (.int (0 : Int32))] (.int (0 : Int32)) := (Arv.new A29 (by decide)).pad (pad_rep [] (.int (0 : Int32)) 2)
      refine Go.by st29 ?_
      show Go p e below _ (T29.setTop (mkF m 32 #[.val (.int c0_), .val (.int c1_), .val (.int l_)] [(.ref b29), (.ref b24), (.ref b24)]))
      refine Go.by (fun t k => XS.dup X29.here hx rfl (hb hby d1_32) rfl rfl k) ?_
      show Go p e below _ (T29.setTop (mkF m 33 #[.val (.int c0_), .val (.int c1_), .val (.int l_)] [(.ref b29), (.ref b29), (.ref b24), (.ref b24)]))
      refine Go.by (fun t k => XS.iconst X29.here hx rfl (hb hby d1_33) k) ?_
      show Go p e below _ (T29.setTop (mkF m 34 #[.val (.int c0_), .val (.int c1_), .val (.int l_)] [(.int (0 : Int32)), (.ref b29), (.ref b29), (.ref b24), (.ref b24)]))
      refine Go.by (fun t k => XS.iloadN X29.here hx rfl (hb hby d1_34) rfl k) ?_
      show Go p e below _ (T29.setTop (mkF m 35 #[.val (.int c0_), .val (.int c1_), .val (.int l_)] [(.int c0_), (.int (0 : Int32)), (.ref b29), (.ref b29), (.ref b24), (.ref b24)]))
      obtain ⟨cl32, Ar32, qk32, sz32, nn32, Ha32, Gf32⟩ := id F31
      have hin33 : ¬ ((0 : Int32) < 0 ∨ cl32.slots.size ≤ ((0 : Int32)).toNatClampNeg) := inb_of sz32 ⟨by decide, by decide⟩
      obtain ⟨T34, h34, X34, e34, W34, st34⟩ := stC X29 hx hZ e29 Ar32 (j := (0 : Int32)) hin33 (g := (mkF m 35 #[.val (.int c0_), .val (.int c1_), .val (.int l_)] [(.int c0_), (.int (0 : Int32)), (.ref b29), (.ref b29), (.ref b24), (.ref b24)])) rfl rfl (hb hby d1_35)
      have N34 := Fr.snoc X34 N0 ge29
      have F35 : Arv Z h34 b29 k29 .char (2 : Int32) [(.int (nar .char c0_)), (.int (0 : Int32))] (.int (0 : Int32)) := Arv.set Ar32 qk32 sz32 nn32 Ha32 Gf32 (fits_nar_char _) W34 0 rfl (Nat.le_of_ble_eq_true rfl)
      refine Go.by st34 ?_
      show Go p e below _ (T34.setTop (mkF m 36 #[.val (.int c0_), .val (.int c1_), .val (.int l_)] [(.ref b29), (.ref b24), (.ref b24)]))
      refine Go.by (fun t k => XS.dup X34.here hx rfl (hb hby d1_36) rfl rfl k) ?_
      show Go p e below _ (T34.setTop (mkF m 37 #[.val (.int c0_), .val (.int c1_), .val (.int l_)] [(.ref b29), (.ref b29), (.ref b24), (.ref b24)]))
      refine Go.by (fun t k => XS.iconst X34.here hx rfl (hb hby d1_37) k) ?_
      show Go p e below _ (T34.setTop (mkF m 38 #[.val (.int c0_), .val (.int c1_), .val (.int l_)] [(.int (1 : Int32)), (.ref b29), (.ref b29), (.ref b24), (.ref b24)]))
      refine Go.by (fun t k => XS.iloadN X34.here hx rfl (hb hby d1_38) rfl k) ?_
      show Go p e below _ (T34.setTop (mkF m 39 #[.val (.int c0_), .val (.int c1_), .val (.int l_)] [(.int c1_), (.int (1 : Int32)), (.ref b29), (.ref b29), (.ref b24), (.ref b24)]))
      have F36 : Exa Z h34 b29 "[C" := (Q29.wr W34)
      obtain ⟨cl37, Ar37, qk37, sz37, nn37, Ha37, Gf37⟩ := id F35
      have hin38 : ¬ ((1 : Int32) < 0 ∨ cl37.slots.size ≤ ((1 : Int32)).toNatClampNeg) := inb_of sz37 ⟨by decide, by decide⟩
      obtain ⟨T39, h39, X39, e39, W39, st39⟩ := stC X34 hx hZ e34 Ar37 (j := (1 : Int32)) hin38 (g := (mkF m 39 #[.val (.int c0_), .val (.int c1_), .val (.int l_)] [(.int c1_), (.int (1 : Int32)), (.ref b29), (.ref b29), (.ref b24), (.ref b24)])) rfl rfl (hb hby d1_39)
      have N39 := Fr.snoc X39 N34 ge29
      have F40 : Arv Z h39 b29 k29 .char (2 : Int32) [(.int (nar .char c0_)), (.int (nar .char c1_))] (.int (0 : Int32)) := Arv.set Ar37 qk37 sz37 nn37 Ha37 Gf37 (fits_nar_char _) W39 1 rfl (Nat.le_of_ble_eq_true rfl)
      refine Go.by st39 ?_
      show Go p e below _ (T39.setTop (mkF m 40 #[.val (.int c0_), .val (.int c1_), .val (.int l_)] [(.ref b29), (.ref b24), (.ref b24)]))
      have F41 : Arv Z h39 b29 k29 .char (2 : Int32) [(.int c0_), (.int c1_)] (.int (0 : Int32)) := by have q := F40; rw [own_narc hq0, own_narc hq1] at q; exact q
      have F43 : Old Z n0 h39 := (((F27.ext E29).wr W34 ge29).wr W39 ge29)
      have F44 : Exa Z h39 b24 "java/lang/String" := (((A24.ext E29).wr W34).wr W39)
      have F45 : Fld Z h39 b24 "java/lang/String" "value" "[B" .null := (((F25.ext E29).other W34 (Or.inl ne30)).other W39 (Or.inl ne30))
      have F46 : Fld Z h39 b24 "java/lang/String" "coder" "B" (.int (0 : Int32)) := (((F26.ext E29).other W34 (Or.inl ne30)).other W39 (Or.inl ne30))
      have F47 : Exa Z h39 b29 "[C" := (F36.wr W39)
      have F48 : Keep h0 h39 [] := (((F28.ext E29).wr W34 (Or.inr sz29)).wr W39 (Or.inr sz29))
      obtain ⟨_, _, ⟨T42, L42, k42, n42⟩, -, X42, ⟨Lc42, hQ42, l42, y42, z42⟩, st42⟩ := X39.specialBack hx (y := (⟨"java/lang/String", "<init>", "([C)V"⟩ : MethodName)) rfl hown (mvT hZ (hw _ (List.mem_of_getElem? (i := 11) rfl))) (mvT hZ (hw _ (List.mem_of_getElem? (i := 12) rfl))) (mvT hZ (hw _ (List.mem_of_getElem? (i := 13) rfl))) (by decide) (backOf (W := 1) (init1_2 l Z a0 hw [] b24 b29 k29 c0_ c1_ cs h39 n0 F43 F44 F45 F46 F41 P0 ge24 (Ne.symm ne30) (by first | assumption | omega | decide | simp_all : cs ≠ (0 : Int32)) (by first | assumption | omega | decide | simp_all : 0 ≤ c0_.toInt ∧ c0_.toInt ≤ 255) (by first | assumption | omega | decide | simp_all : 0 ≤ c1_.toInt ∧ c1_.toInt ≤ 255)) hZ (hw _ (List.mem_of_getElem? (i := 13) rfl)) (hw _ (List.mem_of_getElem? (i := 9) rfl)) (by decide) (by decide)) (g := (mkF m 40 #[.val (.int c0_), .val (.int c1_), .val (.int l_)] [(.ref b29), (.ref b24), (.ref b24)])) rfl (by rw [hml]; rfl) (Steps.refl _) (a := b24) (argsL := [(.ref b29)]) (rest := [(.ref b24)]) (lenOf pd_7 rfl) rfl (by show 2 * 0 + _ ≤ _; exact Nat.le_of_eq rfl) (hb hby d1_40) (fun _ _ => ⟨rfl, e39, (by decide : 2 + 1 ≤ _), (by decide : 6 + 2 ≤ _)⟩)
      dsimp only [Pt.U, Pt.locs, Pt.cells, Pt.slots] at X42 l42 y42 z42 st42 hQ42
      subst l42 y42 z42
      obtain ⟨xb_42, kb_42, rfl, N42q, K42, fz42_xb, F42_0, F42_1, F42_2, F42_3⟩ := hQ42
      have N42 := Fr.app N39 N42q
      have ge_xb_42 : n0 ≤ xb_42 := Nat.le_trans (own_old_size F43) fz42_xb
      have sz_xb_42 : h0.size ≤ xb_42 := Nat.le_trans F48.1 fz42_xb
      have ne49 : b24 ≠ xb_42 := Nat.ne_of_lt (Nat.lt_of_lt_of_le F44.lt fz42_xb)
      have ne50 : b29 ≠ xb_42 := Nat.ne_of_lt (Nat.lt_of_lt_of_le F47.lt fz42_xb)
      refine Go.tr st42 ?_
      show Go p e below _ (T42.setTop (mkF m 43 #[.val (.int c0_), .val (.int c1_), .val (.int l_)] [(.ref b24)]))
      have F51 : Keep h0 T42.heap [] := (F48.trans K42 (allS (Or.inr sz24) all0))
      have h252 := own_two hl hc1 hc19
      have hq : Q_str Z c0_ c1_ l_ cs h0 n0 (some (.ref b24)) T42.heap _ := ⟨b24, xb_42, kb_42, rfl, N42, F51, sz24, F42_0, F42_1, F42_2, (by rw [h252]; exact F42_3)⟩
      have F53 : CHr Z own_EL s.vm h0 s.vm T42.heap := (own_chK (own_chW (own_chW (own_chE (own_chE hR0 E24) E29) W34 (Safe.exa hZ.alike Q29 (by decide) (by decide))) W39 (Safe.exa hZ.alike F36 (by decide) (by decide))) K42 (sfS (own_safeNull hZ.alike F44 F45) sf0))
      have F54 : h0.size ≤ T42.heap.size := (Nat.le_trans (Nat.le_trans (Nat.le_trans (Nat.le_trans (Nat.le_trans hk0 E24.1) E29.1) (Nat.le_of_eq W34.size.symm)) (Nat.le_of_eq W39.size.symm)) K42.1)
      exact Go.retAH hS F54 (own_chEnd X42 rfl hZ hEL F53 hh) X42 hx Bd.returns rfl rfl hlk (hb hby d1_43) (by decide) (by decide) hq
theorem d9_0 : decode jdk_43_method_13_code 0 = .ok (.aload_n 0, 1) := by decide +kernel
theorem d9_1 : decode jdk_43_method_13_code 1 = .ok (.arraylength, 1) := by decide +kernel
theorem d9_2 : decode jdk_43_method_13_code 2 = .ok (.aload_n 1, 1) := by decide +kernel
theorem d9_3 : decode jdk_43_method_13_code 3 = .ok (.arraylength, 1) := by decide +kernel
theorem d9_4 : decode jdk_43_method_13_code 4 = .ok (.if_icmp .ne 30, 3) := by decide +kernel
theorem d9_7 : decode jdk_43_method_13_code 7 = .ok (.iconst 0, 1) := by decide +kernel
theorem d9_8 : decode jdk_43_method_13_code 8 = .ok (.istore_n 2, 1) := by decide +kernel
theorem d9_9 : decode jdk_43_method_13_code 9 = .ok (.iload_n 2, 1) := by decide +kernel
theorem d9_10 : decode jdk_43_method_13_code 10 = .ok (.aload_n 0, 1) := by decide +kernel
theorem d9_11 : decode jdk_43_method_13_code 11 = .ok (.arraylength, 1) := by decide +kernel
theorem d9_12 : decode jdk_43_method_13_code 12 = .ok (.if_icmp .ge 20, 3) := by decide +kernel
theorem d9_15 : decode jdk_43_method_13_code 15 = .ok (.aload_n 0, 1) := by decide +kernel
theorem d9_16 : decode jdk_43_method_13_code 16 = .ok (.iload_n 2, 1) := by decide +kernel
theorem d9_17 : decode jdk_43_method_13_code 17 = .ok (.baload, 1) := by decide +kernel
theorem d9_18 : decode jdk_43_method_13_code 18 = .ok (.aload_n 1, 1) := by decide +kernel
theorem d9_19 : decode jdk_43_method_13_code 19 = .ok (.iload_n 2, 1) := by decide +kernel
theorem d9_20 : decode jdk_43_method_13_code 20 = .ok (.baload, 1) := by decide +kernel
theorem d9_21 : decode jdk_43_method_13_code 21 = .ok (.if_icmp .eq 5, 3) := by decide +kernel
theorem d9_26 : decode jdk_43_method_13_code 26 = .ok (.iinc 2 1, 3) := by decide +kernel
theorem d9_29 : decode jdk_43_method_13_code 29 = .ok (.goto (-20), 3) := by decide +kernel
theorem d9_32 : decode jdk_43_method_13_code 32 = .ok (.iconst 1, 1) := by decide +kernel
theorem d9_33 : decode jdk_43_method_13_code 33 = .ok (.ireturn, 1) := by decide +kernel
theorem d9_24 : decode jdk_43_method_13_code 24 = .ok (.iconst 0, 1) := by decide +kernel
theorem d9_25 : decode jdk_43_method_13_code 25 = .ok (.ireturn, 1) := by decide +kernel
theorem d9_34 : decode jdk_43_method_13_code 34 = .ok (.iconst 0, 1) := by decide +kernel
theorem d9_35 : decode jdk_43_method_13_code 35 = .ok (.ireturn, 1) := by decide +kernel
theorem ef_lat (m : MethodId) (xa : Addr) (xb : Addr) : entryFrame m #[(.ref xa), (.ref xb)] 3 = mkF m 0 #[.val (.ref xa), .val (.ref xb), .unset] [] := by first | (simp [entryFrame, mkF, argsToLocals, Value.category]; done) | rfl
def Q_lat (Z : State) (xa : Addr) (xb : Addr) (ka : ClassId) (kb : ClassId) (za1 : Int32) (a1_ : Int32) (b1_ : Int32) (za2 : Int32) (a2_ : Int32) (b2_ : Int32) (h0 : Heap) (n0 : Nat) (v : Option Value) (h : Heap) (L : List Loc) : Prop := v = some (.int (own_lat a1_ b1_ za1 a2_ b2_ za2)) ∧ Fr n0 L ∧ h = h0
set_option maxRecDepth 65536 in
set_option maxHeartbeats 40000000 in
theorem lat (l : Launch) (Z : State) (a0 : Array Value) (hw : ∀ d ∈ tables_1, d.before a0 Z = true) (ws : List Jvm.Cond) (xa : Addr) (xb : Addr) (ka : ClassId) (kb : ClassId) (za1 : Int32) (a1_ : Int32) (b1_ : Int32) (za2 : Int32) (a2_ : Int32) (b2_ : Int32) (h0 : Heap) (n0 : Nat) (O0 : Old Z n0 h0) (P0 : Arv Z h0 xa ka .byte za1 (own_sv a1_ b1_ za1) (.int (0 : Int32))) (P1 : Arv Z h0 xb kb .byte za2 (own_sv a2_ b2_ za2) (.int (0 : Int32))) (hz1 : za1 = (0 : Int32) ∨ za1 = (1 : Int32) ∨ za1 = (2 : Int32)) (hz2 : za2 = (0 : Int32) ∨ za2 = (1 : Int32) ∨ za2 = (2 : Int32)) :
    MetFree l (⟨"java/lang/StringLatin1", "equals", "([B[B)Z"⟩ : MethodName) (head1 (Jvm.Cond.code (⟨"java/lang/StringLatin1", "equals", "([B[B)Z"⟩ : MethodName) jdk_43_method_13_code 3 (some .boolean) :: ws) ({ frames := 0, cells := 0, slots := 0, locals := 0 } : Room)) (fun a U => a = #[(.ref xa), (.ref xb)] ∧ Z.Warmed39 U.vm ∧ U.heap = h0) (fun _ _ _ _ _ => True) (fun _ U o U' => ∃ v L, o = .returned v ∧ Q_lat Z xa xb ka kb za1 a1_ b1_ za2 a2_ b2_ h0 n0 v U'.heap L ∧ FrameEnd U o U' L ({ frames := 0, cells := 0, slots := 0, locals := 0 } : Room).cells ({ frames := 0, cells := 0, slots := 0, locals := 0 } : Room).slots) := by
  refine MetFree.of_bodySF (plainFor_of_name pn_2) hisR ?_
  intro p e s m args below meth c s₁ Bd hml0 hP hK
  obtain ⟨rfl, hZ, hh⟩ := hP
  have hx := Bd.exec
  have hby := Bd.bytes
  have hml : c.maxLocals = 3 := hml0
  have hown : s.vm.findClass "java/lang/StringLatin1" = some m.cls := findClass_of_methodNamed Bd.named
  have hnm := (name_of_methodNamed Bd.named Bd.method).1
  have hlk := BodyLoose.notSynchronized Bd
  have X0 : Stand p l e ({ frames := 0, cells := 0, slots := 0, locals := 0 } : Room) s m #[(.ref xa), (.ref xb)] below meth c s₁ [] 0 0 := Stand.of_body Bd
  have e0 : s₁.heap = h0 := by rw [← hh, Bd.state]; rfl
  have N0 := Fr.nil n0
  refine Go.start (P := fun o U' => ∃ v L, o = .returned v ∧ Q_lat Z xa xb ka kb za1 a1_ b1_ za2 a2_ b2_ h0 n0 v U'.heap L ∧ FrameEnd s o U' L ({ frames := 0, cells := 0, slots := 0, locals := 0 } : Room).cells ({ frames := 0, cells := 0, slots := 0, locals := 0 } : Room).slots) (ef_lat m xa xb) ?_
  show Go p e below _ (s₁.setTop (mkF m 0 #[.val (.ref xa), .val (.ref xb), .unset] []))
  refine Go.by (fun t k => XS.aloadN X0.here hx rfl (hb hby d9_0) rfl rfl k) ?_
  show Go p e below _ (s₁.setTop (mkF m 1 #[.val (.ref xa), .val (.ref xb), .unset] [(.ref xa)]))
  obtain ⟨cl1, Ar1, qk1, sz1, nn1, Ha1, Gf1⟩ := id P0
  have hl1 : cl1.slots.size.toInt32 = za1 := len_of sz1 nn1
  refine Go.by (fun t k => X0.arraylength hx (by rw [e0]; exact Ar1.1) (State.isArrayOf_alike hZ.alike Ar1.2.1) (g := (mkF m 1 #[.val (.ref xa), .val (.ref xb), .unset] [(.ref xa)])) rfl rfl (hb hby d9_1) t (by rw [hl1]; exact k)) ?_
  show Go p e below _ (s₁.setTop (mkF m 2 #[.val (.ref xa), .val (.ref xb), .unset] [(.int za1)]))
  refine Go.by (fun t k => XS.aloadN X0.here hx rfl (hb hby d9_2) rfl rfl k) ?_
  show Go p e below _ (s₁.setTop (mkF m 3 #[.val (.ref xa), .val (.ref xb), .unset] [(.ref xb), (.int za1)]))
  obtain ⟨cl2, Ar2, qk2, sz2, nn2, Ha2, Gf2⟩ := id P1
  have hl2 : cl2.slots.size.toInt32 = za2 := len_of sz2 nn2
  refine Go.by (fun t k => X0.arraylength hx (by rw [e0]; exact Ar2.1) (State.isArrayOf_alike hZ.alike Ar2.2.1) (g := (mkF m 3 #[.val (.ref xa), .val (.ref xb), .unset] [(.ref xb), (.int za1)])) rfl rfl (hb hby d9_3) t (by rw [hl2]; exact k)) ?_
  show Go p e below _ (s₁.setTop (mkF m 4 #[.val (.ref xa), .val (.ref xb), .unset] [(.int za2), (.int za1)]))
  by_cases hc3 : za1 = za2
  · skip
    refine Go.by (fun t k => XS.icmpNo X0.here hx rfl (hb hby d9_4) rfl (teq hc3).2 k) ?_
    show Go p e below _ (s₁.setTop (mkF m 7 #[.val (.ref xa), .val (.ref xb), .unset] []))
    refine Go.by (fun t k => XS.iconst X0.here hx rfl (hb hby d9_7) k) ?_
    show Go p e below _ (s₁.setTop (mkF m 8 #[.val (.ref xa), .val (.ref xb), .unset] [(.int (0 : Int32))]))
    refine Go.by (fun t k => XS.istoreN X0.here hx rfl (hb hby d9_8) rfl (l' := #[.val (.ref xa), .val (.ref xb), .val (.int (0 : Int32))]) rfl k) ?_
    show Go p e below _ (s₁.setTop (mkF m 9 #[.val (.ref xa), .val (.ref xb), .val (.int (0 : Int32))] []))
    refine Go.by (fun t k => XS.iloadN X0.here hx rfl (hb hby d9_9) rfl k) ?_
    show Go p e below _ (s₁.setTop (mkF m 10 #[.val (.ref xa), .val (.ref xb), .val (.int (0 : Int32))] [(.int (0 : Int32))]))
    refine Go.by (fun t k => XS.aloadN X0.here hx rfl (hb hby d9_10) rfl rfl k) ?_
    show Go p e below _ (s₁.setTop (mkF m 11 #[.val (.ref xa), .val (.ref xb), .val (.int (0 : Int32))] [(.ref xa), (.int (0 : Int32))]))
    obtain ⟨cl4, Ar4, qk4, sz4, nn4, Ha4, Gf4⟩ := id P0
    have hl4 : cl4.slots.size.toInt32 = za1 := len_of sz4 nn4
    refine Go.by (fun t k => X0.arraylength hx (by rw [e0]; exact Ar4.1) (State.isArrayOf_alike hZ.alike Ar4.2.1) (g := (mkF m 11 #[.val (.ref xa), .val (.ref xb), .val (.int (0 : Int32))] [(.ref xa), (.int (0 : Int32))])) rfl rfl (hb hby d9_11) t (by rw [hl4]; exact k)) ?_
    show Go p e below _ (s₁.setTop (mkF m 12 #[.val (.ref xa), .val (.ref xb), .val (.int (0 : Int32))] [(.int za1), (.int (0 : Int32))]))
    by_cases hc5 : (0 : Int32) < za1
    · skip
      refine Go.by (fun t k => XS.icmpNo X0.here hx rfl (hb hby d9_12) rfl (tlt hc5).2.1 k) ?_
      show Go p e below _ (s₁.setTop (mkF m 15 #[.val (.ref xa), .val (.ref xb), .val (.int (0 : Int32))] []))
      refine Go.by (fun t k => XS.aloadN X0.here hx rfl (hb hby d9_15) rfl rfl k) ?_
      show Go p e below _ (s₁.setTop (mkF m 16 #[.val (.ref xa), .val (.ref xb), .val (.int (0 : Int32))] [(.ref xa)]))
      refine Go.by (fun t k => XS.iloadN X0.here hx rfl (hb hby d9_16) rfl k) ?_
      show Go p e below _ (s₁.setTop (mkF m 17 #[.val (.ref xa), .val (.ref xb), .val (.int (0 : Int32))] [(.int (0 : Int32)), (.ref xa)]))
      obtain ⟨cl6, Ar6, qk6, sz6, nn6, Ha6, Gf6⟩ := id P0
      have hin7 : ¬ ((0 : Int32) < 0 ∨ cl6.slots.size ≤ ((0 : Int32)).toNatClampNeg) := inb_of sz6 ⟨by decide, hc5⟩
      have hat8 : cl6.slots[((0 : Int32)).toNatClampNeg]? = some (.int a1_) := Has.at Ha6 hin7 (own_sv0 hz1 hc5)
      refine Go.by (fun t k => X0.baloadBytes hx (j := (0 : Int32)) (v := (.int a1_)) (by rw [e0]; exact Ar6.1) (State.isArrayOf_alike hZ.alike Ar6.2.1) Ar6.2.2 hin7 hat8 (g := (mkF m 17 #[.val (.ref xa), .val (.ref xb), .val (.int (0 : Int32))] [(.int (0 : Int32)), (.ref xa)])) rfl rfl (hb hby d9_17) t k) ?_
      show Go p e below _ (s₁.setTop (mkF m 18 #[.val (.ref xa), .val (.ref xb), .val (.int (0 : Int32))] [(.int a1_)]))
      refine Go.by (fun t k => XS.aloadN X0.here hx rfl (hb hby d9_18) rfl rfl k) ?_
      show Go p e below _ (s₁.setTop (mkF m 19 #[.val (.ref xa), .val (.ref xb), .val (.int (0 : Int32))] [(.ref xb), (.int a1_)]))
      refine Go.by (fun t k => XS.iloadN X0.here hx rfl (hb hby d9_19) rfl k) ?_
      show Go p e below _ (s₁.setTop (mkF m 20 #[.val (.ref xa), .val (.ref xb), .val (.int (0 : Int32))] [(.int (0 : Int32)), (.ref xb), (.int a1_)]))
      obtain ⟨cl9, Ar9, qk9, sz9, nn9, Ha9, Gf9⟩ := id P1
      have hin10 : ¬ ((0 : Int32) < 0 ∨ cl9.slots.size ≤ ((0 : Int32)).toNatClampNeg) := inb_of sz9 ⟨by decide, hc3 ▸ hc5⟩
      have hat11 : cl9.slots[((0 : Int32)).toNatClampNeg]? = some (.int a2_) := Has.at Ha9 hin10 (own_sv0 hz2 (hc3 ▸ hc5))
      refine Go.by (fun t k => X0.baloadBytes hx (j := (0 : Int32)) (v := (.int a2_)) (by rw [e0]; exact Ar9.1) (State.isArrayOf_alike hZ.alike Ar9.2.1) Ar9.2.2 hin10 hat11 (g := (mkF m 20 #[.val (.ref xa), .val (.ref xb), .val (.int (0 : Int32))] [(.int (0 : Int32)), (.ref xb), (.int a1_)])) rfl rfl (hb hby d9_20) t k) ?_
      show Go p e below _ (s₁.setTop (mkF m 21 #[.val (.ref xa), .val (.ref xb), .val (.int (0 : Int32))] [(.int a2_), (.int a1_)]))
      by_cases hc12 : a1_ = a2_
      · skip
        refine Go.by (fun t k => XS.icmpYes X0.here hx rfl (pc0 := 21) (pc' := 26) rfl (hb hby d9_21) rfl (teq hc12).1 (by decide) (by decide) k) ?_
        show Go p e below _ (s₁.setTop (mkF m 26 #[.val (.ref xa), .val (.ref xb), .val (.int (0 : Int32))] []))
        refine Go.by (fun t k => XS.iinc X0.here hx rfl (hb hby d9_26) rfl (l' := #[.val (.ref xa), .val (.ref xb), .val (.int (1 : Int32))]) rfl k) ?_
        show Go p e below _ (s₁.setTop (mkF m 29 #[.val (.ref xa), .val (.ref xb), .val (.int (1 : Int32))] []))
        refine Go.by (fun t k => XS.goto X0.here hx rfl (pc0 := 29) (pc' := 9) rfl (hb hby d9_29) (by decide) (by decide) k) ?_
        show Go p e below _ (s₁.setTop (mkF m 9 #[.val (.ref xa), .val (.ref xb), .val (.int (1 : Int32))] []))
        refine Go.by (fun t k => XS.iloadN X0.here hx rfl (hb hby d9_9) rfl k) ?_
        show Go p e below _ (s₁.setTop (mkF m 10 #[.val (.ref xa), .val (.ref xb), .val (.int (1 : Int32))] [(.int (1 : Int32))]))
        refine Go.by (fun t k => XS.aloadN X0.here hx rfl (hb hby d9_10) rfl rfl k) ?_
        show Go p e below _ (s₁.setTop (mkF m 11 #[.val (.ref xa), .val (.ref xb), .val (.int (1 : Int32))] [(.ref xa), (.int (1 : Int32))]))
        obtain ⟨cl13, Ar13, qk13, sz13, nn13, Ha13, Gf13⟩ := id P0
        have hl13 : cl13.slots.size.toInt32 = za1 := len_of sz13 nn13
        refine Go.by (fun t k => X0.arraylength hx (by rw [e0]; exact Ar13.1) (State.isArrayOf_alike hZ.alike Ar13.2.1) (g := (mkF m 11 #[.val (.ref xa), .val (.ref xb), .val (.int (1 : Int32))] [(.ref xa), (.int (1 : Int32))])) rfl rfl (hb hby d9_11) t (by rw [hl13]; exact k)) ?_
        show Go p e below _ (s₁.setTop (mkF m 12 #[.val (.ref xa), .val (.ref xb), .val (.int (1 : Int32))] [(.int za1), (.int (1 : Int32))]))
        by_cases hc14 : (1 : Int32) < za1
        · skip
          refine Go.by (fun t k => XS.icmpNo X0.here hx rfl (hb hby d9_12) rfl (tlt hc14).2.1 k) ?_
          show Go p e below _ (s₁.setTop (mkF m 15 #[.val (.ref xa), .val (.ref xb), .val (.int (1 : Int32))] []))
          refine Go.by (fun t k => XS.aloadN X0.here hx rfl (hb hby d9_15) rfl rfl k) ?_
          show Go p e below _ (s₁.setTop (mkF m 16 #[.val (.ref xa), .val (.ref xb), .val (.int (1 : Int32))] [(.ref xa)]))
          refine Go.by (fun t k => XS.iloadN X0.here hx rfl (hb hby d9_16) rfl k) ?_
          show Go p e below _ (s₁.setTop (mkF m 17 #[.val (.ref xa), .val (.ref xb), .val (.int (1 : Int32))] [(.int (1 : Int32)), (.ref xa)]))
          obtain ⟨cl15, Ar15, qk15, sz15, nn15, Ha15, Gf15⟩ := id P0
          have hin16 : ¬ ((1 : Int32) < 0 ∨ cl15.slots.size ≤ ((1 : Int32)).toNatClampNeg) := inb_of sz15 ⟨by decide, hc14⟩
          have hat17 : cl15.slots[((1 : Int32)).toNatClampNeg]? = some (.int b1_) := Has.at Ha15 hin16 (own_sv1 hz1 hc14)
          refine Go.by (fun t k => X0.baloadBytes hx (j := (1 : Int32)) (v := (.int b1_)) (by rw [e0]; exact Ar15.1) (State.isArrayOf_alike hZ.alike Ar15.2.1) Ar15.2.2 hin16 hat17 (g := (mkF m 17 #[.val (.ref xa), .val (.ref xb), .val (.int (1 : Int32))] [(.int (1 : Int32)), (.ref xa)])) rfl rfl (hb hby d9_17) t k) ?_
          show Go p e below _ (s₁.setTop (mkF m 18 #[.val (.ref xa), .val (.ref xb), .val (.int (1 : Int32))] [(.int b1_)]))
          refine Go.by (fun t k => XS.aloadN X0.here hx rfl (hb hby d9_18) rfl rfl k) ?_
          show Go p e below _ (s₁.setTop (mkF m 19 #[.val (.ref xa), .val (.ref xb), .val (.int (1 : Int32))] [(.ref xb), (.int b1_)]))
          refine Go.by (fun t k => XS.iloadN X0.here hx rfl (hb hby d9_19) rfl k) ?_
          show Go p e below _ (s₁.setTop (mkF m 20 #[.val (.ref xa), .val (.ref xb), .val (.int (1 : Int32))] [(.int (1 : Int32)), (.ref xb), (.int b1_)]))
          obtain ⟨cl18, Ar18, qk18, sz18, nn18, Ha18, Gf18⟩ := id P1
          have hin19 : ¬ ((1 : Int32) < 0 ∨ cl18.slots.size ≤ ((1 : Int32)).toNatClampNeg) := inb_of sz18 ⟨by decide, hc3 ▸ hc14⟩
          have hat20 : cl18.slots[((1 : Int32)).toNatClampNeg]? = some (.int b2_) := Has.at Ha18 hin19 (own_sv1 hz2 (hc3 ▸ hc14))
          refine Go.by (fun t k => X0.baloadBytes hx (j := (1 : Int32)) (v := (.int b2_)) (by rw [e0]; exact Ar18.1) (State.isArrayOf_alike hZ.alike Ar18.2.1) Ar18.2.2 hin19 hat20 (g := (mkF m 20 #[.val (.ref xa), .val (.ref xb), .val (.int (1 : Int32))] [(.int (1 : Int32)), (.ref xb), (.int b1_)])) rfl rfl (hb hby d9_20) t k) ?_
          show Go p e below _ (s₁.setTop (mkF m 21 #[.val (.ref xa), .val (.ref xb), .val (.int (1 : Int32))] [(.int b2_), (.int b1_)]))
          by_cases hc21 : b1_ = b2_
          · skip
            refine Go.by (fun t k => XS.icmpYes X0.here hx rfl (pc0 := 21) (pc' := 26) rfl (hb hby d9_21) rfl (teq hc21).1 (by decide) (by decide) k) ?_
            show Go p e below _ (s₁.setTop (mkF m 26 #[.val (.ref xa), .val (.ref xb), .val (.int (1 : Int32))] []))
            refine Go.by (fun t k => XS.iinc X0.here hx rfl (hb hby d9_26) rfl (l' := #[.val (.ref xa), .val (.ref xb), .val (.int (2 : Int32))]) rfl k) ?_
            show Go p e below _ (s₁.setTop (mkF m 29 #[.val (.ref xa), .val (.ref xb), .val (.int (2 : Int32))] []))
            refine Go.by (fun t k => XS.goto X0.here hx rfl (pc0 := 29) (pc' := 9) rfl (hb hby d9_29) (by decide) (by decide) k) ?_
            show Go p e below _ (s₁.setTop (mkF m 9 #[.val (.ref xa), .val (.ref xb), .val (.int (2 : Int32))] []))
            refine Go.by (fun t k => XS.iloadN X0.here hx rfl (hb hby d9_9) rfl k) ?_
            show Go p e below _ (s₁.setTop (mkF m 10 #[.val (.ref xa), .val (.ref xb), .val (.int (2 : Int32))] [(.int (2 : Int32))]))
            refine Go.by (fun t k => XS.aloadN X0.here hx rfl (hb hby d9_10) rfl rfl k) ?_
            show Go p e below _ (s₁.setTop (mkF m 11 #[.val (.ref xa), .val (.ref xb), .val (.int (2 : Int32))] [(.ref xa), (.int (2 : Int32))]))
            obtain ⟨cl22, Ar22, qk22, sz22, nn22, Ha22, Gf22⟩ := id P0
            have hl22 : cl22.slots.size.toInt32 = za1 := len_of sz22 nn22
            refine Go.by (fun t k => X0.arraylength hx (by rw [e0]; exact Ar22.1) (State.isArrayOf_alike hZ.alike Ar22.2.1) (g := (mkF m 11 #[.val (.ref xa), .val (.ref xb), .val (.int (2 : Int32))] [(.ref xa), (.int (2 : Int32))])) rfl rfl (hb hby d9_11) t (by rw [hl22]; exact k)) ?_
            show Go p e below _ (s₁.setTop (mkF m 12 #[.val (.ref xa), .val (.ref xb), .val (.int (2 : Int32))] [(.int za1), (.int (2 : Int32))]))
            refine Go.by (fun t k => XS.icmpYes X0.here hx rfl (pc0 := 12) (pc' := 32) rfl (hb hby d9_12) rfl (flt (own_no2 hz1)).2.1 (by decide) (by decide) k) ?_
            show Go p e below _ (s₁.setTop (mkF m 32 #[.val (.ref xa), .val (.ref xb), .val (.int (2 : Int32))] []))
            refine Go.by (fun t k => XS.iconst X0.here hx rfl (hb hby d9_32) k) ?_
            show Go p e below _ (s₁.setTop (mkF m 33 #[.val (.ref xa), .val (.ref xb), .val (.int (2 : Int32))] [(.int (1 : Int32))]))
            have hq : Q_lat Z xa xb ka kb za1 a1_ b1_ za2 a2_ b2_ h0 n0 (some (.int (nar .boolean (1 : Int32)))) h0 _ := ⟨(show some (Value.int (1 : Int32)) = some (Value.int (own_lat a1_ b1_ za1 a2_ b2_ za2)) from by simp only [own_lat, if_pos hc3, if_pos hc5, if_pos hc12, if_pos hc14, if_pos hc21]), N0, rfl⟩
            exact Go.retN X0 hx (t := .boolean) Bd.returns (by simp) hlk (hb hby d9_33) (by decide) (by decide) (by rw [e0]; exact hq)
          · skip
            refine Go.by (fun t k => XS.icmpNo X0.here hx rfl (hb hby d9_21) rfl (feq hc21).1 k) ?_
            show Go p e below _ (s₁.setTop (mkF m 24 #[.val (.ref xa), .val (.ref xb), .val (.int (1 : Int32))] []))
            refine Go.by (fun t k => XS.iconst X0.here hx rfl (hb hby d9_24) k) ?_
            show Go p e below _ (s₁.setTop (mkF m 25 #[.val (.ref xa), .val (.ref xb), .val (.int (1 : Int32))] [(.int (0 : Int32))]))
            have hq : Q_lat Z xa xb ka kb za1 a1_ b1_ za2 a2_ b2_ h0 n0 (some (.int (nar .boolean (0 : Int32)))) h0 _ := ⟨(show some (Value.int (0 : Int32)) = some (Value.int (own_lat a1_ b1_ za1 a2_ b2_ za2)) from by simp only [own_lat, if_pos hc3, if_pos hc5, if_pos hc12, if_pos hc14, if_neg hc21]), N0, rfl⟩
            exact Go.retN X0 hx (t := .boolean) Bd.returns (by simp) hlk (hb hby d9_25) (by decide) (by decide) (by rw [e0]; exact hq)
        · skip
          refine Go.by (fun t k => XS.icmpYes X0.here hx rfl (pc0 := 12) (pc' := 32) rfl (hb hby d9_12) rfl (flt hc14).2.1 (by decide) (by decide) k) ?_
          show Go p e below _ (s₁.setTop (mkF m 32 #[.val (.ref xa), .val (.ref xb), .val (.int (1 : Int32))] []))
          refine Go.by (fun t k => XS.iconst X0.here hx rfl (hb hby d9_32) k) ?_
          show Go p e below _ (s₁.setTop (mkF m 33 #[.val (.ref xa), .val (.ref xb), .val (.int (1 : Int32))] [(.int (1 : Int32))]))
          have hq : Q_lat Z xa xb ka kb za1 a1_ b1_ za2 a2_ b2_ h0 n0 (some (.int (nar .boolean (1 : Int32)))) h0 _ := ⟨(show some (Value.int (1 : Int32)) = some (Value.int (own_lat a1_ b1_ za1 a2_ b2_ za2)) from by simp only [own_lat, if_pos hc3, if_pos hc5, if_pos hc12, if_neg hc14]), N0, rfl⟩
          exact Go.retN X0 hx (t := .boolean) Bd.returns (by simp) hlk (hb hby d9_33) (by decide) (by decide) (by rw [e0]; exact hq)
      · skip
        refine Go.by (fun t k => XS.icmpNo X0.here hx rfl (hb hby d9_21) rfl (feq hc12).1 k) ?_
        show Go p e below _ (s₁.setTop (mkF m 24 #[.val (.ref xa), .val (.ref xb), .val (.int (0 : Int32))] []))
        refine Go.by (fun t k => XS.iconst X0.here hx rfl (hb hby d9_24) k) ?_
        show Go p e below _ (s₁.setTop (mkF m 25 #[.val (.ref xa), .val (.ref xb), .val (.int (0 : Int32))] [(.int (0 : Int32))]))
        have hq : Q_lat Z xa xb ka kb za1 a1_ b1_ za2 a2_ b2_ h0 n0 (some (.int (nar .boolean (0 : Int32)))) h0 _ := ⟨(show some (Value.int (0 : Int32)) = some (Value.int (own_lat a1_ b1_ za1 a2_ b2_ za2)) from by simp only [own_lat, if_pos hc3, if_pos hc5, if_neg hc12]), N0, rfl⟩
        exact Go.retN X0 hx (t := .boolean) Bd.returns (by simp) hlk (hb hby d9_25) (by decide) (by decide) (by rw [e0]; exact hq)
    · skip
      refine Go.by (fun t k => XS.icmpYes X0.here hx rfl (pc0 := 12) (pc' := 32) rfl (hb hby d9_12) rfl (flt hc5).2.1 (by decide) (by decide) k) ?_
      show Go p e below _ (s₁.setTop (mkF m 32 #[.val (.ref xa), .val (.ref xb), .val (.int (0 : Int32))] []))
      refine Go.by (fun t k => XS.iconst X0.here hx rfl (hb hby d9_32) k) ?_
      show Go p e below _ (s₁.setTop (mkF m 33 #[.val (.ref xa), .val (.ref xb), .val (.int (0 : Int32))] [(.int (1 : Int32))]))
      have hq : Q_lat Z xa xb ka kb za1 a1_ b1_ za2 a2_ b2_ h0 n0 (some (.int (nar .boolean (1 : Int32)))) h0 _ := ⟨(show some (Value.int (1 : Int32)) = some (Value.int (own_lat a1_ b1_ za1 a2_ b2_ za2)) from by simp only [own_lat, if_pos hc3, if_neg hc5]), N0, rfl⟩
      exact Go.retN X0 hx (t := .boolean) Bd.returns (by simp) hlk (hb hby d9_33) (by decide) (by decide) (by rw [e0]; exact hq)
  · skip
    refine Go.by (fun t k => XS.icmpYes X0.here hx rfl (pc0 := 4) (pc' := 34) rfl (hb hby d9_4) rfl (feq hc3).2 (by decide) (by decide) k) ?_
    show Go p e below _ (s₁.setTop (mkF m 34 #[.val (.ref xa), .val (.ref xb), .unset] []))
    refine Go.by (fun t k => XS.iconst X0.here hx rfl (hb hby d9_34) k) ?_
    show Go p e below _ (s₁.setTop (mkF m 35 #[.val (.ref xa), .val (.ref xb), .unset] [(.int (0 : Int32))]))
    have hq : Q_lat Z xa xb ka kb za1 a1_ b1_ za2 a2_ b2_ h0 n0 (some (.int (nar .boolean (0 : Int32)))) h0 _ := ⟨(show some (Value.int (0 : Int32)) = some (Value.int (own_lat a1_ b1_ za1 a2_ b2_ za2)) from by simp only [own_lat, if_neg hc3]), N0, rfl⟩
    exact Go.retN X0 hx (t := .boolean) Bd.returns (by simp) hlk (hb hby d9_35) (by decide) (by decide) (by rw [e0]; exact hq)
theorem d8_0 : decode jdk_42_method_66_code 0 = .ok (.aload_n 0, 1) := by decide +kernel
theorem d8_1 : decode jdk_42_method_66_code 1 = .ok (.aload_n 1, 1) := by decide +kernel
theorem d8_2 : decode jdk_42_method_66_code 2 = .ok (.if_acmp .ne 5, 3) := by decide +kernel
theorem d8_5 : decode jdk_42_method_66_code 5 = .ok (.iconst 1, 1) := by decide +kernel
theorem d8_6 : decode jdk_42_method_66_code 6 = .ok (.ireturn, 1) := by decide +kernel
theorem ef_streq_same (m : MethodId) (sa : Addr) : entryFrame m #[(.ref sa), (.ref sa)] 3 = mkF m 0 #[.val (.ref sa), .val (.ref sa), .unset] [] := by first | (simp [entryFrame, mkF, argsToLocals, Value.category]; done) | rfl
def Q_streq_same (Z : State) (sa : Addr) (sa : Addr) (h0 : Heap) (n0 : Nat) (v : Option Value) (h : Heap) (L : List Loc) : Prop := v = some (.int (1 : Int32)) ∧ Fr n0 L ∧ h = h0
set_option maxRecDepth 65536 in
set_option maxHeartbeats 40000000 in
theorem streq_same (l : Launch) (Z : State) (a0 : Array Value) (hw : ∀ d ∈ tables_1, d.before a0 Z = true) (ws : List Jvm.Cond) (sa : Addr) (sa : Addr) (h0 : Heap) (n0 : Nat) (O0 : Old Z n0 h0) :
    MetFree l (⟨"java/lang/String", "equals", "(Ljava/lang/Object;)Z"⟩ : MethodName) (head1 (Jvm.Cond.code (⟨"java/lang/String", "equals", "(Ljava/lang/Object;)Z"⟩ : MethodName) jdk_42_method_66_code 3 (some .boolean) :: ws) ({ frames := 0, cells := 0, slots := 0, locals := 0 } : Room)) (fun a U => a = #[(.ref sa), (.ref sa)] ∧ Z.Warmed39 U.vm ∧ U.heap = h0) (fun _ _ _ _ _ => True) (fun _ U o U' => ∃ v L, o = .returned v ∧ Q_streq_same Z sa sa h0 n0 v U'.heap L ∧ FrameEnd U o U' L ({ frames := 0, cells := 0, slots := 0, locals := 0 } : Room).cells ({ frames := 0, cells := 0, slots := 0, locals := 0 } : Room).slots) := by
  refine MetFree.of_bodySF (plainFor_of_name pn_1) hisR ?_
  intro p e s m args below meth c s₁ Bd hml0 hP hK
  obtain ⟨rfl, hZ, hh⟩ := hP
  have hx := Bd.exec
  have hby := Bd.bytes
  have hml : c.maxLocals = 3 := hml0
  have hown : s.vm.findClass "java/lang/String" = some m.cls := findClass_of_methodNamed Bd.named
  have hnm := (name_of_methodNamed Bd.named Bd.method).1
  have hlk := BodyLoose.notSynchronized Bd
  have X0 : Stand p l e ({ frames := 0, cells := 0, slots := 0, locals := 0 } : Room) s m #[(.ref sa), (.ref sa)] below meth c s₁ [] 0 0 := Stand.of_body Bd
  have e0 : s₁.heap = h0 := by rw [← hh, Bd.state]; rfl
  have N0 := Fr.nil n0
  refine Go.start (P := fun o U' => ∃ v L, o = .returned v ∧ Q_streq_same Z sa sa h0 n0 v U'.heap L ∧ FrameEnd s o U' L ({ frames := 0, cells := 0, slots := 0, locals := 0 } : Room).cells ({ frames := 0, cells := 0, slots := 0, locals := 0 } : Room).slots) (ef_streq_same m sa) ?_
  show Go p e below _ (s₁.setTop (mkF m 0 #[.val (.ref sa), .val (.ref sa), .unset] []))
  refine Go.by (fun t k => XS.aloadN X0.here hx rfl (hb hby d8_0) rfl rfl k) ?_
  show Go p e below _ (s₁.setTop (mkF m 1 #[.val (.ref sa), .val (.ref sa), .unset] [(.ref sa)]))
  refine Go.by (fun t k => XS.aloadN X0.here hx rfl (hb hby d8_1) rfl rfl k) ?_
  show Go p e below _ (s₁.setTop (mkF m 2 #[.val (.ref sa), .val (.ref sa), .unset] [(.ref sa), (.ref sa)]))
  refine Go.by (fun t k => Jvm.RoadKit.acmp (g := (mkF m 2 #[.val (.ref sa), .val (.ref sa), .unset] [(.ref sa), (.ref sa)])) X0 hx rfl rfl rfl (pc0 := 2) (pc' := 5) (same := true) rfl (hb hby d8_2) rfl (decide_eq_true rfl) (by decide) (by decide) k) ?_
  show Go p e below _ (s₁.setTop (mkF m 5 #[.val (.ref sa), .val (.ref sa), .unset] []))
  refine Go.by (fun t k => XS.iconst X0.here hx rfl (hb hby d8_5) k) ?_
  show Go p e below _ (s₁.setTop (mkF m 6 #[.val (.ref sa), .val (.ref sa), .unset] [(.int (1 : Int32))]))
  have hq : Q_streq_same Z sa sa h0 n0 (some (.int (nar .boolean (1 : Int32)))) h0 _ := ⟨rfl, N0, rfl⟩
  exact Go.retN X0 hx (t := .boolean) Bd.returns (by simp) hlk (hb hby d8_6) (by decide) (by decide) (by rw [e0]; exact hq)
theorem d8_7 : decode jdk_42_method_66_code 7 = .ok (.aload_n 1, 1) := by decide +kernel
theorem d8_8 : decode jdk_42_method_66_code 8 = .ok (.instanceof 10, 3) := by decide +kernel
theorem d8_11 : decode jdk_42_method_66_code 11 = .ok (.ifCond .eq 43, 3) := by decide +kernel
theorem d8_14 : decode jdk_42_method_66_code 14 = .ok (.aload_n 1, 1) := by decide +kernel
theorem d8_15 : decode jdk_42_method_66_code 15 = .ok (.checkcast 10, 3) := by decide +kernel
theorem d8_18 : decode jdk_42_method_66_code 18 = .ok (.astore_n 2, 1) := by decide +kernel
theorem d8_19 : decode jdk_42_method_66_code 19 = .ok (.getstatic 38, 3) := by decide +kernel
theorem d8_22 : decode jdk_42_method_66_code 22 = .ok (.ifCond .eq 14, 3) := by decide +kernel
theorem d8_25 : decode jdk_42_method_66_code 25 = .ok (.aload_n 0, 1) := by decide +kernel
theorem d8_26 : decode jdk_42_method_66_code 26 = .ok (.getfield 15, 3) := by decide +kernel
theorem d8_29 : decode jdk_42_method_66_code 29 = .ok (.aload_n 2, 1) := by decide +kernel
theorem d8_30 : decode jdk_42_method_66_code 30 = .ok (.getfield 15, 3) := by decide +kernel
theorem d8_33 : decode jdk_42_method_66_code 33 = .ok (.if_icmp .ne 21, 3) := by decide +kernel
theorem d8_36 : decode jdk_42_method_66_code 36 = .ok (.aload_n 0, 1) := by decide +kernel
theorem d8_37 : decode jdk_42_method_66_code 37 = .ok (.getfield 9, 3) := by decide +kernel
theorem d8_40 : decode jdk_42_method_66_code 40 = .ok (.aload_n 2, 1) := by decide +kernel
theorem d8_41 : decode jdk_42_method_66_code 41 = .ok (.getfield 9, 3) := by decide +kernel
theorem d8_44 : decode jdk_42_method_66_code 44 = .ok (.invokestatic 541, 3) := by decide +kernel
theorem pd_9 : parseMethodDescriptor "([B[B)Z" = some ⟨[(.array .byte), (.array .byte)], some .boolean⟩ := by decide +kernel
theorem d8_47 : decode jdk_42_method_66_code 47 = .ok (.ifCond .eq 7, 3) := by decide +kernel
theorem d8_54 : decode jdk_42_method_66_code 54 = .ok (.iconst 0, 1) := by decide +kernel
theorem d8_55 : decode jdk_42_method_66_code 55 = .ok (.ireturn, 1) := by decide +kernel
theorem d8_50 : decode jdk_42_method_66_code 50 = .ok (.iconst 1, 1) := by decide +kernel
theorem d8_51 : decode jdk_42_method_66_code 51 = .ok (.goto 4, 3) := by decide +kernel
theorem ef_streq (m : MethodId) (sa : Addr) (sb : Addr) : entryFrame m #[(.ref sa), (.ref sb)] 3 = mkF m 0 #[.val (.ref sa), .val (.ref sb), .unset] [] := by first | (simp [entryFrame, mkF, argsToLocals, Value.category]; done) | rfl
def Q_streq (Z : State) (sa : Addr) (sb : Addr) (xa : Addr) (xb : Addr) (ka : ClassId) (kb : ClassId) (cs : Int32) (za1 : Int32) (a1_ : Int32) (b1_ : Int32) (za2 : Int32) (a2_ : Int32) (b2_ : Int32) (h0 : Heap) (n0 : Nat) (v : Option Value) (h : Heap) (L : List Loc) : Prop := v = some (.int (own_lat a1_ b1_ za1 a2_ b2_ za2)) ∧ Fr n0 L ∧ h = h0
set_option maxRecDepth 65536 in
set_option maxHeartbeats 40000000 in
theorem streq (l : Launch) (Z : State) (a0 : Array Value) (hw : ∀ d ∈ tables_1, d.before a0 Z = true) (ws : List Jvm.Cond) (sa : Addr) (sb : Addr) (xa : Addr) (xb : Addr) (ka : ClassId) (kb : ClassId) (cs : Int32) (za1 : Int32) (a1_ : Int32) (b1_ : Int32) (za2 : Int32) (a2_ : Int32) (b2_ : Int32) (h0 : Heap) (n0 : Nat) (O0 : Old Z n0 h0) (P0 : Sta Z Z.heap "java/lang/String" "COMPACT_STRINGS" "Z" (.int cs)) (P1 : Exa Z h0 sa "java/lang/String") (P2 : Fld Z h0 sa "java/lang/String" "coder" "B" (.int (0 : Int32))) (P3 : Fld Z h0 sa "java/lang/String" "value" "[B" (.ref xa)) (P4 : Arv Z h0 xa ka .byte za1 (own_sv a1_ b1_ za1) (.int (0 : Int32))) (P5 : Exa Z h0 sb "java/lang/String") (P6 : Fld Z h0 sb "java/lang/String" "coder" "B" (.int (0 : Int32))) (P7 : Fld Z h0 sb "java/lang/String" "value" "[B" (.ref xb)) (P8 : Arv Z h0 xb kb .byte za2 (own_sv a2_ b2_ za2) (.int (0 : Int32))) (hcs : cs ≠ (0 : Int32)) (nab : sa ≠ sb) (hz1 : za1 = (0 : Int32) ∨ za1 = (1 : Int32) ∨ za1 = (2 : Int32)) (hz2 : za2 = (0 : Int32) ∨ za2 = (1 : Int32) ∨ za2 = (2 : Int32)) :
    MetFree l (⟨"java/lang/String", "equals", "(Ljava/lang/Object;)Z"⟩ : MethodName) (head1 (Jvm.Cond.code (⟨"java/lang/String", "equals", "(Ljava/lang/Object;)Z"⟩ : MethodName) jdk_42_method_66_code 3 (some .boolean) :: ws) ({ frames := 1, cells := 0, slots := 0, locals := 14 } : Room)) (fun a U => a = #[(.ref sa), (.ref sb)] ∧ Z.Warmed39 U.vm ∧ U.heap = h0) (fun _ _ _ _ _ => True) (fun _ U o U' => ∃ v L, o = .returned v ∧ Q_streq Z sa sb xa xb ka kb cs za1 a1_ b1_ za2 a2_ b2_ h0 n0 v U'.heap L ∧ FrameEnd U o U' L ({ frames := 1, cells := 0, slots := 0, locals := 14 } : Room).cells ({ frames := 1, cells := 0, slots := 0, locals := 14 } : Room).slots) := by
  refine MetFree.of_bodySF (plainFor_of_name pn_1) hisR ?_
  intro p e s m args below meth c s₁ Bd hml0 hP hK
  obtain ⟨rfl, hZ, hh⟩ := hP
  have hx := Bd.exec
  have hby := Bd.bytes
  have hml : c.maxLocals = 3 := hml0
  have hown : s.vm.findClass "java/lang/String" = some m.cls := findClass_of_methodNamed Bd.named
  have hnm := (name_of_methodNamed Bd.named Bd.method).1
  have hlk := BodyLoose.notSynchronized Bd
  have X0 : Stand p l e ({ frames := 1, cells := 0, slots := 0, locals := 14 } : Room) s m #[(.ref sa), (.ref sb)] below meth c s₁ [] 0 0 := Stand.of_body Bd
  have e0 : s₁.heap = h0 := by rw [← hh, Bd.state]; rfl
  have N0 := Fr.nil n0
  refine Go.start (P := fun o U' => ∃ v L, o = .returned v ∧ Q_streq Z sa sb xa xb ka kb cs za1 a1_ b1_ za2 a2_ b2_ h0 n0 v U'.heap L ∧ FrameEnd s o U' L ({ frames := 1, cells := 0, slots := 0, locals := 14 } : Room).cells ({ frames := 1, cells := 0, slots := 0, locals := 14 } : Room).slots) (ef_streq m sa sb) ?_
  show Go p e below _ (s₁.setTop (mkF m 0 #[.val (.ref sa), .val (.ref sb), .unset] []))
  refine Go.by (fun t k => XS.aloadN X0.here hx rfl (hb hby d8_0) rfl rfl k) ?_
  show Go p e below _ (s₁.setTop (mkF m 1 #[.val (.ref sa), .val (.ref sb), .unset] [(.ref sa)]))
  refine Go.by (fun t k => XS.aloadN X0.here hx rfl (hb hby d8_1) rfl rfl k) ?_
  show Go p e below _ (s₁.setTop (mkF m 2 #[.val (.ref sa), .val (.ref sb), .unset] [(.ref sb), (.ref sa)]))
  refine Go.by (fun t k => Jvm.RoadKit.acmp (g := (mkF m 2 #[.val (.ref sa), .val (.ref sb), .unset] [(.ref sb), (.ref sa)])) X0 hx rfl rfl rfl (pc0 := 2) (pc' := 7) (same := false) rfl (hb hby d8_2) rfl (decide_eq_false fun q => nab (Value.ref.inj q)) (by decide) (by decide) k) ?_
  show Go p e below _ (s₁.setTop (mkF m 7 #[.val (.ref sa), .val (.ref sb), .unset] []))
  refine Go.by (fun t k => XS.aloadN X0.here hx rfl (hb hby d8_7) rfl rfl k) ?_
  show Go p e below _ (s₁.setTop (mkF m 8 #[.val (.ref sa), .val (.ref sb), .unset] [(.ref sb)]))
  obtain ⟨T1, X1, e1, st1⟩ := instY X0 hx hZ hown (hw _ (List.mem_of_getElem? (i := 52) rfl)) e0 (Ins.self P5) (g := (mkF m 8 #[.val (.ref sa), .val (.ref sb), .unset] [(.ref sb)])) rfl rfl (hb hby d8_8)
  refine Go.by st1 ?_
  show Go p e below _ (T1.setTop (mkF m 11 #[.val (.ref sa), .val (.ref sb), .unset] [(.int (1 : Int32))]))
  refine Go.by (fun t k => XS.ifNo X1.here hx rfl (hb hby d8_11) rfl ((if0 _ _).trans (feq (by decide : ¬ ((1 : Int32) = (0 : Int32)))).1) k) ?_
  show Go p e below _ (T1.setTop (mkF m 14 #[.val (.ref sa), .val (.ref sb), .unset] []))
  refine Go.by (fun t k => XS.aloadN X1.here hx rfl (hb hby d8_14) rfl rfl k) ?_
  show Go p e below _ (T1.setTop (mkF m 15 #[.val (.ref sa), .val (.ref sb), .unset] [(.ref sb)]))
  obtain ⟨T2, X2, e2, st2⟩ := castY X1 hx hZ hown (hw _ (List.mem_of_getElem? (i := 52) rfl)) e1 (Ins.self P5) (g := (mkF m 15 #[.val (.ref sa), .val (.ref sb), .unset] [(.ref sb)])) rfl rfl (hb hby d8_15)
  refine Go.by st2 ?_
  show Go p e below _ (T2.setTop (mkF m 18 #[.val (.ref sa), .val (.ref sb), .unset] [(.ref sb)]))
  refine Go.by (fun t k => XS.astoreN X2.here hx rfl (hb hby d8_18) rfl rfl (l' := #[.val (.ref sa), .val (.ref sb), .val (.ref sb)]) rfl k) ?_
  show Go p e below _ (T2.setTop (mkF m 19 #[.val (.ref sa), .val (.ref sb), .val (.ref sb)] []))
  have F3 : Sta Z h0 "java/lang/String" "COMPACT_STRINGS" "Z" (.int cs) := P0.ext O0.2
  obtain ⟨T4, X4, e4, st4⟩ := getS2 X2 hx hZ hown (host := "") (Or.inl (hw _ (List.mem_of_getElem? (i := 53) rfl))) Via.refl e2 F3 (g := (mkF m 19 #[.val (.ref sa), .val (.ref sb), .val (.ref sb)] [])) rfl (hb hby d8_19)
  refine Go.by st4 ?_
  show Go p e below _ (T4.setTop (mkF m 22 #[.val (.ref sa), .val (.ref sb), .val (.ref sb)] [(.int cs)]))
  refine Go.by (fun t k => XS.ifNo X4.here hx rfl (hb hby d8_22) rfl ((if0 _ _).trans (feq hcs).1) k) ?_
  show Go p e below _ (T4.setTop (mkF m 25 #[.val (.ref sa), .val (.ref sb), .val (.ref sb)] []))
  refine Go.by (fun t k => XS.aloadN X4.here hx rfl (hb hby d8_25) rfl rfl k) ?_
  show Go p e below _ (T4.setTop (mkF m 26 #[.val (.ref sa), .val (.ref sb), .val (.ref sb)] [(.ref sa)]))
  obtain ⟨T5, X5, e5, st5⟩ := getF X4 hx hZ hown (host := "") (Or.inl (hw _ (List.mem_of_getElem? (i := 28) rfl))) Via.refl e4 P2 (g := (mkF m 26 #[.val (.ref sa), .val (.ref sb), .val (.ref sb)] [(.ref sa)])) rfl rfl (hb hby d8_26)
  refine Go.by st5 ?_
  show Go p e below _ (T5.setTop (mkF m 29 #[.val (.ref sa), .val (.ref sb), .val (.ref sb)] [(.int (0 : Int32))]))
  refine Go.by (fun t k => XS.aloadN X5.here hx rfl (hb hby d8_29) rfl rfl k) ?_
  show Go p e below _ (T5.setTop (mkF m 30 #[.val (.ref sa), .val (.ref sb), .val (.ref sb)] [(.ref sb), (.int (0 : Int32))]))
  obtain ⟨T6, X6, e6, st6⟩ := getF X5 hx hZ hown (host := "") (Or.inl (hw _ (List.mem_of_getElem? (i := 28) rfl))) Via.refl e5 P6 (g := (mkF m 30 #[.val (.ref sa), .val (.ref sb), .val (.ref sb)] [(.ref sb), (.int (0 : Int32))])) rfl rfl (hb hby d8_30)
  refine Go.by st6 ?_
  show Go p e below _ (T6.setTop (mkF m 33 #[.val (.ref sa), .val (.ref sb), .val (.ref sb)] [(.int (0 : Int32)), (.int (0 : Int32))]))
  refine Go.by (fun t k => XS.icmpNo X6.here hx rfl (hb hby d8_33) rfl (teq rfl).2 k) ?_
  show Go p e below _ (T6.setTop (mkF m 36 #[.val (.ref sa), .val (.ref sb), .val (.ref sb)] []))
  refine Go.by (fun t k => XS.aloadN X6.here hx rfl (hb hby d8_36) rfl rfl k) ?_
  show Go p e below _ (T6.setTop (mkF m 37 #[.val (.ref sa), .val (.ref sb), .val (.ref sb)] [(.ref sa)]))
  obtain ⟨T7, X7, e7, st7⟩ := getF X6 hx hZ hown (host := "") (Or.inl (hw _ (List.mem_of_getElem? (i := 27) rfl))) Via.refl e6 P3 (g := (mkF m 37 #[.val (.ref sa), .val (.ref sb), .val (.ref sb)] [(.ref sa)])) rfl rfl (hb hby d8_37)
  refine Go.by st7 ?_
  show Go p e below _ (T7.setTop (mkF m 40 #[.val (.ref sa), .val (.ref sb), .val (.ref sb)] [(.ref xa)]))
  refine Go.by (fun t k => XS.aloadN X7.here hx rfl (hb hby d8_40) rfl rfl k) ?_
  show Go p e below _ (T7.setTop (mkF m 41 #[.val (.ref sa), .val (.ref sb), .val (.ref sb)] [(.ref sb), (.ref xa)]))
  obtain ⟨T8, X8, e8, st8⟩ := getF X7 hx hZ hown (host := "") (Or.inl (hw _ (List.mem_of_getElem? (i := 27) rfl))) Via.refl e7 P7 (g := (mkF m 41 #[.val (.ref sa), .val (.ref sb), .val (.ref sb)] [(.ref sb), (.ref xa)])) rfl rfl (hb hby d8_41)
  refine Go.by st8 ?_
  show Go p e below _ (T8.setTop (mkF m 44 #[.val (.ref sa), .val (.ref sb), .val (.ref sb)] [(.ref xb), (.ref xa)]))
  obtain ⟨_, _, ⟨T9, L9, k9, n9⟩, -, X9, ⟨Lc9, hQ9, l9, y9, z9⟩, st9⟩ := Jvm.LawKit.callS X8 hx (y := (⟨"java/lang/StringLatin1", "equals", "([B[B)Z"⟩ : MethodName)) hown (mvT hZ (hw _ (List.mem_of_getElem? (i := 54) rfl))) (mvT hZ (hw _ (List.mem_of_getElem? (i := 55) rfl))) (mvT hZ (hw _ (List.mem_of_getElem? (i := 56) rfl))) (mvT hZ (hw _ (List.mem_of_getElem? (i := 57) rfl))) (by decide) (backOf (W := 0) (lat l Z a0 hw [] xa xb ka kb za1 a1_ b1_ za2 a2_ b2_ h0 n0 O0 P4 P8 hz1 hz2) hZ (hw _ (List.mem_of_getElem? (i := 57) rfl)) (hw _ (List.mem_of_getElem? (i := 56) rfl)) (by decide) (by decide)) (g := (mkF m 44 #[.val (.ref sa), .val (.ref sb), .val (.ref sb)] [(.ref xb), (.ref xa)])) rfl (by rw [hml]; rfl) (argsL := [(.ref xa), (.ref xb)]) (rest := []) (lenOf pd_9 rfl) rfl (by show 2 * 0 + _ ≤ _; exact Nat.le_of_eq rfl) (hb hby d8_44) (fun _ _ => ⟨rfl, e8, (by decide : 0 + 0 ≤ _), (by decide : 0 + 0 ≤ _)⟩)
  dsimp only [Pt.U, Pt.locs, Pt.cells, Pt.slots] at X9 l9 y9 z9 st9 hQ9
  subst l9 y9 z9
  obtain ⟨rfl, N9q, e9⟩ := hQ9
  have N9 := Fr.app N0 N9q
  refine Go.by st9 ?_
  show Go p e below _ (T9.setTop (mkF m 47 #[.val (.ref sa), .val (.ref sb), .val (.ref sb)] [(.int (own_lat a1_ b1_ za1 a2_ b2_ za2))]))
  by_cases hc10 : (own_lat a1_ b1_ za1 a2_ b2_ za2) = (0 : Int32)
  · skip
    refine Go.by (fun t k => XS.ifYes X9.here hx rfl (pc0 := 47) (pc' := 54) rfl (hb hby d8_47) rfl ((if0 _ _).trans (teq hc10).1) (by decide) (by decide) k) ?_
    show Go p e below _ (T9.setTop (mkF m 54 #[.val (.ref sa), .val (.ref sb), .val (.ref sb)] []))
    refine Go.by (fun t k => XS.iconst X9.here hx rfl (hb hby d8_54) k) ?_
    show Go p e below _ (T9.setTop (mkF m 55 #[.val (.ref sa), .val (.ref sb), .val (.ref sb)] [(.int (0 : Int32))]))
    have hq : Q_streq Z sa sb xa xb ka kb cs za1 a1_ b1_ za2 a2_ b2_ h0 n0 (some (.int (nar .boolean (0 : Int32)))) h0 _ := ⟨(congrArg (fun q => some (Value.int q)) hc10.symm), N9, rfl⟩
    exact Go.retN X9 hx (t := .boolean) Bd.returns (by simp) hlk (hb hby d8_55) (by decide) (by decide) (by rw [e9]; exact hq)
  · skip
    refine Go.by (fun t k => XS.ifNo X9.here hx rfl (hb hby d8_47) rfl ((if0 _ _).trans (feq hc10).1) k) ?_
    show Go p e below _ (T9.setTop (mkF m 50 #[.val (.ref sa), .val (.ref sb), .val (.ref sb)] []))
    refine Go.by (fun t k => XS.iconst X9.here hx rfl (hb hby d8_50) k) ?_
    show Go p e below _ (T9.setTop (mkF m 51 #[.val (.ref sa), .val (.ref sb), .val (.ref sb)] [(.int (1 : Int32))]))
    refine Go.by (fun t k => XS.goto X9.here hx rfl (pc0 := 51) (pc' := 55) rfl (hb hby d8_51) (by decide) (by decide) k) ?_
    show Go p e below _ (T9.setTop (mkF m 55 #[.val (.ref sa), .val (.ref sb), .val (.ref sb)] [(.int (1 : Int32))]))
    have hq : Q_streq Z sa sb xa xb ka kb cs za1 a1_ b1_ za2 a2_ b2_ h0 n0 (some (.int (nar .boolean (1 : Int32)))) h0 _ := ⟨(congrArg (fun q => some (Value.int q)) (own_lat1 hc10).symm), N9, rfl⟩
    exact Go.retN X9 hx (t := .boolean) Bd.returns (by simp) hlk (hb hby d8_55) (by decide) (by decide) (by rw [e9]; exact hq)
theorem pn_4 : plainName "com/example/tattler/tattler/channel/WatchedResource" = true := by first | (simp [plainName, overriddenIn]; done) | decide +kernel
theorem d5_0 : decode prog_8_method_2_code 0 = .ok (.aload_n 0, 1) := by decide +kernel
theorem d5_1 : decode prog_8_method_2_code 1 = .ok (.invokespecial 1, 3) := by decide +kernel
theorem d5_4 : decode prog_8_method_2_code 4 = .ok (.aload_n 0, 1) := by decide +kernel
theorem d5_5 : decode prog_8_method_2_code 5 = .ok (.aload_n 1, 1) := by decide +kernel
theorem d5_6 : decode prog_8_method_2_code 6 = .ok (.putfield 61, 3) := by decide +kernel
theorem d5_9 : decode prog_8_method_2_code 9 = .ok (.aload_n 0, 1) := by decide +kernel
theorem d5_10 : decode prog_8_method_2_code 10 = .ok (.aload_n 2, 1) := by decide +kernel
theorem d5_11 : decode prog_8_method_2_code 11 = .ok (.putfield 49, 3) := by decide +kernel
theorem d5_14 : decode prog_8_method_2_code 14 = .ok (.return_, 1) := by decide +kernel
theorem ef_winit (m : MethodId) (ob : Addr) (s1 : Addr) (s2 : Addr) : entryFrame m #[(.ref ob), (.ref s1), (.ref s2)] 3 = mkF m 0 #[.val (.ref ob), .val (.ref s1), .val (.ref s2)] [] := by first | (simp [entryFrame, mkF, argsToLocals, Value.category]; done) | rfl
def Q_winit (Z : State) (ob : Addr) (s1 : Addr) (s2 : Addr) (h0 : Heap) (n0 : Nat) (v : Option Value) (h : Heap) (L : List Loc) : Prop := v = none ∧ Fr n0 L ∧ Keep h0 h [ob] ∧ Exa Z h ob "com/example/tattler/tattler/channel/WatchedResource" ∧ Fld Z h ob "com/example/tattler/tattler/channel/WatchedResource" "id" "Ljava/lang/String;" (.ref s1) ∧ Fld Z h ob "com/example/tattler/tattler/channel/WatchedResource" "uri" "Ljava/lang/String;" (.ref s2)
set_option maxRecDepth 65536 in
set_option maxHeartbeats 40000000 in
theorem winit (l : Launch) (Z : State) (a0 : Array Value) (hw : ∀ d ∈ tables_1, d.before a0 Z = true) (ws : List Jvm.Cond) (ob : Addr) (s1 : Addr) (s2 : Addr) (h0 : Heap) (n0 : Nat) (O0 : Old Z n0 h0) (P0 : Exa Z h0 ob "com/example/tattler/tattler/channel/WatchedResource") (P1 : Fld Z h0 ob "com/example/tattler/tattler/channel/WatchedResource" "id" "Ljava/lang/String;" .null) (P2 : Fld Z h0 ob "com/example/tattler/tattler/channel/WatchedResource" "uri" "Ljava/lang/String;" .null) (gob : n0 ≤ ob) :
    MetFree l (⟨"com/example/tattler/tattler/channel/WatchedResource", "<init>", "(Ljava/lang/String;Ljava/lang/String;)V"⟩ : MethodName) (head1 (Jvm.Cond.code (⟨"com/example/tattler/tattler/channel/WatchedResource", "<init>", "(Ljava/lang/String;Ljava/lang/String;)V"⟩ : MethodName) prog_8_method_2_code 3 none :: ws) ({ frames := 1, cells := 0, slots := 0, locals := 12 } : Room)) (fun a U => a = #[(.ref ob), (.ref s1), (.ref s2)] ∧ Z.Warmed39 U.vm ∧ U.heap = h0) (fun _ _ _ _ _ => True) (fun _ U o U' => ∃ v L, o = .returned v ∧ Q_winit Z ob s1 s2 h0 n0 v U'.heap L ∧ FrameEnd U o U' L ({ frames := 1, cells := 0, slots := 0, locals := 12 } : Room).cells ({ frames := 1, cells := 0, slots := 0, locals := 12 } : Room).slots) := by
  refine MetFree.of_bodySF (plainFor_of_name pn_4) hisR ?_
  intro p e s m args below meth c s₁ Bd hml0 hP hK
  obtain ⟨rfl, hZ, hh⟩ := hP
  have hx := Bd.exec
  have hby := Bd.bytes
  have hml : c.maxLocals = 3 := hml0
  have hown : s.vm.findClass "com/example/tattler/tattler/channel/WatchedResource" = some m.cls := findClass_of_methodNamed Bd.named
  have hnm := (name_of_methodNamed Bd.named Bd.method).1
  have hlk := BodyLoose.notSynchronized Bd
  have X0 : Stand p l e ({ frames := 1, cells := 0, slots := 0, locals := 12 } : Room) s m #[(.ref ob), (.ref s1), (.ref s2)] below meth c s₁ [] 0 0 := Stand.of_body Bd
  have e0 : s₁.heap = h0 := by rw [← hh, Bd.state]; rfl
  have N0 := Fr.nil n0
  refine Go.start (P := fun o U' => ∃ v L, o = .returned v ∧ Q_winit Z ob s1 s2 h0 n0 v U'.heap L ∧ FrameEnd s o U' L ({ frames := 1, cells := 0, slots := 0, locals := 12 } : Room).cells ({ frames := 1, cells := 0, slots := 0, locals := 12 } : Room).slots) (ef_winit m ob s1 s2) ?_
  show Go p e below _ (s₁.setTop (mkF m 0 #[.val (.ref ob), .val (.ref s1), .val (.ref s2)] []))
  refine Go.by (fun t k => XS.aloadN X0.here hx rfl (hb hby d5_0) rfl rfl k) ?_
  show Go p e below _ (s₁.setTop (mkF m 1 #[.val (.ref ob), .val (.ref s1), .val (.ref s2)] [(.ref ob)]))
  obtain ⟨T1, X1, e1, st1⟩ := initO X0 hx hZ hown (hw _ (List.mem_of_getElem? (i := 32) rfl)) (hw _ (List.mem_of_getElem? (i := 19) rfl)) (hw _ (List.mem_of_getElem? (i := 20) rfl)) e0 (g := (mkF m 1 #[.val (.ref ob), .val (.ref s1), .val (.ref s2)] [(.ref ob)])) rfl (by rw [hml]; rfl) rfl (hb hby d5_1) (by decide) (W := 0) (by show 2 * 0 + _ ≤ _; exact Nat.le_of_eq rfl) (by decide)
  refine Go.by st1 ?_
  show Go p e below _ (T1.setTop (mkF m 4 #[.val (.ref ob), .val (.ref s1), .val (.ref s2)] []))
  refine Go.by (fun t k => XS.aloadN X1.here hx rfl (hb hby d5_4) rfl rfl k) ?_
  show Go p e below _ (T1.setTop (mkF m 5 #[.val (.ref ob), .val (.ref s1), .val (.ref s2)] [(.ref ob)]))
  refine Go.by (fun t k => XS.aloadN X1.here hx rfl (hb hby d5_5) rfl rfl k) ?_
  show Go p e below _ (T1.setTop (mkF m 6 #[.val (.ref ob), .val (.ref s1), .val (.ref s2)] [(.ref s1), (.ref ob)]))
  obtain ⟨T2, h2, X2, e2, W2, st2⟩ := putF X1 hx hZ hown (host := "") (Or.inl (hw _ (List.mem_of_getElem? (i := 33) rfl))) Via.refl e1 P1 P0 (Or.inr ⟨(hw _ (List.mem_of_getElem? (i := 34) rfl)), rfl, hnm⟩) (hw _ (List.mem_of_getElem? (i := 1) rfl)) (ty := (.object "java/lang/String")) (by decide) rfl rfl (g := (mkF m 6 #[.val (.ref ob), .val (.ref s1), .val (.ref s2)] [(.ref s1), (.ref ob)])) rfl rfl (hb hby d5_6)
  have N2 := Fr.snoc X2 N0 gob
  have F3 : Fld Z h2 ob "com/example/tattler/tattler/channel/WatchedResource" "id" "Ljava/lang/String;" (.ref s1) := P1.same W2
  refine Go.by st2 ?_
  show Go p e below _ (T2.setTop (mkF m 9 #[.val (.ref ob), .val (.ref s1), .val (.ref s2)] []))
  refine Go.by (fun t k => XS.aloadN X2.here hx rfl (hb hby d5_9) rfl rfl k) ?_
  show Go p e below _ (T2.setTop (mkF m 10 #[.val (.ref ob), .val (.ref s1), .val (.ref s2)] [(.ref ob)]))
  refine Go.by (fun t k => XS.aloadN X2.here hx rfl (hb hby d5_10) rfl rfl k) ?_
  show Go p e below _ (T2.setTop (mkF m 11 #[.val (.ref ob), .val (.ref s1), .val (.ref s2)] [(.ref s2), (.ref ob)]))
  have F4 : Fld Z h2 ob "com/example/tattler/tattler/channel/WatchedResource" "uri" "Ljava/lang/String;" .null := (P2.other W2 (Or.inr (slot_ne (Or.inr (hw _ (List.mem_of_getElem? (i := 36) rfl))) (Or.inr (hw _ (List.mem_of_getElem? (i := 34) rfl))) (by decide) (t := (.object "java/lang/String")) (t' := (.object "java/lang/String")) (by decide) (by decide))))
  have F5 : Exa Z h2 ob "com/example/tattler/tattler/channel/WatchedResource" := (P0.wr W2)
  obtain ⟨T6, h6, X6, e6, W6, st6⟩ := putF X2 hx hZ hown (host := "") (Or.inl (hw _ (List.mem_of_getElem? (i := 35) rfl))) Via.refl e2 F4 F5 (Or.inr ⟨(hw _ (List.mem_of_getElem? (i := 36) rfl)), rfl, hnm⟩) (hw _ (List.mem_of_getElem? (i := 1) rfl)) (ty := (.object "java/lang/String")) (by decide) rfl rfl (g := (mkF m 11 #[.val (.ref ob), .val (.ref s1), .val (.ref s2)] [(.ref s2), (.ref ob)])) rfl rfl (hb hby d5_11)
  have N6 := Fr.snoc X6 N2 gob
  have F7 : Fld Z h6 ob "com/example/tattler/tattler/channel/WatchedResource" "uri" "Ljava/lang/String;" (.ref s2) := F4.same W6
  refine Go.by st6 ?_
  show Go p e below _ (T6.setTop (mkF m 14 #[.val (.ref ob), .val (.ref s1), .val (.ref s2)] []))
  have F8 : Keep h0 h6 [ob] := (((Keep.refl h0 [ob]).wr W2 (Or.inl (List.mem_of_getElem? (i := 0) rfl))).wr W6 (Or.inl (List.mem_of_getElem? (i := 0) rfl)))
  have F9 : Exa Z h6 ob "com/example/tattler/tattler/channel/WatchedResource" := (F5.wr W6)
  have F10 : Fld Z h6 ob "com/example/tattler/tattler/channel/WatchedResource" "id" "Ljava/lang/String;" (.ref s1) := (F3.other W6 (Or.inr (slot_ne (Or.inr (hw _ (List.mem_of_getElem? (i := 34) rfl))) (Or.inr (hw _ (List.mem_of_getElem? (i := 36) rfl))) (by decide) (t := (.object "java/lang/String")) (t' := (.object "java/lang/String")) (by decide) (by decide))))
  have hq : Q_winit Z ob s1 s2 h0 n0 none h6 _ := ⟨rfl, N6, F8, F9, F10, F7⟩
  exact Go.ret0 X6 hx Bd.returns hlk (hb hby d5_14) (by decide) (by decide) (by rw [e6]; exact hq)
theorem d6_0 : decode method_3_code 0 = .ok (.iload_n 2, 1) := by decide +kernel
theorem d6_1 : decode method_3_code 1 = .ok (.iload 5, 2) := by decide +kernel
theorem d6_3 : decode method_3_code 3 = .ok (.if_icmp .ne 28, 3) := by decide +kernel
theorem d6_6 : decode method_3_code 6 = .ok (.iload_n 2, 1) := by decide +kernel
theorem d6_7 : decode method_3_code 7 = .ok (.iconst 1, 1) := by decide +kernel
theorem d6_8 : decode method_3_code 8 = .ok (.if_icmp .lt 8, 3) := by decide +kernel
theorem d6_16 : decode method_3_code 16 = .ok (.iload_n 2, 1) := by decide +kernel
theorem d6_17 : decode method_3_code 17 = .ok (.iconst 2, 1) := by decide +kernel
theorem d6_18 : decode method_3_code 18 = .ok (.if_icmp .lt 9, 3) := by decide +kernel
theorem d6_27 : decode method_3_code 27 = .ok (.iconst 1, 1) := by decide +kernel
theorem d6_28 : decode method_3_code 28 = .ok (.goto 4, 3) := by decide +kernel
theorem d6_32 : decode method_3_code 32 = .ok (.ireturn, 1) := by decide +kernel
theorem d6_21 : decode method_3_code 21 = .ok (.iload_n 1, 1) := by decide +kernel
theorem d6_22 : decode method_3_code 22 = .ok (.iload 4, 2) := by decide +kernel
theorem d6_24 : decode method_3_code 24 = .ok (.if_icmp .ne 7, 3) := by decide +kernel
theorem d6_31 : decode method_3_code 31 = .ok (.iconst 0, 1) := by decide +kernel
theorem d6_11 : decode method_3_code 11 = .ok (.iload_n 0, 1) := by decide +kernel
theorem d6_12 : decode method_3_code 12 = .ok (.iload_n 3, 1) := by decide +kernel
theorem d6_13 : decode method_3_code 13 = .ok (.if_icmp .ne 18, 3) := by decide +kernel
theorem ef_same (m : MethodId) (c0_ : Int32) (c1_ : Int32) (l_ : Int32) (d0_ : Int32) (d1_ : Int32) (m_ : Int32) : entryFrame m #[(.int c0_), (.int c1_), (.int l_), (.int d0_), (.int d1_), (.int m_)] 6 = mkF m 0 #[.val (.int c0_), .val (.int c1_), .val (.int l_), .val (.int d0_), .val (.int d1_), .val (.int m_)] [] := by first | (simp [entryFrame, mkF, argsToLocals, Value.category]; done) | rfl
def Q_same (Z : State) (c0_ : Int32) (c1_ : Int32) (l_ : Int32) (d0_ : Int32) (d1_ : Int32) (m_ : Int32) (h0 : Heap) (n0 : Nat) (v : Option Value) (h : Heap) (L : List Loc) : Prop := v = some (.int (own_same c0_ c1_ l_ d0_ d1_ m_)) ∧ Fr n0 L ∧ h = h0
set_option maxRecDepth 65536 in
set_option maxHeartbeats 40000000 in
theorem same (l : Launch) (Z : State) (a0 : Array Value) (hw : ∀ d ∈ tables_1, d.before a0 Z = true) (ws : List Jvm.Cond) (c0_ : Int32) (c1_ : Int32) (l_ : Int32) (d0_ : Int32) (d1_ : Int32) (m_ : Int32) (h0 : Heap) (n0 : Nat) (O0 : Old Z n0 h0) :
    MetFree l (⟨"com/example/tattler/tattler/channel/WatchedResourceEqualsPinLaw", "same", "(CCICCI)Z"⟩ : MethodName) (head1 (Jvm.Cond.code (⟨"com/example/tattler/tattler/channel/WatchedResourceEqualsPinLaw", "same", "(CCICCI)Z"⟩ : MethodName) method_3_code 6 (some .boolean) :: ws) ({ frames := 0, cells := 0, slots := 0, locals := 0 } : Room)) (fun a U => a = #[(.int c0_), (.int c1_), (.int l_), (.int d0_), (.int d1_), (.int m_)] ∧ Z.Warmed39 U.vm ∧ U.heap = h0) (fun _ _ _ _ _ => True) (fun _ U o U' => ∃ v L, o = .returned v ∧ Q_same Z c0_ c1_ l_ d0_ d1_ m_ h0 n0 v U'.heap L ∧ FrameEnd U o U' L ({ frames := 0, cells := 0, slots := 0, locals := 0 } : Room).cells ({ frames := 0, cells := 0, slots := 0, locals := 0 } : Room).slots) := by
  refine MetFree.of_bodySF (plainFor_of_name pn_3) hisR ?_
  intro p e s m args below meth c s₁ Bd hml0 hP hK
  obtain ⟨rfl, hZ, hh⟩ := hP
  have hx := Bd.exec
  have hby := Bd.bytes
  have hml : c.maxLocals = 6 := hml0
  have hown : s.vm.findClass "com/example/tattler/tattler/channel/WatchedResourceEqualsPinLaw" = some m.cls := findClass_of_methodNamed Bd.named
  have hnm := (name_of_methodNamed Bd.named Bd.method).1
  have hlk := BodyLoose.notSynchronized Bd
  have X0 : Stand p l e ({ frames := 0, cells := 0, slots := 0, locals := 0 } : Room) s m #[(.int c0_), (.int c1_), (.int l_), (.int d0_), (.int d1_), (.int m_)] below meth c s₁ [] 0 0 := Stand.of_body Bd
  have e0 : s₁.heap = h0 := by rw [← hh, Bd.state]; rfl
  have N0 := Fr.nil n0
  refine Go.start (P := fun o U' => ∃ v L, o = .returned v ∧ Q_same Z c0_ c1_ l_ d0_ d1_ m_ h0 n0 v U'.heap L ∧ FrameEnd s o U' L ({ frames := 0, cells := 0, slots := 0, locals := 0 } : Room).cells ({ frames := 0, cells := 0, slots := 0, locals := 0 } : Room).slots) (ef_same m c0_ c1_ l_ d0_ d1_ m_) ?_
  show Go p e below _ (s₁.setTop (mkF m 0 #[.val (.int c0_), .val (.int c1_), .val (.int l_), .val (.int d0_), .val (.int d1_), .val (.int m_)] []))
  refine Go.by (fun t k => XS.iloadN X0.here hx rfl (hb hby d6_0) rfl k) ?_
  show Go p e below _ (s₁.setTop (mkF m 1 #[.val (.int c0_), .val (.int c1_), .val (.int l_), .val (.int d0_), .val (.int d1_), .val (.int m_)] [(.int l_)]))
  refine Go.by (fun t k => XS.iload X0.here hx rfl (hb hby d6_1) rfl k) ?_
  show Go p e below _ (s₁.setTop (mkF m 3 #[.val (.int c0_), .val (.int c1_), .val (.int l_), .val (.int d0_), .val (.int d1_), .val (.int m_)] [(.int m_), (.int l_)]))
  by_cases hc1 : l_ = m_
  · skip
    refine Go.by (fun t k => XS.icmpNo X0.here hx rfl (hb hby d6_3) rfl (teq hc1).2 k) ?_
    show Go p e below _ (s₁.setTop (mkF m 6 #[.val (.int c0_), .val (.int c1_), .val (.int l_), .val (.int d0_), .val (.int d1_), .val (.int m_)] []))
    refine Go.by (fun t k => XS.iloadN X0.here hx rfl (hb hby d6_6) rfl k) ?_
    show Go p e below _ (s₁.setTop (mkF m 7 #[.val (.int c0_), .val (.int c1_), .val (.int l_), .val (.int d0_), .val (.int d1_), .val (.int m_)] [(.int l_)]))
    refine Go.by (fun t k => XS.iconst X0.here hx rfl (hb hby d6_7) k) ?_
    show Go p e below _ (s₁.setTop (mkF m 8 #[.val (.int c0_), .val (.int c1_), .val (.int l_), .val (.int d0_), .val (.int d1_), .val (.int m_)] [(.int (1 : Int32)), (.int l_)]))
    by_cases hc2 : l_ < (1 : Int32)
    · skip
      refine Go.by (fun t k => XS.icmpYes X0.here hx rfl (pc0 := 8) (pc' := 16) rfl (hb hby d6_8) rfl (tlt hc2).1 (by decide) (by decide) k) ?_
      show Go p e below _ (s₁.setTop (mkF m 16 #[.val (.int c0_), .val (.int c1_), .val (.int l_), .val (.int d0_), .val (.int d1_), .val (.int m_)] []))
      refine Go.by (fun t k => XS.iloadN X0.here hx rfl (hb hby d6_16) rfl k) ?_
      show Go p e below _ (s₁.setTop (mkF m 17 #[.val (.int c0_), .val (.int c1_), .val (.int l_), .val (.int d0_), .val (.int d1_), .val (.int m_)] [(.int l_)]))
      refine Go.by (fun t k => XS.iconst X0.here hx rfl (hb hby d6_17) k) ?_
      show Go p e below _ (s₁.setTop (mkF m 18 #[.val (.int c0_), .val (.int c1_), .val (.int l_), .val (.int d0_), .val (.int d1_), .val (.int m_)] [(.int (2 : Int32)), (.int l_)]))
      by_cases hc3 : l_ < (2 : Int32)
      · skip
        refine Go.by (fun t k => XS.icmpYes X0.here hx rfl (pc0 := 18) (pc' := 27) rfl (hb hby d6_18) rfl (tlt hc3).1 (by decide) (by decide) k) ?_
        show Go p e below _ (s₁.setTop (mkF m 27 #[.val (.int c0_), .val (.int c1_), .val (.int l_), .val (.int d0_), .val (.int d1_), .val (.int m_)] []))
        refine Go.by (fun t k => XS.iconst X0.here hx rfl (hb hby d6_27) k) ?_
        show Go p e below _ (s₁.setTop (mkF m 28 #[.val (.int c0_), .val (.int c1_), .val (.int l_), .val (.int d0_), .val (.int d1_), .val (.int m_)] [(.int (1 : Int32))]))
        refine Go.by (fun t k => XS.goto X0.here hx rfl (pc0 := 28) (pc' := 32) rfl (hb hby d6_28) (by decide) (by decide) k) ?_
        show Go p e below _ (s₁.setTop (mkF m 32 #[.val (.int c0_), .val (.int c1_), .val (.int l_), .val (.int d0_), .val (.int d1_), .val (.int m_)] [(.int (1 : Int32))]))
        have hq : Q_same Z c0_ c1_ l_ d0_ d1_ m_ h0 n0 (some (.int (nar .boolean (1 : Int32)))) h0 _ := ⟨(show some (Value.int (1 : Int32)) = some (Value.int (own_same c0_ c1_ l_ d0_ d1_ m_)) from by simp only [own_same, if_pos hc1, if_pos hc2, if_pos hc3]), N0, rfl⟩
        exact Go.retN X0 hx (t := .boolean) Bd.returns (by simp) hlk (hb hby d6_32) (by decide) (by decide) (by rw [e0]; exact hq)
      · skip
        refine Go.by (fun t k => XS.icmpNo X0.here hx rfl (hb hby d6_18) rfl (flt hc3).1 k) ?_
        show Go p e below _ (s₁.setTop (mkF m 21 #[.val (.int c0_), .val (.int c1_), .val (.int l_), .val (.int d0_), .val (.int d1_), .val (.int m_)] []))
        refine Go.by (fun t k => XS.iloadN X0.here hx rfl (hb hby d6_21) rfl k) ?_
        show Go p e below _ (s₁.setTop (mkF m 22 #[.val (.int c0_), .val (.int c1_), .val (.int l_), .val (.int d0_), .val (.int d1_), .val (.int m_)] [(.int c1_)]))
        refine Go.by (fun t k => XS.iload X0.here hx rfl (hb hby d6_22) rfl k) ?_
        show Go p e below _ (s₁.setTop (mkF m 24 #[.val (.int c0_), .val (.int c1_), .val (.int l_), .val (.int d0_), .val (.int d1_), .val (.int m_)] [(.int d1_), (.int c1_)]))
        by_cases hc4 : c1_ = d1_
        · skip
          refine Go.by (fun t k => XS.icmpNo X0.here hx rfl (hb hby d6_24) rfl (teq hc4).2 k) ?_
          show Go p e below _ (s₁.setTop (mkF m 27 #[.val (.int c0_), .val (.int c1_), .val (.int l_), .val (.int d0_), .val (.int d1_), .val (.int m_)] []))
          refine Go.by (fun t k => XS.iconst X0.here hx rfl (hb hby d6_27) k) ?_
          show Go p e below _ (s₁.setTop (mkF m 28 #[.val (.int c0_), .val (.int c1_), .val (.int l_), .val (.int d0_), .val (.int d1_), .val (.int m_)] [(.int (1 : Int32))]))
          refine Go.by (fun t k => XS.goto X0.here hx rfl (pc0 := 28) (pc' := 32) rfl (hb hby d6_28) (by decide) (by decide) k) ?_
          show Go p e below _ (s₁.setTop (mkF m 32 #[.val (.int c0_), .val (.int c1_), .val (.int l_), .val (.int d0_), .val (.int d1_), .val (.int m_)] [(.int (1 : Int32))]))
          have hq : Q_same Z c0_ c1_ l_ d0_ d1_ m_ h0 n0 (some (.int (nar .boolean (1 : Int32)))) h0 _ := ⟨(show some (Value.int (1 : Int32)) = some (Value.int (own_same c0_ c1_ l_ d0_ d1_ m_)) from by simp only [own_same, if_pos hc1, if_pos hc2, if_neg hc3, if_pos hc4]), N0, rfl⟩
          exact Go.retN X0 hx (t := .boolean) Bd.returns (by simp) hlk (hb hby d6_32) (by decide) (by decide) (by rw [e0]; exact hq)
        · skip
          refine Go.by (fun t k => XS.icmpYes X0.here hx rfl (pc0 := 24) (pc' := 31) rfl (hb hby d6_24) rfl (feq hc4).2 (by decide) (by decide) k) ?_
          show Go p e below _ (s₁.setTop (mkF m 31 #[.val (.int c0_), .val (.int c1_), .val (.int l_), .val (.int d0_), .val (.int d1_), .val (.int m_)] []))
          refine Go.by (fun t k => XS.iconst X0.here hx rfl (hb hby d6_31) k) ?_
          show Go p e below _ (s₁.setTop (mkF m 32 #[.val (.int c0_), .val (.int c1_), .val (.int l_), .val (.int d0_), .val (.int d1_), .val (.int m_)] [(.int (0 : Int32))]))
          have hq : Q_same Z c0_ c1_ l_ d0_ d1_ m_ h0 n0 (some (.int (nar .boolean (0 : Int32)))) h0 _ := ⟨(show some (Value.int (0 : Int32)) = some (Value.int (own_same c0_ c1_ l_ d0_ d1_ m_)) from by simp only [own_same, if_pos hc1, if_pos hc2, if_neg hc3, if_neg hc4]), N0, rfl⟩
          exact Go.retN X0 hx (t := .boolean) Bd.returns (by simp) hlk (hb hby d6_32) (by decide) (by decide) (by rw [e0]; exact hq)
    · skip
      refine Go.by (fun t k => XS.icmpNo X0.here hx rfl (hb hby d6_8) rfl (flt hc2).1 k) ?_
      show Go p e below _ (s₁.setTop (mkF m 11 #[.val (.int c0_), .val (.int c1_), .val (.int l_), .val (.int d0_), .val (.int d1_), .val (.int m_)] []))
      refine Go.by (fun t k => XS.iloadN X0.here hx rfl (hb hby d6_11) rfl k) ?_
      show Go p e below _ (s₁.setTop (mkF m 12 #[.val (.int c0_), .val (.int c1_), .val (.int l_), .val (.int d0_), .val (.int d1_), .val (.int m_)] [(.int c0_)]))
      refine Go.by (fun t k => XS.iloadN X0.here hx rfl (hb hby d6_12) rfl k) ?_
      show Go p e below _ (s₁.setTop (mkF m 13 #[.val (.int c0_), .val (.int c1_), .val (.int l_), .val (.int d0_), .val (.int d1_), .val (.int m_)] [(.int d0_), (.int c0_)]))
      by_cases hc5 : c0_ = d0_
      · skip
        refine Go.by (fun t k => XS.icmpNo X0.here hx rfl (hb hby d6_13) rfl (teq hc5).2 k) ?_
        show Go p e below _ (s₁.setTop (mkF m 16 #[.val (.int c0_), .val (.int c1_), .val (.int l_), .val (.int d0_), .val (.int d1_), .val (.int m_)] []))
        refine Go.by (fun t k => XS.iloadN X0.here hx rfl (hb hby d6_16) rfl k) ?_
        show Go p e below _ (s₁.setTop (mkF m 17 #[.val (.int c0_), .val (.int c1_), .val (.int l_), .val (.int d0_), .val (.int d1_), .val (.int m_)] [(.int l_)]))
        refine Go.by (fun t k => XS.iconst X0.here hx rfl (hb hby d6_17) k) ?_
        show Go p e below _ (s₁.setTop (mkF m 18 #[.val (.int c0_), .val (.int c1_), .val (.int l_), .val (.int d0_), .val (.int d1_), .val (.int m_)] [(.int (2 : Int32)), (.int l_)]))
        by_cases hc6 : l_ < (2 : Int32)
        · skip
          refine Go.by (fun t k => XS.icmpYes X0.here hx rfl (pc0 := 18) (pc' := 27) rfl (hb hby d6_18) rfl (tlt hc6).1 (by decide) (by decide) k) ?_
          show Go p e below _ (s₁.setTop (mkF m 27 #[.val (.int c0_), .val (.int c1_), .val (.int l_), .val (.int d0_), .val (.int d1_), .val (.int m_)] []))
          refine Go.by (fun t k => XS.iconst X0.here hx rfl (hb hby d6_27) k) ?_
          show Go p e below _ (s₁.setTop (mkF m 28 #[.val (.int c0_), .val (.int c1_), .val (.int l_), .val (.int d0_), .val (.int d1_), .val (.int m_)] [(.int (1 : Int32))]))
          refine Go.by (fun t k => XS.goto X0.here hx rfl (pc0 := 28) (pc' := 32) rfl (hb hby d6_28) (by decide) (by decide) k) ?_
          show Go p e below _ (s₁.setTop (mkF m 32 #[.val (.int c0_), .val (.int c1_), .val (.int l_), .val (.int d0_), .val (.int d1_), .val (.int m_)] [(.int (1 : Int32))]))
          have hq : Q_same Z c0_ c1_ l_ d0_ d1_ m_ h0 n0 (some (.int (nar .boolean (1 : Int32)))) h0 _ := ⟨(show some (Value.int (1 : Int32)) = some (Value.int (own_same c0_ c1_ l_ d0_ d1_ m_)) from by simp only [own_same, if_pos hc1, if_neg hc2, if_pos hc5, if_pos hc6]), N0, rfl⟩
          exact Go.retN X0 hx (t := .boolean) Bd.returns (by simp) hlk (hb hby d6_32) (by decide) (by decide) (by rw [e0]; exact hq)
        · skip
          refine Go.by (fun t k => XS.icmpNo X0.here hx rfl (hb hby d6_18) rfl (flt hc6).1 k) ?_
          show Go p e below _ (s₁.setTop (mkF m 21 #[.val (.int c0_), .val (.int c1_), .val (.int l_), .val (.int d0_), .val (.int d1_), .val (.int m_)] []))
          refine Go.by (fun t k => XS.iloadN X0.here hx rfl (hb hby d6_21) rfl k) ?_
          show Go p e below _ (s₁.setTop (mkF m 22 #[.val (.int c0_), .val (.int c1_), .val (.int l_), .val (.int d0_), .val (.int d1_), .val (.int m_)] [(.int c1_)]))
          refine Go.by (fun t k => XS.iload X0.here hx rfl (hb hby d6_22) rfl k) ?_
          show Go p e below _ (s₁.setTop (mkF m 24 #[.val (.int c0_), .val (.int c1_), .val (.int l_), .val (.int d0_), .val (.int d1_), .val (.int m_)] [(.int d1_), (.int c1_)]))
          by_cases hc7 : c1_ = d1_
          · skip
            refine Go.by (fun t k => XS.icmpNo X0.here hx rfl (hb hby d6_24) rfl (teq hc7).2 k) ?_
            show Go p e below _ (s₁.setTop (mkF m 27 #[.val (.int c0_), .val (.int c1_), .val (.int l_), .val (.int d0_), .val (.int d1_), .val (.int m_)] []))
            refine Go.by (fun t k => XS.iconst X0.here hx rfl (hb hby d6_27) k) ?_
            show Go p e below _ (s₁.setTop (mkF m 28 #[.val (.int c0_), .val (.int c1_), .val (.int l_), .val (.int d0_), .val (.int d1_), .val (.int m_)] [(.int (1 : Int32))]))
            refine Go.by (fun t k => XS.goto X0.here hx rfl (pc0 := 28) (pc' := 32) rfl (hb hby d6_28) (by decide) (by decide) k) ?_
            show Go p e below _ (s₁.setTop (mkF m 32 #[.val (.int c0_), .val (.int c1_), .val (.int l_), .val (.int d0_), .val (.int d1_), .val (.int m_)] [(.int (1 : Int32))]))
            have hq : Q_same Z c0_ c1_ l_ d0_ d1_ m_ h0 n0 (some (.int (nar .boolean (1 : Int32)))) h0 _ := ⟨(show some (Value.int (1 : Int32)) = some (Value.int (own_same c0_ c1_ l_ d0_ d1_ m_)) from by simp only [own_same, if_pos hc1, if_neg hc2, if_pos hc5, if_neg hc6, if_pos hc7]), N0, rfl⟩
            exact Go.retN X0 hx (t := .boolean) Bd.returns (by simp) hlk (hb hby d6_32) (by decide) (by decide) (by rw [e0]; exact hq)
          · skip
            refine Go.by (fun t k => XS.icmpYes X0.here hx rfl (pc0 := 24) (pc' := 31) rfl (hb hby d6_24) rfl (feq hc7).2 (by decide) (by decide) k) ?_
            show Go p e below _ (s₁.setTop (mkF m 31 #[.val (.int c0_), .val (.int c1_), .val (.int l_), .val (.int d0_), .val (.int d1_), .val (.int m_)] []))
            refine Go.by (fun t k => XS.iconst X0.here hx rfl (hb hby d6_31) k) ?_
            show Go p e below _ (s₁.setTop (mkF m 32 #[.val (.int c0_), .val (.int c1_), .val (.int l_), .val (.int d0_), .val (.int d1_), .val (.int m_)] [(.int (0 : Int32))]))
            have hq : Q_same Z c0_ c1_ l_ d0_ d1_ m_ h0 n0 (some (.int (nar .boolean (0 : Int32)))) h0 _ := ⟨(show some (Value.int (0 : Int32)) = some (Value.int (own_same c0_ c1_ l_ d0_ d1_ m_)) from by simp only [own_same, if_pos hc1, if_neg hc2, if_pos hc5, if_neg hc6, if_neg hc7]), N0, rfl⟩
            exact Go.retN X0 hx (t := .boolean) Bd.returns (by simp) hlk (hb hby d6_32) (by decide) (by decide) (by rw [e0]; exact hq)
      · skip
        refine Go.by (fun t k => XS.icmpYes X0.here hx rfl (pc0 := 13) (pc' := 31) rfl (hb hby d6_13) rfl (feq hc5).2 (by decide) (by decide) k) ?_
        show Go p e below _ (s₁.setTop (mkF m 31 #[.val (.int c0_), .val (.int c1_), .val (.int l_), .val (.int d0_), .val (.int d1_), .val (.int m_)] []))
        refine Go.by (fun t k => XS.iconst X0.here hx rfl (hb hby d6_31) k) ?_
        show Go p e below _ (s₁.setTop (mkF m 32 #[.val (.int c0_), .val (.int c1_), .val (.int l_), .val (.int d0_), .val (.int d1_), .val (.int m_)] [(.int (0 : Int32))]))
        have hq : Q_same Z c0_ c1_ l_ d0_ d1_ m_ h0 n0 (some (.int (nar .boolean (0 : Int32)))) h0 _ := ⟨(show some (Value.int (0 : Int32)) = some (Value.int (own_same c0_ c1_ l_ d0_ d1_ m_)) from by simp only [own_same, if_pos hc1, if_neg hc2, if_neg hc5]), N0, rfl⟩
        exact Go.retN X0 hx (t := .boolean) Bd.returns (by simp) hlk (hb hby d6_32) (by decide) (by decide) (by rw [e0]; exact hq)
  · skip
    refine Go.by (fun t k => XS.icmpYes X0.here hx rfl (pc0 := 3) (pc' := 31) rfl (hb hby d6_3) rfl (feq hc1).2 (by decide) (by decide) k) ?_
    show Go p e below _ (s₁.setTop (mkF m 31 #[.val (.int c0_), .val (.int c1_), .val (.int l_), .val (.int d0_), .val (.int d1_), .val (.int m_)] []))
    refine Go.by (fun t k => XS.iconst X0.here hx rfl (hb hby d6_31) k) ?_
    show Go p e below _ (s₁.setTop (mkF m 32 #[.val (.int c0_), .val (.int c1_), .val (.int l_), .val (.int d0_), .val (.int d1_), .val (.int m_)] [(.int (0 : Int32))]))
    have hq : Q_same Z c0_ c1_ l_ d0_ d1_ m_ h0 n0 (some (.int (nar .boolean (0 : Int32)))) h0 _ := ⟨(show some (Value.int (0 : Int32)) = some (Value.int (own_same c0_ c1_ l_ d0_ d1_ m_)) from by simp only [own_same, if_neg hc1]), N0, rfl⟩
    exact Go.retN X0 hx (t := .boolean) Bd.returns (by simp) hlk (hb hby d6_32) (by decide) (by decide) (by rw [e0]; exact hq)
theorem d7_0 : decode prog_8_method_5_code 0 = .ok (.aload_n 1, 1) := by decide +kernel
theorem d7_1 : decode prog_8_method_5_code 1 = .ok (.instanceof 7, 3) := by decide +kernel
theorem d7_4 : decode prog_8_method_5_code 4 = .ok (.ifCond .eq 40, 3) := by decide +kernel
theorem d7_44 : decode prog_8_method_5_code 44 = .ok (.iconst 0, 1) := by decide +kernel
theorem d7_45 : decode prog_8_method_5_code 45 = .ok (.ireturn, 1) := by decide +kernel
theorem ef_weq_null (m : MethodId) (ob : Addr) : entryFrame m #[(.ref ob), .null] 3 = mkF m 0 #[.val (.ref ob), .val .null, .unset] [] := by first | (simp [entryFrame, mkF, argsToLocals, Value.category]; done) | rfl
def Q_weq_null (Z : State) (ob : Addr) (h0 : Heap) (n0 : Nat) (v : Option Value) (h : Heap) (L : List Loc) : Prop := v = some (.int (0 : Int32)) ∧ Fr n0 L ∧ h = h0
set_option maxRecDepth 65536 in
set_option maxHeartbeats 40000000 in
theorem weq_null (l : Launch) (Z : State) (a0 : Array Value) (hw : ∀ d ∈ tables_1, d.before a0 Z = true) (ws : List Jvm.Cond) (ob : Addr) (h0 : Heap) (n0 : Nat) (O0 : Old Z n0 h0) :
    MetFree l (⟨"com/example/tattler/tattler/channel/WatchedResource", "equals", "(Ljava/lang/Object;)Z"⟩ : MethodName) (head1 (Jvm.Cond.code (⟨"com/example/tattler/tattler/channel/WatchedResource", "equals", "(Ljava/lang/Object;)Z"⟩ : MethodName) prog_8_method_5_code 3 (some .boolean) :: ws) ({ frames := 0, cells := 0, slots := 0, locals := 0 } : Room)) (fun a U => a = #[(.ref ob), .null] ∧ Z.Warmed39 U.vm ∧ U.heap = h0) (fun _ _ _ _ _ => True) (fun _ U o U' => ∃ v L, o = .returned v ∧ Q_weq_null Z ob h0 n0 v U'.heap L ∧ FrameEnd U o U' L ({ frames := 0, cells := 0, slots := 0, locals := 0 } : Room).cells ({ frames := 0, cells := 0, slots := 0, locals := 0 } : Room).slots) := by
  refine MetFree.of_bodySF (plainFor_of_name pn_4) hisR ?_
  intro p e s m args below meth c s₁ Bd hml0 hP hK
  obtain ⟨rfl, hZ, hh⟩ := hP
  have hx := Bd.exec
  have hby := Bd.bytes
  have hml : c.maxLocals = 3 := hml0
  have hown : s.vm.findClass "com/example/tattler/tattler/channel/WatchedResource" = some m.cls := findClass_of_methodNamed Bd.named
  have hnm := (name_of_methodNamed Bd.named Bd.method).1
  have hlk := BodyLoose.notSynchronized Bd
  have X0 : Stand p l e ({ frames := 0, cells := 0, slots := 0, locals := 0 } : Room) s m #[(.ref ob), .null] below meth c s₁ [] 0 0 := Stand.of_body Bd
  have e0 : s₁.heap = h0 := by rw [← hh, Bd.state]; rfl
  have N0 := Fr.nil n0
  refine Go.start (P := fun o U' => ∃ v L, o = .returned v ∧ Q_weq_null Z ob h0 n0 v U'.heap L ∧ FrameEnd s o U' L ({ frames := 0, cells := 0, slots := 0, locals := 0 } : Room).cells ({ frames := 0, cells := 0, slots := 0, locals := 0 } : Room).slots) (ef_weq_null m ob) ?_
  show Go p e below _ (s₁.setTop (mkF m 0 #[.val (.ref ob), .val .null, .unset] []))
  refine Go.by (fun t k => XS.aloadN X0.here hx rfl (hb hby d7_0) rfl rfl k) ?_
  show Go p e below _ (s₁.setTop (mkF m 1 #[.val (.ref ob), .val .null, .unset] [.null]))
  refine Go.by (fun t k => X0.instanceofNull hx (g := (mkF m 1 #[.val (.ref ob), .val .null, .unset] [.null])) rfl rfl (hb hby d7_1) t k) ?_
  show Go p e below _ (s₁.setTop (mkF m 4 #[.val (.ref ob), .val .null, .unset] [(.int (0 : Int32))]))
  refine Go.by (fun t k => XS.ifYes X0.here hx rfl (pc0 := 4) (pc' := 44) rfl (hb hby d7_4) rfl ((if0 _ _).trans (teq rfl).1) (by decide) (by decide) k) ?_
  show Go p e below _ (s₁.setTop (mkF m 44 #[.val (.ref ob), .val .null, .unset] []))
  refine Go.by (fun t k => XS.iconst X0.here hx rfl (hb hby d7_44) k) ?_
  show Go p e below _ (s₁.setTop (mkF m 45 #[.val (.ref ob), .val .null, .unset] [(.int (0 : Int32))]))
  have hq : Q_weq_null Z ob h0 n0 (some (.int (nar .boolean (0 : Int32)))) h0 _ := ⟨rfl, N0, rfl⟩
  exact Go.retN X0 hx (t := .boolean) Bd.returns (by simp) hlk (hb hby d7_45) (by decide) (by decide) (by rw [e0]; exact hq)
theorem ef_weq_str (m : MethodId) (ob : Addr) (oo : Addr) : entryFrame m #[(.ref ob), (.ref oo)] 3 = mkF m 0 #[.val (.ref ob), .val (.ref oo), .unset] [] := by first | (simp [entryFrame, mkF, argsToLocals, Value.category]; done) | rfl
def Q_weq_str (Z : State) (ob : Addr) (oo : Addr) (h0 : Heap) (n0 : Nat) (v : Option Value) (h : Heap) (L : List Loc) : Prop := v = some (.int (0 : Int32)) ∧ Fr n0 L ∧ h = h0
set_option maxRecDepth 65536 in
set_option maxHeartbeats 40000000 in
theorem weq_str (l : Launch) (Z : State) (a0 : Array Value) (hw : ∀ d ∈ tables_1, d.before a0 Z = true) (ws : List Jvm.Cond) (ob : Addr) (oo : Addr) (h0 : Heap) (n0 : Nat) (O0 : Old Z n0 h0) (P0 : Exa Z h0 oo "java/lang/String") :
    MetFree l (⟨"com/example/tattler/tattler/channel/WatchedResource", "equals", "(Ljava/lang/Object;)Z"⟩ : MethodName) (head1 (Jvm.Cond.code (⟨"com/example/tattler/tattler/channel/WatchedResource", "equals", "(Ljava/lang/Object;)Z"⟩ : MethodName) prog_8_method_5_code 3 (some .boolean) :: ws) ({ frames := 0, cells := 0, slots := 0, locals := 0 } : Room)) (fun a U => a = #[(.ref ob), (.ref oo)] ∧ Z.Warmed39 U.vm ∧ U.heap = h0) (fun _ _ _ _ _ => True) (fun _ U o U' => ∃ v L, o = .returned v ∧ Q_weq_str Z ob oo h0 n0 v U'.heap L ∧ FrameEnd U o U' L ({ frames := 0, cells := 0, slots := 0, locals := 0 } : Room).cells ({ frames := 0, cells := 0, slots := 0, locals := 0 } : Room).slots) := by
  refine MetFree.of_bodySF (plainFor_of_name pn_4) hisR ?_
  intro p e s m args below meth c s₁ Bd hml0 hP hK
  obtain ⟨rfl, hZ, hh⟩ := hP
  have hx := Bd.exec
  have hby := Bd.bytes
  have hml : c.maxLocals = 3 := hml0
  have hown : s.vm.findClass "com/example/tattler/tattler/channel/WatchedResource" = some m.cls := findClass_of_methodNamed Bd.named
  have hnm := (name_of_methodNamed Bd.named Bd.method).1
  have hlk := BodyLoose.notSynchronized Bd
  have X0 : Stand p l e ({ frames := 0, cells := 0, slots := 0, locals := 0 } : Room) s m #[(.ref ob), (.ref oo)] below meth c s₁ [] 0 0 := Stand.of_body Bd
  have e0 : s₁.heap = h0 := by rw [← hh, Bd.state]; rfl
  have N0 := Fr.nil n0
  refine Go.start (P := fun o U' => ∃ v L, o = .returned v ∧ Q_weq_str Z ob oo h0 n0 v U'.heap L ∧ FrameEnd s o U' L ({ frames := 0, cells := 0, slots := 0, locals := 0 } : Room).cells ({ frames := 0, cells := 0, slots := 0, locals := 0 } : Room).slots) (ef_weq_str m ob oo) ?_
  show Go p e below _ (s₁.setTop (mkF m 0 #[.val (.ref ob), .val (.ref oo), .unset] []))
  refine Go.by (fun t k => XS.aloadN X0.here hx rfl (hb hby d7_0) rfl rfl k) ?_
  show Go p e below _ (s₁.setTop (mkF m 1 #[.val (.ref ob), .val (.ref oo), .unset] [(.ref oo)]))
  obtain ⟨T1, X1, e1, st1⟩ := instNo X0 hx hZ hown (hw _ (List.mem_of_getElem? (i := 45) rfl)) e0 P0 (own_NSno (hw _ (List.mem_of_getElem? (i := 80) rfl)) (hw _ (List.mem_of_getElem? (i := 1) rfl)) (NS.step (hw _ (List.mem_of_getElem? (i := 80) rfl)) (own_NSroot (hw _ (List.mem_of_getElem? (i := 81) rfl)) (hw _ (List.mem_of_getElem? (i := 1) rfl)) (by decide)) (by decide)) (by decide)) (g := (mkF m 1 #[.val (.ref ob), .val (.ref oo), .unset] [(.ref oo)])) rfl rfl (hb hby d7_1)
  refine Go.by st1 ?_
  show Go p e below _ (T1.setTop (mkF m 4 #[.val (.ref ob), .val (.ref oo), .unset] [(.int (0 : Int32))]))
  refine Go.by (fun t k => XS.ifYes X1.here hx rfl (pc0 := 4) (pc' := 44) rfl (hb hby d7_4) rfl ((if0 _ _).trans (teq rfl).1) (by decide) (by decide) k) ?_
  show Go p e below _ (T1.setTop (mkF m 44 #[.val (.ref ob), .val (.ref oo), .unset] []))
  refine Go.by (fun t k => XS.iconst X1.here hx rfl (hb hby d7_44) k) ?_
  show Go p e below _ (T1.setTop (mkF m 45 #[.val (.ref ob), .val (.ref oo), .unset] [(.int (0 : Int32))]))
  have hq : Q_weq_str Z ob oo h0 n0 (some (.int (nar .boolean (0 : Int32)))) h0 _ := ⟨rfl, N0, rfl⟩
  exact Go.retN X1 hx (t := .boolean) Bd.returns (by simp) hlk (hb hby d7_45) (by decide) (by decide) (by rw [e1]; exact hq)
theorem d7_7 : decode prog_8_method_5_code 7 = .ok (.aload_n 1, 1) := by decide +kernel
theorem d7_8 : decode prog_8_method_5_code 8 = .ok (.checkcast 7, 3) := by decide +kernel
theorem d7_11 : decode prog_8_method_5_code 11 = .ok (.astore_n 2, 1) := by decide +kernel
theorem d7_12 : decode prog_8_method_5_code 12 = .ok (.aload_n 0, 1) := by decide +kernel
theorem d7_13 : decode prog_8_method_5_code 13 = .ok (.getfield 61, 3) := by decide +kernel
theorem d7_16 : decode prog_8_method_5_code 16 = .ok (.aload_n 2, 1) := by decide +kernel
theorem d7_17 : decode prog_8_method_5_code 17 = .ok (.getfield 61, 3) := by decide +kernel
theorem d7_20 : decode prog_8_method_5_code 20 = .ok (.invokevirtual 64, 3) := by decide +kernel
theorem pd_10 : parseMethodDescriptor "(Ljava/lang/Object;)Z" = some ⟨[(.object "java/lang/Object")], some .boolean⟩ := by decide +kernel
theorem d7_23 : decode prog_8_method_5_code 23 = .ok (.ifCond .eq 21, 3) := by decide +kernel
theorem d7_26 : decode prog_8_method_5_code 26 = .ok (.aload_n 0, 1) := by decide +kernel
theorem d7_27 : decode prog_8_method_5_code 27 = .ok (.getfield 49, 3) := by decide +kernel
theorem d7_30 : decode prog_8_method_5_code 30 = .ok (.aload_n 2, 1) := by decide +kernel
theorem d7_31 : decode prog_8_method_5_code 31 = .ok (.getfield 49, 3) := by decide +kernel
theorem d7_34 : decode prog_8_method_5_code 34 = .ok (.invokevirtual 64, 3) := by decide +kernel
theorem d7_37 : decode prog_8_method_5_code 37 = .ok (.ifCond .eq 7, 3) := by decide +kernel
theorem d7_40 : decode prog_8_method_5_code 40 = .ok (.iconst 1, 1) := by decide +kernel
theorem d7_41 : decode prog_8_method_5_code 41 = .ok (.goto 4, 3) := by decide +kernel
theorem ef_weq_self (m : MethodId) (ob : Addr) : entryFrame m #[(.ref ob), (.ref ob)] 3 = mkF m 0 #[.val (.ref ob), .val (.ref ob), .unset] [] := by first | (simp [entryFrame, mkF, argsToLocals, Value.category]; done) | rfl
def Q_weq_self (Z : State) (ob : Addr) (ob : Addr) (s1 : Addr) (s2 : Addr) (h0 : Heap) (n0 : Nat) (v : Option Value) (h : Heap) (L : List Loc) : Prop := v = some (.int (1 : Int32)) ∧ Fr n0 L ∧ h = h0
set_option maxRecDepth 65536 in
set_option maxHeartbeats 40000000 in
theorem weq_self (l : Launch) (Z : State) (a0 : Array Value) (hw : ∀ d ∈ tables_1, d.before a0 Z = true) (ws : List Jvm.Cond) (ob : Addr) (ob : Addr) (s1 : Addr) (s2 : Addr) (h0 : Heap) (n0 : Nat) (O0 : Old Z n0 h0) (P0 : Exa Z h0 ob "com/example/tattler/tattler/channel/WatchedResource") (P1 : Fld Z h0 ob "com/example/tattler/tattler/channel/WatchedResource" "id" "Ljava/lang/String;" (.ref s1)) (P2 : Fld Z h0 ob "com/example/tattler/tattler/channel/WatchedResource" "uri" "Ljava/lang/String;" (.ref s2)) (P3 : Exa Z h0 s1 "java/lang/String") (P4 : Exa Z h0 s2 "java/lang/String") :
    MetFree l (⟨"com/example/tattler/tattler/channel/WatchedResource", "equals", "(Ljava/lang/Object;)Z"⟩ : MethodName) (head1 (Jvm.Cond.code (⟨"com/example/tattler/tattler/channel/WatchedResource", "equals", "(Ljava/lang/Object;)Z"⟩ : MethodName) prog_8_method_5_code 3 (some .boolean) :: ws) ({ frames := 1, cells := 0, slots := 0, locals := 14 } : Room)) (fun a U => a = #[(.ref ob), (.ref ob)] ∧ Z.Warmed39 U.vm ∧ U.heap = h0) (fun _ _ _ _ _ => True) (fun _ U o U' => ∃ v L, o = .returned v ∧ Q_weq_self Z ob ob s1 s2 h0 n0 v U'.heap L ∧ FrameEnd U o U' L ({ frames := 1, cells := 0, slots := 0, locals := 14 } : Room).cells ({ frames := 1, cells := 0, slots := 0, locals := 14 } : Room).slots) := by
  refine MetFree.of_bodySF (plainFor_of_name pn_4) hisR ?_
  intro p e s m args below meth c s₁ Bd hml0 hP hK
  obtain ⟨rfl, hZ, hh⟩ := hP
  have hx := Bd.exec
  have hby := Bd.bytes
  have hml : c.maxLocals = 3 := hml0
  have hown : s.vm.findClass "com/example/tattler/tattler/channel/WatchedResource" = some m.cls := findClass_of_methodNamed Bd.named
  have hnm := (name_of_methodNamed Bd.named Bd.method).1
  have hlk := BodyLoose.notSynchronized Bd
  have X0 : Stand p l e ({ frames := 1, cells := 0, slots := 0, locals := 14 } : Room) s m #[(.ref ob), (.ref ob)] below meth c s₁ [] 0 0 := Stand.of_body Bd
  have e0 : s₁.heap = h0 := by rw [← hh, Bd.state]; rfl
  have N0 := Fr.nil n0
  refine Go.start (P := fun o U' => ∃ v L, o = .returned v ∧ Q_weq_self Z ob ob s1 s2 h0 n0 v U'.heap L ∧ FrameEnd s o U' L ({ frames := 1, cells := 0, slots := 0, locals := 14 } : Room).cells ({ frames := 1, cells := 0, slots := 0, locals := 14 } : Room).slots) (ef_weq_self m ob) ?_
  show Go p e below _ (s₁.setTop (mkF m 0 #[.val (.ref ob), .val (.ref ob), .unset] []))
  refine Go.by (fun t k => XS.aloadN X0.here hx rfl (hb hby d7_0) rfl rfl k) ?_
  show Go p e below _ (s₁.setTop (mkF m 1 #[.val (.ref ob), .val (.ref ob), .unset] [(.ref ob)]))
  obtain ⟨T1, X1, e1, st1⟩ := instY X0 hx hZ hown (hw _ (List.mem_of_getElem? (i := 45) rfl)) e0 (Ins.self P0) (g := (mkF m 1 #[.val (.ref ob), .val (.ref ob), .unset] [(.ref ob)])) rfl rfl (hb hby d7_1)
  refine Go.by st1 ?_
  show Go p e below _ (T1.setTop (mkF m 4 #[.val (.ref ob), .val (.ref ob), .unset] [(.int (1 : Int32))]))
  refine Go.by (fun t k => XS.ifNo X1.here hx rfl (hb hby d7_4) rfl ((if0 _ _).trans (feq (by decide : ¬ ((1 : Int32) = (0 : Int32)))).1) k) ?_
  show Go p e below _ (T1.setTop (mkF m 7 #[.val (.ref ob), .val (.ref ob), .unset] []))
  refine Go.by (fun t k => XS.aloadN X1.here hx rfl (hb hby d7_7) rfl rfl k) ?_
  show Go p e below _ (T1.setTop (mkF m 8 #[.val (.ref ob), .val (.ref ob), .unset] [(.ref ob)]))
  obtain ⟨T2, X2, e2, st2⟩ := castY X1 hx hZ hown (hw _ (List.mem_of_getElem? (i := 45) rfl)) e1 (Ins.self P0) (g := (mkF m 8 #[.val (.ref ob), .val (.ref ob), .unset] [(.ref ob)])) rfl rfl (hb hby d7_8)
  refine Go.by st2 ?_
  show Go p e below _ (T2.setTop (mkF m 11 #[.val (.ref ob), .val (.ref ob), .unset] [(.ref ob)]))
  refine Go.by (fun t k => XS.astoreN X2.here hx rfl (hb hby d7_11) rfl rfl (l' := #[.val (.ref ob), .val (.ref ob), .val (.ref ob)]) rfl k) ?_
  show Go p e below _ (T2.setTop (mkF m 12 #[.val (.ref ob), .val (.ref ob), .val (.ref ob)] []))
  refine Go.by (fun t k => XS.aloadN X2.here hx rfl (hb hby d7_12) rfl rfl k) ?_
  show Go p e below _ (T2.setTop (mkF m 13 #[.val (.ref ob), .val (.ref ob), .val (.ref ob)] [(.ref ob)]))
  obtain ⟨T3, X3, e3, st3⟩ := getF X2 hx hZ hown (host := "") (Or.inl (hw _ (List.mem_of_getElem? (i := 33) rfl))) Via.refl e2 P1 (g := (mkF m 13 #[.val (.ref ob), .val (.ref ob), .val (.ref ob)] [(.ref ob)])) rfl rfl (hb hby d7_13)
  refine Go.by st3 ?_
  show Go p e below _ (T3.setTop (mkF m 16 #[.val (.ref ob), .val (.ref ob), .val (.ref ob)] [(.ref s1)]))
  refine Go.by (fun t k => XS.aloadN X3.here hx rfl (hb hby d7_16) rfl rfl k) ?_
  show Go p e below _ (T3.setTop (mkF m 17 #[.val (.ref ob), .val (.ref ob), .val (.ref ob)] [(.ref ob), (.ref s1)]))
  obtain ⟨T4, X4, e4, st4⟩ := getF X3 hx hZ hown (host := "") (Or.inl (hw _ (List.mem_of_getElem? (i := 33) rfl))) Via.refl e3 P1 (g := (mkF m 17 #[.val (.ref ob), .val (.ref ob), .val (.ref ob)] [(.ref ob), (.ref s1)])) rfl rfl (hb hby d7_17)
  refine Go.by st4 ?_
  show Go p e below _ (T4.setTop (mkF m 20 #[.val (.ref ob), .val (.ref ob), .val (.ref ob)] [(.ref s1), (.ref s1)]))
  obtain ⟨cq5, kq5, q5a, q5b, q5c⟩ := isOf hZ e4 P3
  obtain ⟨_, _, ⟨T5, L5, k5, n5⟩, -, X5, ⟨Lc5, hQ5, l5, y5, z5⟩, st5⟩ := X4.virtualBack hx (y := (⟨"java/lang/String", "equals", "(Ljava/lang/Object;)Z"⟩ : MethodName)) (z := (⟨"java/lang/String", "equals", "(Ljava/lang/Object;)Z"⟩ : MethodName)) hown (mvT hZ (hw _ (List.mem_of_getElem? (i := 47) rfl))) (mvT hZ (hw _ (List.mem_of_getElem? (i := 48) rfl))) (notFace_of_selects (args := #[]) (mvT hZ (hw _ (List.mem_of_getElem? (i := 50) rfl)))) (mvT hZ (hw _ (List.mem_of_getElem? (i := 50) rfl))) (mvT hZ (hw _ (List.mem_of_getElem? (i := 49) rfl))) (by decide) (backOf (W := 0) (streq_same l Z a0 hw [] s1 s1 h0 n0 O0) hZ (hw _ (List.mem_of_getElem? (i := 51) rfl)) (hw _ (List.mem_of_getElem? (i := 9) rfl)) (by decide) (by decide)) q5a q5c (g := (mkF m 20 #[.val (.ref ob), .val (.ref ob), .val (.ref ob)] [(.ref s1), (.ref s1)])) rfl (by rw [hml]; rfl) (Steps.refl _) (argsL := [(.ref s1)]) (rest := []) (lenOf pd_10 rfl) rfl (by show 2 * 0 + _ ≤ _; exact Nat.le_of_eq rfl) (hb hby d7_20) (fun _ _ => ⟨rfl, e4, (by decide : 0 + 0 ≤ _), (by decide : 0 + 0 ≤ _)⟩)
  dsimp only [Pt.U, Pt.locs, Pt.cells, Pt.slots] at X5 l5 y5 z5 st5 hQ5
  subst l5 y5 z5
  obtain ⟨rfl, N5q, e5⟩ := hQ5
  have N5 := Fr.app N0 N5q
  refine Go.tr st5 ?_
  show Go p e below _ (T5.setTop (mkF m 23 #[.val (.ref ob), .val (.ref ob), .val (.ref ob)] [(.int (1 : Int32))]))
  refine Go.by (fun t k => XS.ifNo X5.here hx rfl (hb hby d7_23) rfl ((if0 _ _).trans (feq (by decide : ¬ ((1 : Int32) = (0 : Int32)))).1) k) ?_
  show Go p e below _ (T5.setTop (mkF m 26 #[.val (.ref ob), .val (.ref ob), .val (.ref ob)] []))
  refine Go.by (fun t k => XS.aloadN X5.here hx rfl (hb hby d7_26) rfl rfl k) ?_
  show Go p e below _ (T5.setTop (mkF m 27 #[.val (.ref ob), .val (.ref ob), .val (.ref ob)] [(.ref ob)]))
  obtain ⟨T6, X6, e6, st6⟩ := getF X5 hx hZ hown (host := "") (Or.inl (hw _ (List.mem_of_getElem? (i := 35) rfl))) Via.refl e5 P2 (g := (mkF m 27 #[.val (.ref ob), .val (.ref ob), .val (.ref ob)] [(.ref ob)])) rfl rfl (hb hby d7_27)
  refine Go.by st6 ?_
  show Go p e below _ (T6.setTop (mkF m 30 #[.val (.ref ob), .val (.ref ob), .val (.ref ob)] [(.ref s2)]))
  refine Go.by (fun t k => XS.aloadN X6.here hx rfl (hb hby d7_30) rfl rfl k) ?_
  show Go p e below _ (T6.setTop (mkF m 31 #[.val (.ref ob), .val (.ref ob), .val (.ref ob)] [(.ref ob), (.ref s2)]))
  obtain ⟨T7, X7, e7, st7⟩ := getF X6 hx hZ hown (host := "") (Or.inl (hw _ (List.mem_of_getElem? (i := 35) rfl))) Via.refl e6 P2 (g := (mkF m 31 #[.val (.ref ob), .val (.ref ob), .val (.ref ob)] [(.ref ob), (.ref s2)])) rfl rfl (hb hby d7_31)
  refine Go.by st7 ?_
  show Go p e below _ (T7.setTop (mkF m 34 #[.val (.ref ob), .val (.ref ob), .val (.ref ob)] [(.ref s2), (.ref s2)]))
  obtain ⟨cq8, kq8, q8a, q8b, q8c⟩ := isOf hZ e7 P4
  obtain ⟨_, _, ⟨T8, L8, k8, n8⟩, -, X8, ⟨Lc8, hQ8, l8, y8, z8⟩, st8⟩ := X7.virtualBack hx (y := (⟨"java/lang/String", "equals", "(Ljava/lang/Object;)Z"⟩ : MethodName)) (z := (⟨"java/lang/String", "equals", "(Ljava/lang/Object;)Z"⟩ : MethodName)) hown (mvT hZ (hw _ (List.mem_of_getElem? (i := 47) rfl))) (mvT hZ (hw _ (List.mem_of_getElem? (i := 48) rfl))) (notFace_of_selects (args := #[]) (mvT hZ (hw _ (List.mem_of_getElem? (i := 50) rfl)))) (mvT hZ (hw _ (List.mem_of_getElem? (i := 50) rfl))) (mvT hZ (hw _ (List.mem_of_getElem? (i := 49) rfl))) (by decide) (backOf (W := 0) (streq_same l Z a0 hw [] s2 s2 h0 n0 O0) hZ (hw _ (List.mem_of_getElem? (i := 51) rfl)) (hw _ (List.mem_of_getElem? (i := 9) rfl)) (by decide) (by decide)) q8a q8c (g := (mkF m 34 #[.val (.ref ob), .val (.ref ob), .val (.ref ob)] [(.ref s2), (.ref s2)])) rfl (by rw [hml]; rfl) (Steps.refl _) (argsL := [(.ref s2)]) (rest := []) (lenOf pd_10 rfl) rfl (by show 2 * 0 + _ ≤ _; exact Nat.le_of_eq rfl) (hb hby d7_34) (fun _ _ => ⟨rfl, e7, (by decide : 0 + 0 ≤ _), (by decide : 0 + 0 ≤ _)⟩)
  dsimp only [Pt.U, Pt.locs, Pt.cells, Pt.slots] at X8 l8 y8 z8 st8 hQ8
  subst l8 y8 z8
  obtain ⟨rfl, N8q, e8⟩ := hQ8
  have N8 := Fr.app N5 N8q
  refine Go.tr st8 ?_
  show Go p e below _ (T8.setTop (mkF m 37 #[.val (.ref ob), .val (.ref ob), .val (.ref ob)] [(.int (1 : Int32))]))
  refine Go.by (fun t k => XS.ifNo X8.here hx rfl (hb hby d7_37) rfl ((if0 _ _).trans (feq (by decide : ¬ ((1 : Int32) = (0 : Int32)))).1) k) ?_
  show Go p e below _ (T8.setTop (mkF m 40 #[.val (.ref ob), .val (.ref ob), .val (.ref ob)] []))
  refine Go.by (fun t k => XS.iconst X8.here hx rfl (hb hby d7_40) k) ?_
  show Go p e below _ (T8.setTop (mkF m 41 #[.val (.ref ob), .val (.ref ob), .val (.ref ob)] [(.int (1 : Int32))]))
  refine Go.by (fun t k => XS.goto X8.here hx rfl (pc0 := 41) (pc' := 45) rfl (hb hby d7_41) (by decide) (by decide) k) ?_
  show Go p e below _ (T8.setTop (mkF m 45 #[.val (.ref ob), .val (.ref ob), .val (.ref ob)] [(.int (1 : Int32))]))
  have hq : Q_weq_self Z ob ob s1 s2 h0 n0 (some (.int (nar .boolean (1 : Int32)))) h0 _ := ⟨rfl, N8, rfl⟩
  exact Go.retN X8 hx (t := .boolean) Bd.returns (by simp) hlk (hb hby d7_45) (by decide) (by decide) (by rw [e8]; exact hq)
theorem ef_weq (m : MethodId) (ob : Addr) (oo : Addr) : entryFrame m #[(.ref ob), (.ref oo)] 3 = mkF m 0 #[.val (.ref ob), .val (.ref oo), .unset] [] := by first | (simp [entryFrame, mkF, argsToLocals, Value.category]; done) | rfl
def Q_weq (Z : State) (ob : Addr) (oo : Addr) (cs : Int32) (s1 : Addr) (x1 : Addr) (k1 : ClassId) (za1 : Int32) (a1_ : Int32) (b1_ : Int32) (s2 : Addr) (x2 : Addr) (k2 : ClassId) (za2 : Int32) (a2_ : Int32) (b2_ : Int32) (s3 : Addr) (x3 : Addr) (k3 : ClassId) (za3 : Int32) (a3_ : Int32) (b3_ : Int32) (s4 : Addr) (x4 : Addr) (k4 : ClassId) (za4 : Int32) (a4_ : Int32) (b4_ : Int32) (h0 : Heap) (n0 : Nat) (v : Option Value) (h : Heap) (L : List Loc) : Prop := v = some (.int (own_weq (own_lat a1_ b1_ za1 a3_ b3_ za3) (own_lat a2_ b2_ za2 a4_ b4_ za4))) ∧ Fr n0 L ∧ h = h0
set_option maxRecDepth 65536 in
set_option maxHeartbeats 40000000 in
theorem weq (l : Launch) (Z : State) (a0 : Array Value) (hw : ∀ d ∈ tables_1, d.before a0 Z = true) (ws : List Jvm.Cond) (ob : Addr) (oo : Addr) (cs : Int32) (s1 : Addr) (x1 : Addr) (k1 : ClassId) (za1 : Int32) (a1_ : Int32) (b1_ : Int32) (s2 : Addr) (x2 : Addr) (k2 : ClassId) (za2 : Int32) (a2_ : Int32) (b2_ : Int32) (s3 : Addr) (x3 : Addr) (k3 : ClassId) (za3 : Int32) (a3_ : Int32) (b3_ : Int32) (s4 : Addr) (x4 : Addr) (k4 : ClassId) (za4 : Int32) (a4_ : Int32) (b4_ : Int32) (h0 : Heap) (n0 : Nat) (O0 : Old Z n0 h0) (P0 : Sta Z Z.heap "java/lang/String" "COMPACT_STRINGS" "Z" (.int cs)) (P1 : Exa Z h0 ob "com/example/tattler/tattler/channel/WatchedResource") (P2 : Fld Z h0 ob "com/example/tattler/tattler/channel/WatchedResource" "id" "Ljava/lang/String;" (.ref s1)) (P3 : Fld Z h0 ob "com/example/tattler/tattler/channel/WatchedResource" "uri" "Ljava/lang/String;" (.ref s2)) (P4 : Exa Z h0 oo "com/example/tattler/tattler/channel/WatchedResource") (P5 : Fld Z h0 oo "com/example/tattler/tattler/channel/WatchedResource" "id" "Ljava/lang/String;" (.ref s3)) (P6 : Fld Z h0 oo "com/example/tattler/tattler/channel/WatchedResource" "uri" "Ljava/lang/String;" (.ref s4)) (P7 : Exa Z h0 s1 "java/lang/String") (P8 : Fld Z h0 s1 "java/lang/String" "coder" "B" (.int (0 : Int32))) (P9 : Fld Z h0 s1 "java/lang/String" "value" "[B" (.ref x1)) (P10 : Arv Z h0 x1 k1 .byte za1 (own_sv a1_ b1_ za1) (.int (0 : Int32))) (P11 : Exa Z h0 s2 "java/lang/String") (P12 : Fld Z h0 s2 "java/lang/String" "coder" "B" (.int (0 : Int32))) (P13 : Fld Z h0 s2 "java/lang/String" "value" "[B" (.ref x2)) (P14 : Arv Z h0 x2 k2 .byte za2 (own_sv a2_ b2_ za2) (.int (0 : Int32))) (P15 : Exa Z h0 s3 "java/lang/String") (P16 : Fld Z h0 s3 "java/lang/String" "coder" "B" (.int (0 : Int32))) (P17 : Fld Z h0 s3 "java/lang/String" "value" "[B" (.ref x3)) (P18 : Arv Z h0 x3 k3 .byte za3 (own_sv a3_ b3_ za3) (.int (0 : Int32))) (P19 : Exa Z h0 s4 "java/lang/String") (P20 : Fld Z h0 s4 "java/lang/String" "coder" "B" (.int (0 : Int32))) (P21 : Fld Z h0 s4 "java/lang/String" "value" "[B" (.ref x4)) (P22 : Arv Z h0 x4 k4 .byte za4 (own_sv a4_ b4_ za4) (.int (0 : Int32))) (hcs : cs ≠ (0 : Int32)) (n13 : s1 ≠ s3) (n24 : s2 ≠ s4) (hz1 : za1 = (0 : Int32) ∨ za1 = (1 : Int32) ∨ za1 = (2 : Int32)) (hz2 : za2 = (0 : Int32) ∨ za2 = (1 : Int32) ∨ za2 = (2 : Int32)) (hz3 : za3 = (0 : Int32) ∨ za3 = (1 : Int32) ∨ za3 = (2 : Int32)) (hz4 : za4 = (0 : Int32) ∨ za4 = (1 : Int32) ∨ za4 = (2 : Int32)) :
    MetFree l (⟨"com/example/tattler/tattler/channel/WatchedResource", "equals", "(Ljava/lang/Object;)Z"⟩ : MethodName) (head1 (Jvm.Cond.code (⟨"com/example/tattler/tattler/channel/WatchedResource", "equals", "(Ljava/lang/Object;)Z"⟩ : MethodName) prog_8_method_5_code 3 (some .boolean) :: ws) ({ frames := 2, cells := 0, slots := 0, locals := 28 } : Room)) (fun a U => a = #[(.ref ob), (.ref oo)] ∧ Z.Warmed39 U.vm ∧ U.heap = h0) (fun _ _ _ _ _ => True) (fun _ U o U' => ∃ v L, o = .returned v ∧ Q_weq Z ob oo cs s1 x1 k1 za1 a1_ b1_ s2 x2 k2 za2 a2_ b2_ s3 x3 k3 za3 a3_ b3_ s4 x4 k4 za4 a4_ b4_ h0 n0 v U'.heap L ∧ FrameEnd U o U' L ({ frames := 2, cells := 0, slots := 0, locals := 28 } : Room).cells ({ frames := 2, cells := 0, slots := 0, locals := 28 } : Room).slots) := by
  refine MetFree.of_bodySF (plainFor_of_name pn_4) hisR ?_
  intro p e s m args below meth c s₁ Bd hml0 hP hK
  obtain ⟨rfl, hZ, hh⟩ := hP
  have hx := Bd.exec
  have hby := Bd.bytes
  have hml : c.maxLocals = 3 := hml0
  have hown : s.vm.findClass "com/example/tattler/tattler/channel/WatchedResource" = some m.cls := findClass_of_methodNamed Bd.named
  have hnm := (name_of_methodNamed Bd.named Bd.method).1
  have hlk := BodyLoose.notSynchronized Bd
  have X0 : Stand p l e ({ frames := 2, cells := 0, slots := 0, locals := 28 } : Room) s m #[(.ref ob), (.ref oo)] below meth c s₁ [] 0 0 := Stand.of_body Bd
  have e0 : s₁.heap = h0 := by rw [← hh, Bd.state]; rfl
  have N0 := Fr.nil n0
  refine Go.start (P := fun o U' => ∃ v L, o = .returned v ∧ Q_weq Z ob oo cs s1 x1 k1 za1 a1_ b1_ s2 x2 k2 za2 a2_ b2_ s3 x3 k3 za3 a3_ b3_ s4 x4 k4 za4 a4_ b4_ h0 n0 v U'.heap L ∧ FrameEnd s o U' L ({ frames := 2, cells := 0, slots := 0, locals := 28 } : Room).cells ({ frames := 2, cells := 0, slots := 0, locals := 28 } : Room).slots) (ef_weq m ob oo) ?_
  show Go p e below _ (s₁.setTop (mkF m 0 #[.val (.ref ob), .val (.ref oo), .unset] []))
  refine Go.by (fun t k => XS.aloadN X0.here hx rfl (hb hby d7_0) rfl rfl k) ?_
  show Go p e below _ (s₁.setTop (mkF m 1 #[.val (.ref ob), .val (.ref oo), .unset] [(.ref oo)]))
  obtain ⟨T1, X1, e1, st1⟩ := instY X0 hx hZ hown (hw _ (List.mem_of_getElem? (i := 45) rfl)) e0 (Ins.self P4) (g := (mkF m 1 #[.val (.ref ob), .val (.ref oo), .unset] [(.ref oo)])) rfl rfl (hb hby d7_1)
  refine Go.by st1 ?_
  show Go p e below _ (T1.setTop (mkF m 4 #[.val (.ref ob), .val (.ref oo), .unset] [(.int (1 : Int32))]))
  refine Go.by (fun t k => XS.ifNo X1.here hx rfl (hb hby d7_4) rfl ((if0 _ _).trans (feq (by decide : ¬ ((1 : Int32) = (0 : Int32)))).1) k) ?_
  show Go p e below _ (T1.setTop (mkF m 7 #[.val (.ref ob), .val (.ref oo), .unset] []))
  refine Go.by (fun t k => XS.aloadN X1.here hx rfl (hb hby d7_7) rfl rfl k) ?_
  show Go p e below _ (T1.setTop (mkF m 8 #[.val (.ref ob), .val (.ref oo), .unset] [(.ref oo)]))
  obtain ⟨T2, X2, e2, st2⟩ := castY X1 hx hZ hown (hw _ (List.mem_of_getElem? (i := 45) rfl)) e1 (Ins.self P4) (g := (mkF m 8 #[.val (.ref ob), .val (.ref oo), .unset] [(.ref oo)])) rfl rfl (hb hby d7_8)
  refine Go.by st2 ?_
  show Go p e below _ (T2.setTop (mkF m 11 #[.val (.ref ob), .val (.ref oo), .unset] [(.ref oo)]))
  refine Go.by (fun t k => XS.astoreN X2.here hx rfl (hb hby d7_11) rfl rfl (l' := #[.val (.ref ob), .val (.ref oo), .val (.ref oo)]) rfl k) ?_
  show Go p e below _ (T2.setTop (mkF m 12 #[.val (.ref ob), .val (.ref oo), .val (.ref oo)] []))
  refine Go.by (fun t k => XS.aloadN X2.here hx rfl (hb hby d7_12) rfl rfl k) ?_
  show Go p e below _ (T2.setTop (mkF m 13 #[.val (.ref ob), .val (.ref oo), .val (.ref oo)] [(.ref ob)]))
  obtain ⟨T3, X3, e3, st3⟩ := getF X2 hx hZ hown (host := "") (Or.inl (hw _ (List.mem_of_getElem? (i := 33) rfl))) Via.refl e2 P2 (g := (mkF m 13 #[.val (.ref ob), .val (.ref oo), .val (.ref oo)] [(.ref ob)])) rfl rfl (hb hby d7_13)
  refine Go.by st3 ?_
  show Go p e below _ (T3.setTop (mkF m 16 #[.val (.ref ob), .val (.ref oo), .val (.ref oo)] [(.ref s1)]))
  refine Go.by (fun t k => XS.aloadN X3.here hx rfl (hb hby d7_16) rfl rfl k) ?_
  show Go p e below _ (T3.setTop (mkF m 17 #[.val (.ref ob), .val (.ref oo), .val (.ref oo)] [(.ref oo), (.ref s1)]))
  obtain ⟨T4, X4, e4, st4⟩ := getF X3 hx hZ hown (host := "") (Or.inl (hw _ (List.mem_of_getElem? (i := 33) rfl))) Via.refl e3 P5 (g := (mkF m 17 #[.val (.ref ob), .val (.ref oo), .val (.ref oo)] [(.ref oo), (.ref s1)])) rfl rfl (hb hby d7_17)
  refine Go.by st4 ?_
  show Go p e below _ (T4.setTop (mkF m 20 #[.val (.ref ob), .val (.ref oo), .val (.ref oo)] [(.ref s3), (.ref s1)]))
  obtain ⟨cq5, kq5, q5a, q5b, q5c⟩ := isOf hZ e4 P7
  obtain ⟨_, _, ⟨T5, L5, k5, n5⟩, -, X5, ⟨Lc5, hQ5, l5, y5, z5⟩, st5⟩ := X4.virtualBack hx (y := (⟨"java/lang/String", "equals", "(Ljava/lang/Object;)Z"⟩ : MethodName)) (z := (⟨"java/lang/String", "equals", "(Ljava/lang/Object;)Z"⟩ : MethodName)) hown (mvT hZ (hw _ (List.mem_of_getElem? (i := 47) rfl))) (mvT hZ (hw _ (List.mem_of_getElem? (i := 48) rfl))) (notFace_of_selects (args := #[]) (mvT hZ (hw _ (List.mem_of_getElem? (i := 50) rfl)))) (mvT hZ (hw _ (List.mem_of_getElem? (i := 50) rfl))) (mvT hZ (hw _ (List.mem_of_getElem? (i := 49) rfl))) (by decide) (backOf (W := 0) (streq l Z a0 hw [] s1 s3 x1 x3 k1 k3 cs za1 a1_ b1_ za3 a3_ b3_ h0 n0 O0 P0 P7 P8 P9 P10 P15 P16 P17 P18 hcs n13 hz1 hz3) hZ (hw _ (List.mem_of_getElem? (i := 51) rfl)) (hw _ (List.mem_of_getElem? (i := 9) rfl)) (by decide) (by decide)) q5a q5c (g := (mkF m 20 #[.val (.ref ob), .val (.ref oo), .val (.ref oo)] [(.ref s3), (.ref s1)])) rfl (by rw [hml]; rfl) (Steps.refl _) (argsL := [(.ref s3)]) (rest := []) (lenOf pd_10 rfl) rfl (by show 2 * 0 + _ ≤ _; exact Nat.le_of_eq rfl) (hb hby d7_20) (fun _ _ => ⟨rfl, e4, (by decide : 0 + 0 ≤ _), (by decide : 0 + 0 ≤ _)⟩)
  dsimp only [Pt.U, Pt.locs, Pt.cells, Pt.slots] at X5 l5 y5 z5 st5 hQ5
  subst l5 y5 z5
  obtain ⟨rfl, N5q, e5⟩ := hQ5
  have N5 := Fr.app N0 N5q
  refine Go.tr st5 ?_
  show Go p e below _ (T5.setTop (mkF m 23 #[.val (.ref ob), .val (.ref oo), .val (.ref oo)] [(.int (own_lat a1_ b1_ za1 a3_ b3_ za3))]))
  by_cases hc6 : (own_lat a1_ b1_ za1 a3_ b3_ za3) = (0 : Int32)
  · skip
    refine Go.by (fun t k => XS.ifYes X5.here hx rfl (pc0 := 23) (pc' := 44) rfl (hb hby d7_23) rfl ((if0 _ _).trans (teq hc6).1) (by decide) (by decide) k) ?_
    show Go p e below _ (T5.setTop (mkF m 44 #[.val (.ref ob), .val (.ref oo), .val (.ref oo)] []))
    refine Go.by (fun t k => XS.iconst X5.here hx rfl (hb hby d7_44) k) ?_
    show Go p e below _ (T5.setTop (mkF m 45 #[.val (.ref ob), .val (.ref oo), .val (.ref oo)] [(.int (0 : Int32))]))
    have hq : Q_weq Z ob oo cs s1 x1 k1 za1 a1_ b1_ s2 x2 k2 za2 a2_ b2_ s3 x3 k3 za3 a3_ b3_ s4 x4 k4 za4 a4_ b4_ h0 n0 (some (.int (nar .boolean (0 : Int32)))) h0 _ := ⟨(show some (Value.int (0 : Int32)) = some (Value.int (own_weq (own_lat a1_ b1_ za1 a3_ b3_ za3) (own_lat a2_ b2_ za2 a4_ b4_ za4))) from by simp only [own_weq, if_pos hc6]), N5, rfl⟩
    exact Go.retN X5 hx (t := .boolean) Bd.returns (by simp) hlk (hb hby d7_45) (by decide) (by decide) (by rw [e5]; exact hq)
  · skip
    refine Go.by (fun t k => XS.ifNo X5.here hx rfl (hb hby d7_23) rfl ((if0 _ _).trans (feq hc6).1) k) ?_
    show Go p e below _ (T5.setTop (mkF m 26 #[.val (.ref ob), .val (.ref oo), .val (.ref oo)] []))
    refine Go.by (fun t k => XS.aloadN X5.here hx rfl (hb hby d7_26) rfl rfl k) ?_
    show Go p e below _ (T5.setTop (mkF m 27 #[.val (.ref ob), .val (.ref oo), .val (.ref oo)] [(.ref ob)]))
    obtain ⟨T7, X7, e7, st7⟩ := getF X5 hx hZ hown (host := "") (Or.inl (hw _ (List.mem_of_getElem? (i := 35) rfl))) Via.refl e5 P3 (g := (mkF m 27 #[.val (.ref ob), .val (.ref oo), .val (.ref oo)] [(.ref ob)])) rfl rfl (hb hby d7_27)
    refine Go.by st7 ?_
    show Go p e below _ (T7.setTop (mkF m 30 #[.val (.ref ob), .val (.ref oo), .val (.ref oo)] [(.ref s2)]))
    refine Go.by (fun t k => XS.aloadN X7.here hx rfl (hb hby d7_30) rfl rfl k) ?_
    show Go p e below _ (T7.setTop (mkF m 31 #[.val (.ref ob), .val (.ref oo), .val (.ref oo)] [(.ref oo), (.ref s2)]))
    obtain ⟨T8, X8, e8, st8⟩ := getF X7 hx hZ hown (host := "") (Or.inl (hw _ (List.mem_of_getElem? (i := 35) rfl))) Via.refl e7 P6 (g := (mkF m 31 #[.val (.ref ob), .val (.ref oo), .val (.ref oo)] [(.ref oo), (.ref s2)])) rfl rfl (hb hby d7_31)
    refine Go.by st8 ?_
    show Go p e below _ (T8.setTop (mkF m 34 #[.val (.ref ob), .val (.ref oo), .val (.ref oo)] [(.ref s4), (.ref s2)]))
    obtain ⟨cq9, kq9, q9a, q9b, q9c⟩ := isOf hZ e8 P11
    obtain ⟨_, _, ⟨T9, L9, k9, n9⟩, -, X9, ⟨Lc9, hQ9, l9, y9, z9⟩, st9⟩ := X8.virtualBack hx (y := (⟨"java/lang/String", "equals", "(Ljava/lang/Object;)Z"⟩ : MethodName)) (z := (⟨"java/lang/String", "equals", "(Ljava/lang/Object;)Z"⟩ : MethodName)) hown (mvT hZ (hw _ (List.mem_of_getElem? (i := 47) rfl))) (mvT hZ (hw _ (List.mem_of_getElem? (i := 48) rfl))) (notFace_of_selects (args := #[]) (mvT hZ (hw _ (List.mem_of_getElem? (i := 50) rfl)))) (mvT hZ (hw _ (List.mem_of_getElem? (i := 50) rfl))) (mvT hZ (hw _ (List.mem_of_getElem? (i := 49) rfl))) (by decide) (backOf (W := 0) (streq l Z a0 hw [] s2 s4 x2 x4 k2 k4 cs za2 a2_ b2_ za4 a4_ b4_ h0 n0 O0 P0 P11 P12 P13 P14 P19 P20 P21 P22 hcs n24 hz2 hz4) hZ (hw _ (List.mem_of_getElem? (i := 51) rfl)) (hw _ (List.mem_of_getElem? (i := 9) rfl)) (by decide) (by decide)) q9a q9c (g := (mkF m 34 #[.val (.ref ob), .val (.ref oo), .val (.ref oo)] [(.ref s4), (.ref s2)])) rfl (by rw [hml]; rfl) (Steps.refl _) (argsL := [(.ref s4)]) (rest := []) (lenOf pd_10 rfl) rfl (by show 2 * 0 + _ ≤ _; exact Nat.le_of_eq rfl) (hb hby d7_34) (fun _ _ => ⟨rfl, e8, (by decide : 0 + 0 ≤ _), (by decide : 0 + 0 ≤ _)⟩)
    dsimp only [Pt.U, Pt.locs, Pt.cells, Pt.slots] at X9 l9 y9 z9 st9 hQ9
    subst l9 y9 z9
    obtain ⟨rfl, N9q, e9⟩ := hQ9
    have N9 := Fr.app N5 N9q
    refine Go.tr st9 ?_
    show Go p e below _ (T9.setTop (mkF m 37 #[.val (.ref ob), .val (.ref oo), .val (.ref oo)] [(.int (own_lat a2_ b2_ za2 a4_ b4_ za4))]))
    by_cases hc10 : (own_lat a2_ b2_ za2 a4_ b4_ za4) = (0 : Int32)
    · skip
      refine Go.by (fun t k => XS.ifYes X9.here hx rfl (pc0 := 37) (pc' := 44) rfl (hb hby d7_37) rfl ((if0 _ _).trans (teq hc10).1) (by decide) (by decide) k) ?_
      show Go p e below _ (T9.setTop (mkF m 44 #[.val (.ref ob), .val (.ref oo), .val (.ref oo)] []))
      refine Go.by (fun t k => XS.iconst X9.here hx rfl (hb hby d7_44) k) ?_
      show Go p e below _ (T9.setTop (mkF m 45 #[.val (.ref ob), .val (.ref oo), .val (.ref oo)] [(.int (0 : Int32))]))
      have hq : Q_weq Z ob oo cs s1 x1 k1 za1 a1_ b1_ s2 x2 k2 za2 a2_ b2_ s3 x3 k3 za3 a3_ b3_ s4 x4 k4 za4 a4_ b4_ h0 n0 (some (.int (nar .boolean (0 : Int32)))) h0 _ := ⟨(show some (Value.int (0 : Int32)) = some (Value.int (own_weq (own_lat a1_ b1_ za1 a3_ b3_ za3) (own_lat a2_ b2_ za2 a4_ b4_ za4))) from by simp only [own_weq, if_neg hc6, if_pos hc10]), N9, rfl⟩
      exact Go.retN X9 hx (t := .boolean) Bd.returns (by simp) hlk (hb hby d7_45) (by decide) (by decide) (by rw [e9]; exact hq)
    · skip
      refine Go.by (fun t k => XS.ifNo X9.here hx rfl (hb hby d7_37) rfl ((if0 _ _).trans (feq hc10).1) k) ?_
      show Go p e below _ (T9.setTop (mkF m 40 #[.val (.ref ob), .val (.ref oo), .val (.ref oo)] []))
      refine Go.by (fun t k => XS.iconst X9.here hx rfl (hb hby d7_40) k) ?_
      show Go p e below _ (T9.setTop (mkF m 41 #[.val (.ref ob), .val (.ref oo), .val (.ref oo)] [(.int (1 : Int32))]))
      refine Go.by (fun t k => XS.goto X9.here hx rfl (pc0 := 41) (pc' := 45) rfl (hb hby d7_41) (by decide) (by decide) k) ?_
      show Go p e below _ (T9.setTop (mkF m 45 #[.val (.ref ob), .val (.ref oo), .val (.ref oo)] [(.int (1 : Int32))]))
      have hq : Q_weq Z ob oo cs s1 x1 k1 za1 a1_ b1_ s2 x2 k2 za2 a2_ b2_ s3 x3 k3 za3 a3_ b3_ s4 x4 k4 za4 a4_ b4_ h0 n0 (some (.int (nar .boolean (1 : Int32)))) h0 _ := ⟨(show some (Value.int (1 : Int32)) = some (Value.int (own_weq (own_lat a1_ b1_ za1 a3_ b3_ za3) (own_lat a2_ b2_ za2 a4_ b4_ za4))) from by simp only [own_weq, if_neg hc6, if_neg hc10]), N9, rfl⟩
      exact Go.retN X9 hx (t := .boolean) Bd.returns (by simp) hlk (hb hby d7_45) (by decide) (by decide) (by rw [e9]; exact hq)
theorem pd_11 : parseMethodDescriptor "(CCI)Ljava/lang/String;" = some ⟨[.char, .char, .int], some (.object "java/lang/String")⟩ := by decide +kernel
theorem pd_12 : parseMethodDescriptor "(Ljava/lang/String;Ljava/lang/String;)V" = some ⟨[(.object "java/lang/String"), (.object "java/lang/String")], none⟩ := by decide +kernel
theorem pd_13 : parseMethodDescriptor "(CCICCI)Z" = some ⟨[.char, .char, .int, .char, .char, .int], some .boolean⟩ := by decide +kernel
theorem ef_law (m : MethodId) (ip : Int32) (iq : Int32) (ir : Int32) (is_ : Int32) (im : Int32) : entryFrame m #[(.int ip), (.int iq), (.int ir), (.int is_), (.int im)] maxLocals = mkF m 0 #[.val (.int ip), .val (.int iq), .val (.int ir), .val (.int is_), .val (.int im), .unset, .unset, .unset, .unset, .unset, .unset, .unset, .unset, .unset, .unset, .unset, .unset, .unset, .unset, .unset, .unset, .unset, .unset, .unset, .unset] [] := by first | (simp [entryFrame, mkF, argsToLocals, Value.category, maxLocals]; done) | rfl
def Q_law (Z : State) (ip : Int32) (iq : Int32) (ir : Int32) (is_ : Int32) (im : Int32) (cs : Int32) (h0 : Heap) (n0 : Nat) (v : Option Value) (h : Heap) (L : List Loc) : Prop := v = some (.int (1 : Int32)) ∧ Fr n0 L ∧ Keep h0 h []
set_option maxRecDepth 65536 in
set_option maxHeartbeats 40000000 in
theorem law (l : Launch) (Z : State) (a0 : Array Value) (hw : ∀ d ∈ tables_1, d.before a0 Z = true) (ws : List Jvm.Cond) (ip : Int32) (iq : Int32) (ir : Int32) (is_ : Int32) (im : Int32) (cs : Int32) (h0 : Heap) (n0 : Nat) (O0 : Old Z n0 h0) (P0 : Sta Z Z.heap "java/lang/String" "COMPACT_STRINGS" "Z" (.int cs)) (hcs : cs ≠ (0 : Int32)) :
    MetFree l x (head1 (Jvm.Cond.code x code maxLocals ret :: ws) room_1) (fun a U => a = #[(.int ip), (.int iq), (.int ir), (.int is_), (.int im)] ∧ Z.Warmed39 U.vm ∧ U.heap = h0 ∧ CHv Z own_EL U.vm h0) (fun _ _ _ _ _ => True) (fun _ U o U' => ∃ v L, o = .returned v ∧ Q_law Z ip iq ir is_ im cs h0 n0 v U'.heap L ∧ CHr Z own_EL U.vm U.heap U'.vm U'.heap ∧ ReturnedEndW U o U' L room_1.cells room_1.slots) := by
  refine MetFree.of_bodySF (plainFor_of_name pn_3) hisR ?_
  intro p e s m args below meth c s₁ Bd hml0 hP hK
  obtain ⟨rfl, hZ, hh, hCH⟩ := hP
  have hx := Bd.exec
  have hby := Bd.bytes
  have hml : c.maxLocals = 25 := hml0
  have hown : s.vm.findClass "com/example/tattler/tattler/channel/WatchedResourceEqualsPinLaw" = some m.cls := findClass_of_methodNamed Bd.named
  have hnm := (name_of_methodNamed Bd.named Bd.method).1
  have hlk := BodyLoose.notSynchronized Bd
  have X0 : Stand p l e room_1 (s.setVm s.vm) m #[(.int ip), (.int iq), (.int ir), (.int is_), (.int im)] below meth c s₁ [] 0 0 := Stand.of_body Bd
  have e0 : s₁.heap = h0 := by rw [← hh, Bd.state]; rfl
  have N0 := Fr.nil n0
  have hS : s.Since s.vm h0.size := (State.WarmedH.refl s).since _
  have hk0 : h0.size ≤ h0.size := Nat.le_refl _
  have wS : ∀ a ∈ Bundle.stringAtoms, a.before a0 Z = true := fun a q => hw a (own_sA a q)
  have hEL : EW Z a0 own_EL := own_EW hw
  have hR0 : CHr Z own_EL s.vm h0 s.vm h0 := CHr.refl hCH
  refine Go.start (P := fun o U' => ∃ v L, o = .returned v ∧ Q_law Z ip iq ir is_ im cs h0 n0 v U'.heap L ∧ CHr Z own_EL s.vm s.heap U'.vm U'.heap ∧ ReturnedEndW s o U' L room_1.cells room_1.slots) (ef_law m ip iq ir is_ im) ?_
  show Go p e below _ (s₁.setTop (mkF m 0 #[.val (.int ip), .val (.int iq), .val (.int ir), .val (.int is_), .val (.int im), .unset, .unset, .unset, .unset, .unset, .unset, .unset, .unset, .unset, .unset, .unset, .unset, .unset, .unset, .unset, .unset, .unset, .unset, .unset, .unset] []))
  refine Go.by (fun t k => XS.iloadN X0.here hx rfl (hb hby at_0) rfl k) ?_
  show Go p e below _ (s₁.setTop (mkF m 1 #[.val (.int ip), .val (.int iq), .val (.int ir), .val (.int is_), .val (.int im), .unset, .unset, .unset, .unset, .unset, .unset, .unset, .unset, .unset, .unset, .unset, .unset, .unset, .unset, .unset, .unset, .unset, .unset, .unset, .unset] [(.int ip)]))
  refine Go.by (fun t k => XS.sipush X0.here hx rfl (hb hby at_1) k) ?_
  show Go p e below _ (s₁.setTop (mkF m 4 #[.val (.int ip), .val (.int iq), .val (.int ir), .val (.int is_), .val (.int im), .unset, .unset, .unset, .unset, .unset, .unset, .unset, .unset, .unset, .unset, .unset, .unset, .unset, .unset, .unset, .unset, .unset, .unset, .unset, .unset] [(.int (255 : Int32)), (.int ip)]))
  refine Go.by (fun t k => XS.iand X0.here hx rfl (hb hby at_4) rfl k) ?_
  show Go p e below _ (s₁.setTop (mkF m 5 #[.val (.int ip), .val (.int iq), .val (.int ir), .val (.int is_), .val (.int im), .unset, .unset, .unset, .unset, .unset, .unset, .unset, .unset, .unset, .unset, .unset, .unset, .unset, .unset, .unset, .unset, .unset, .unset, .unset, .unset] [(.int (ip &&& (255 : Int32)))]))
  refine Go.by (fun t k => XS.i2c X0.here hx rfl (hb hby at_5) rfl k) ?_
  show Go p e below _ (s₁.setTop (mkF m 6 #[.val (.int ip), .val (.int iq), .val (.int ir), .val (.int is_), .val (.int im), .unset, .unset, .unset, .unset, .unset, .unset, .unset, .unset, .unset, .unset, .unset, .unset, .unset, .unset, .unset, .unset, .unset, .unset, .unset, .unset] [(.int ((ip &&& (255 : Int32)).toUInt32.toUInt16.toUInt32.toInt32))]))
  obtain ⟨i0, e_i0⟩ : ∃ q : Int32, q = ((ip &&& (255 : Int32)).toUInt32.toUInt16.toUInt32.toInt32) := ⟨_, rfl⟩
  have hi0 : 0 ≤ i0.toInt ∧ i0.toInt ≤ 255 := by rw [e_i0]; exact own_chA _
  rw [show s₁.setTop (mkF m 6 #[.val (.int ip), .val (.int iq), .val (.int ir), .val (.int is_), .val (.int im), .unset, .unset, .unset, .unset, .unset, .unset, .unset, .unset, .unset, .unset, .unset, .unset, .unset, .unset, .unset, .unset, .unset, .unset, .unset, .unset] [(.int ((ip &&& (255 : Int32)).toUInt32.toUInt16.toUInt32.toInt32))]) = s₁.setTop (mkF m 6 #[.val (.int ip), .val (.int iq), .val (.int ir), .val (.int is_), .val (.int im), .unset, .unset, .unset, .unset, .unset, .unset, .unset, .unset, .unset, .unset, .unset, .unset, .unset, .unset, .unset, .unset, .unset, .unset, .unset, .unset] [(.int i0)]) from by rw [e_i0]]
  show Go p e below _ (s₁.setTop (mkF m 6 #[.val (.int ip), .val (.int iq), .val (.int ir), .val (.int is_), .val (.int im), .unset, .unset, .unset, .unset, .unset, .unset, .unset, .unset, .unset, .unset, .unset, .unset, .unset, .unset, .unset, .unset, .unset, .unset, .unset, .unset] [(.int i0)]))
  refine Go.by (fun t k => XS.istore X0.here hx rfl (hb hby at_6) rfl (l' := #[.val (.int ip), .val (.int iq), .val (.int ir), .val (.int is_), .val (.int im), .val (.int i0), .unset, .unset, .unset, .unset, .unset, .unset, .unset, .unset, .unset, .unset, .unset, .unset, .unset, .unset, .unset, .unset, .unset, .unset, .unset]) rfl k) ?_
  show Go p e below _ (s₁.setTop (mkF m 8 #[.val (.int ip), .val (.int iq), .val (.int ir), .val (.int is_), .val (.int im), .val (.int i0), .unset, .unset, .unset, .unset, .unset, .unset, .unset, .unset, .unset, .unset, .unset, .unset, .unset, .unset, .unset, .unset, .unset, .unset, .unset] []))
  refine Go.by (fun t k => XS.iloadN X0.here hx rfl (hb hby at_8) rfl k) ?_
  show Go p e below _ (s₁.setTop (mkF m 9 #[.val (.int ip), .val (.int iq), .val (.int ir), .val (.int is_), .val (.int im), .val (.int i0), .unset, .unset, .unset, .unset, .unset, .unset, .unset, .unset, .unset, .unset, .unset, .unset, .unset, .unset, .unset, .unset, .unset, .unset, .unset] [(.int ip)]))
  refine Go.by (fun t k => XS.bipush X0.here hx rfl (hb hby at_9) k) ?_
  show Go p e below _ (s₁.setTop (mkF m 11 #[.val (.int ip), .val (.int iq), .val (.int ir), .val (.int is_), .val (.int im), .val (.int i0), .unset, .unset, .unset, .unset, .unset, .unset, .unset, .unset, .unset, .unset, .unset, .unset, .unset, .unset, .unset, .unset, .unset, .unset, .unset] [(.int (8 : Int32)), (.int ip)]))
  refine Go.by (fun t k => XS.iushr X0.here hx rfl (hb hby at_11) rfl k) ?_
  show Go p e below _ (s₁.setTop (mkF m 12 #[.val (.int ip), .val (.int iq), .val (.int ir), .val (.int is_), .val (.int im), .val (.int i0), .unset, .unset, .unset, .unset, .unset, .unset, .unset, .unset, .unset, .unset, .unset, .unset, .unset, .unset, .unset, .unset, .unset, .unset, .unset] [(.int ((ip.toUInt32 >>> ((8 : Int32) &&& 31).toUInt32).toInt32))]))
  refine Go.by (fun t k => XS.sipush X0.here hx rfl (hb hby at_12) k) ?_
  show Go p e below _ (s₁.setTop (mkF m 15 #[.val (.int ip), .val (.int iq), .val (.int ir), .val (.int is_), .val (.int im), .val (.int i0), .unset, .unset, .unset, .unset, .unset, .unset, .unset, .unset, .unset, .unset, .unset, .unset, .unset, .unset, .unset, .unset, .unset, .unset, .unset] [(.int (255 : Int32)), (.int ((ip.toUInt32 >>> ((8 : Int32) &&& 31).toUInt32).toInt32))]))
  refine Go.by (fun t k => XS.iand X0.here hx rfl (hb hby at_15) rfl k) ?_
  show Go p e below _ (s₁.setTop (mkF m 16 #[.val (.int ip), .val (.int iq), .val (.int ir), .val (.int is_), .val (.int im), .val (.int i0), .unset, .unset, .unset, .unset, .unset, .unset, .unset, .unset, .unset, .unset, .unset, .unset, .unset, .unset, .unset, .unset, .unset, .unset, .unset] [(.int (((ip.toUInt32 >>> ((8 : Int32) &&& 31).toUInt32).toInt32) &&& (255 : Int32)))]))
  refine Go.by (fun t k => XS.i2c X0.here hx rfl (hb hby at_16) rfl k) ?_
  show Go p e below _ (s₁.setTop (mkF m 17 #[.val (.int ip), .val (.int iq), .val (.int ir), .val (.int is_), .val (.int im), .val (.int i0), .unset, .unset, .unset, .unset, .unset, .unset, .unset, .unset, .unset, .unset, .unset, .unset, .unset, .unset, .unset, .unset, .unset, .unset, .unset] [(.int ((((ip.toUInt32 >>> ((8 : Int32) &&& 31).toUInt32).toInt32) &&& (255 : Int32)).toUInt32.toUInt16.toUInt32.toInt32))]))
  obtain ⟨i1, e_i1⟩ : ∃ q : Int32, q = ((((ip.toUInt32 >>> ((8 : Int32) &&& 31).toUInt32).toInt32) &&& (255 : Int32)).toUInt32.toUInt16.toUInt32.toInt32) := ⟨_, rfl⟩
  have hi1 : 0 ≤ i1.toInt ∧ i1.toInt ≤ 255 := by rw [e_i1]; exact own_chA _
  rw [show s₁.setTop (mkF m 17 #[.val (.int ip), .val (.int iq), .val (.int ir), .val (.int is_), .val (.int im), .val (.int i0), .unset, .unset, .unset, .unset, .unset, .unset, .unset, .unset, .unset, .unset, .unset, .unset, .unset, .unset, .unset, .unset, .unset, .unset, .unset] [(.int ((((ip.toUInt32 >>> ((8 : Int32) &&& 31).toUInt32).toInt32) &&& (255 : Int32)).toUInt32.toUInt16.toUInt32.toInt32))]) = s₁.setTop (mkF m 17 #[.val (.int ip), .val (.int iq), .val (.int ir), .val (.int is_), .val (.int im), .val (.int i0), .unset, .unset, .unset, .unset, .unset, .unset, .unset, .unset, .unset, .unset, .unset, .unset, .unset, .unset, .unset, .unset, .unset, .unset, .unset] [(.int i1)]) from by rw [e_i1]]
  show Go p e below _ (s₁.setTop (mkF m 17 #[.val (.int ip), .val (.int iq), .val (.int ir), .val (.int is_), .val (.int im), .val (.int i0), .unset, .unset, .unset, .unset, .unset, .unset, .unset, .unset, .unset, .unset, .unset, .unset, .unset, .unset, .unset, .unset, .unset, .unset, .unset] [(.int i1)]))
  refine Go.by (fun t k => XS.istore X0.here hx rfl (hb hby at_17) rfl (l' := #[.val (.int ip), .val (.int iq), .val (.int ir), .val (.int is_), .val (.int im), .val (.int i0), .val (.int i1), .unset, .unset, .unset, .unset, .unset, .unset, .unset, .unset, .unset, .unset, .unset, .unset, .unset, .unset, .unset, .unset, .unset, .unset]) rfl k) ?_
  show Go p e below _ (s₁.setTop (mkF m 19 #[.val (.int ip), .val (.int iq), .val (.int ir), .val (.int is_), .val (.int im), .val (.int i0), .val (.int i1), .unset, .unset, .unset, .unset, .unset, .unset, .unset, .unset, .unset, .unset, .unset, .unset, .unset, .unset, .unset, .unset, .unset, .unset] []))
  refine Go.by (fun t k => XS.iloadN X0.here hx rfl (hb hby at_19) rfl k) ?_
  show Go p e below _ (s₁.setTop (mkF m 20 #[.val (.int ip), .val (.int iq), .val (.int ir), .val (.int is_), .val (.int im), .val (.int i0), .val (.int i1), .unset, .unset, .unset, .unset, .unset, .unset, .unset, .unset, .unset, .unset, .unset, .unset, .unset, .unset, .unset, .unset, .unset, .unset] [(.int iq)]))
  refine Go.by (fun t k => XS.sipush X0.here hx rfl (hb hby at_20) k) ?_
  show Go p e below _ (s₁.setTop (mkF m 23 #[.val (.int ip), .val (.int iq), .val (.int ir), .val (.int is_), .val (.int im), .val (.int i0), .val (.int i1), .unset, .unset, .unset, .unset, .unset, .unset, .unset, .unset, .unset, .unset, .unset, .unset, .unset, .unset, .unset, .unset, .unset, .unset] [(.int (255 : Int32)), (.int iq)]))
  refine Go.by (fun t k => XS.iand X0.here hx rfl (hb hby at_23) rfl k) ?_
  show Go p e below _ (s₁.setTop (mkF m 24 #[.val (.int ip), .val (.int iq), .val (.int ir), .val (.int is_), .val (.int im), .val (.int i0), .val (.int i1), .unset, .unset, .unset, .unset, .unset, .unset, .unset, .unset, .unset, .unset, .unset, .unset, .unset, .unset, .unset, .unset, .unset, .unset] [(.int (iq &&& (255 : Int32)))]))
  refine Go.by (fun t k => XS.i2c X0.here hx rfl (hb hby at_24) rfl k) ?_
  show Go p e below _ (s₁.setTop (mkF m 25 #[.val (.int ip), .val (.int iq), .val (.int ir), .val (.int is_), .val (.int im), .val (.int i0), .val (.int i1), .unset, .unset, .unset, .unset, .unset, .unset, .unset, .unset, .unset, .unset, .unset, .unset, .unset, .unset, .unset, .unset, .unset, .unset] [(.int ((iq &&& (255 : Int32)).toUInt32.toUInt16.toUInt32.toInt32))]))
  obtain ⟨u0, e_u0⟩ : ∃ q : Int32, q = ((iq &&& (255 : Int32)).toUInt32.toUInt16.toUInt32.toInt32) := ⟨_, rfl⟩
  have hu0 : 0 ≤ u0.toInt ∧ u0.toInt ≤ 255 := by rw [e_u0]; exact own_chA _
  rw [show s₁.setTop (mkF m 25 #[.val (.int ip), .val (.int iq), .val (.int ir), .val (.int is_), .val (.int im), .val (.int i0), .val (.int i1), .unset, .unset, .unset, .unset, .unset, .unset, .unset, .unset, .unset, .unset, .unset, .unset, .unset, .unset, .unset, .unset, .unset, .unset] [(.int ((iq &&& (255 : Int32)).toUInt32.toUInt16.toUInt32.toInt32))]) = s₁.setTop (mkF m 25 #[.val (.int ip), .val (.int iq), .val (.int ir), .val (.int is_), .val (.int im), .val (.int i0), .val (.int i1), .unset, .unset, .unset, .unset, .unset, .unset, .unset, .unset, .unset, .unset, .unset, .unset, .unset, .unset, .unset, .unset, .unset, .unset] [(.int u0)]) from by rw [e_u0]]
  show Go p e below _ (s₁.setTop (mkF m 25 #[.val (.int ip), .val (.int iq), .val (.int ir), .val (.int is_), .val (.int im), .val (.int i0), .val (.int i1), .unset, .unset, .unset, .unset, .unset, .unset, .unset, .unset, .unset, .unset, .unset, .unset, .unset, .unset, .unset, .unset, .unset, .unset] [(.int u0)]))
  refine Go.by (fun t k => XS.istore X0.here hx rfl (hb hby at_25) rfl (l' := #[.val (.int ip), .val (.int iq), .val (.int ir), .val (.int is_), .val (.int im), .val (.int i0), .val (.int i1), .val (.int u0), .unset, .unset, .unset, .unset, .unset, .unset, .unset, .unset, .unset, .unset, .unset, .unset, .unset, .unset, .unset, .unset, .unset]) rfl k) ?_
  show Go p e below _ (s₁.setTop (mkF m 27 #[.val (.int ip), .val (.int iq), .val (.int ir), .val (.int is_), .val (.int im), .val (.int i0), .val (.int i1), .val (.int u0), .unset, .unset, .unset, .unset, .unset, .unset, .unset, .unset, .unset, .unset, .unset, .unset, .unset, .unset, .unset, .unset, .unset] []))
  refine Go.by (fun t k => XS.iloadN X0.here hx rfl (hb hby at_27) rfl k) ?_
  show Go p e below _ (s₁.setTop (mkF m 28 #[.val (.int ip), .val (.int iq), .val (.int ir), .val (.int is_), .val (.int im), .val (.int i0), .val (.int i1), .val (.int u0), .unset, .unset, .unset, .unset, .unset, .unset, .unset, .unset, .unset, .unset, .unset, .unset, .unset, .unset, .unset, .unset, .unset] [(.int iq)]))
  refine Go.by (fun t k => XS.bipush X0.here hx rfl (hb hby at_28) k) ?_
  show Go p e below _ (s₁.setTop (mkF m 30 #[.val (.int ip), .val (.int iq), .val (.int ir), .val (.int is_), .val (.int im), .val (.int i0), .val (.int i1), .val (.int u0), .unset, .unset, .unset, .unset, .unset, .unset, .unset, .unset, .unset, .unset, .unset, .unset, .unset, .unset, .unset, .unset, .unset] [(.int (8 : Int32)), (.int iq)]))
  refine Go.by (fun t k => XS.iushr X0.here hx rfl (hb hby at_30) rfl k) ?_
  show Go p e below _ (s₁.setTop (mkF m 31 #[.val (.int ip), .val (.int iq), .val (.int ir), .val (.int is_), .val (.int im), .val (.int i0), .val (.int i1), .val (.int u0), .unset, .unset, .unset, .unset, .unset, .unset, .unset, .unset, .unset, .unset, .unset, .unset, .unset, .unset, .unset, .unset, .unset] [(.int ((iq.toUInt32 >>> ((8 : Int32) &&& 31).toUInt32).toInt32))]))
  refine Go.by (fun t k => XS.sipush X0.here hx rfl (hb hby at_31) k) ?_
  show Go p e below _ (s₁.setTop (mkF m 34 #[.val (.int ip), .val (.int iq), .val (.int ir), .val (.int is_), .val (.int im), .val (.int i0), .val (.int i1), .val (.int u0), .unset, .unset, .unset, .unset, .unset, .unset, .unset, .unset, .unset, .unset, .unset, .unset, .unset, .unset, .unset, .unset, .unset] [(.int (255 : Int32)), (.int ((iq.toUInt32 >>> ((8 : Int32) &&& 31).toUInt32).toInt32))]))
  refine Go.by (fun t k => XS.iand X0.here hx rfl (hb hby at_34) rfl k) ?_
  show Go p e below _ (s₁.setTop (mkF m 35 #[.val (.int ip), .val (.int iq), .val (.int ir), .val (.int is_), .val (.int im), .val (.int i0), .val (.int i1), .val (.int u0), .unset, .unset, .unset, .unset, .unset, .unset, .unset, .unset, .unset, .unset, .unset, .unset, .unset, .unset, .unset, .unset, .unset] [(.int (((iq.toUInt32 >>> ((8 : Int32) &&& 31).toUInt32).toInt32) &&& (255 : Int32)))]))
  refine Go.by (fun t k => XS.i2c X0.here hx rfl (hb hby at_35) rfl k) ?_
  show Go p e below _ (s₁.setTop (mkF m 36 #[.val (.int ip), .val (.int iq), .val (.int ir), .val (.int is_), .val (.int im), .val (.int i0), .val (.int i1), .val (.int u0), .unset, .unset, .unset, .unset, .unset, .unset, .unset, .unset, .unset, .unset, .unset, .unset, .unset, .unset, .unset, .unset, .unset] [(.int ((((iq.toUInt32 >>> ((8 : Int32) &&& 31).toUInt32).toInt32) &&& (255 : Int32)).toUInt32.toUInt16.toUInt32.toInt32))]))
  obtain ⟨u1, e_u1⟩ : ∃ q : Int32, q = ((((iq.toUInt32 >>> ((8 : Int32) &&& 31).toUInt32).toInt32) &&& (255 : Int32)).toUInt32.toUInt16.toUInt32.toInt32) := ⟨_, rfl⟩
  have hu1 : 0 ≤ u1.toInt ∧ u1.toInt ≤ 255 := by rw [e_u1]; exact own_chA _
  rw [show s₁.setTop (mkF m 36 #[.val (.int ip), .val (.int iq), .val (.int ir), .val (.int is_), .val (.int im), .val (.int i0), .val (.int i1), .val (.int u0), .unset, .unset, .unset, .unset, .unset, .unset, .unset, .unset, .unset, .unset, .unset, .unset, .unset, .unset, .unset, .unset, .unset] [(.int ((((iq.toUInt32 >>> ((8 : Int32) &&& 31).toUInt32).toInt32) &&& (255 : Int32)).toUInt32.toUInt16.toUInt32.toInt32))]) = s₁.setTop (mkF m 36 #[.val (.int ip), .val (.int iq), .val (.int ir), .val (.int is_), .val (.int im), .val (.int i0), .val (.int i1), .val (.int u0), .unset, .unset, .unset, .unset, .unset, .unset, .unset, .unset, .unset, .unset, .unset, .unset, .unset, .unset, .unset, .unset, .unset] [(.int u1)]) from by rw [e_u1]]
  show Go p e below _ (s₁.setTop (mkF m 36 #[.val (.int ip), .val (.int iq), .val (.int ir), .val (.int is_), .val (.int im), .val (.int i0), .val (.int i1), .val (.int u0), .unset, .unset, .unset, .unset, .unset, .unset, .unset, .unset, .unset, .unset, .unset, .unset, .unset, .unset, .unset, .unset, .unset] [(.int u1)]))
  refine Go.by (fun t k => XS.istore X0.here hx rfl (hb hby at_36) rfl (l' := #[.val (.int ip), .val (.int iq), .val (.int ir), .val (.int is_), .val (.int im), .val (.int i0), .val (.int i1), .val (.int u0), .val (.int u1), .unset, .unset, .unset, .unset, .unset, .unset, .unset, .unset, .unset, .unset, .unset, .unset, .unset, .unset, .unset, .unset]) rfl k) ?_
  show Go p e below _ (s₁.setTop (mkF m 38 #[.val (.int ip), .val (.int iq), .val (.int ir), .val (.int is_), .val (.int im), .val (.int i0), .val (.int i1), .val (.int u0), .val (.int u1), .unset, .unset, .unset, .unset, .unset, .unset, .unset, .unset, .unset, .unset, .unset, .unset, .unset, .unset, .unset, .unset] []))
  refine Go.by (fun t k => XS.iload X0.here hx rfl (hb hby at_38) rfl k) ?_
  show Go p e below _ (s₁.setTop (mkF m 40 #[.val (.int ip), .val (.int iq), .val (.int ir), .val (.int is_), .val (.int im), .val (.int i0), .val (.int i1), .val (.int u0), .val (.int u1), .unset, .unset, .unset, .unset, .unset, .unset, .unset, .unset, .unset, .unset, .unset, .unset, .unset, .unset, .unset, .unset] [(.int im)]))
  refine Go.by (fun t k => XS.iconst X0.here hx rfl (hb hby at_40) k) ?_
  show Go p e below _ (s₁.setTop (mkF m 41 #[.val (.int ip), .val (.int iq), .val (.int ir), .val (.int is_), .val (.int im), .val (.int i0), .val (.int i1), .val (.int u0), .val (.int u1), .unset, .unset, .unset, .unset, .unset, .unset, .unset, .unset, .unset, .unset, .unset, .unset, .unset, .unset, .unset, .unset] [(.int (3 : Int32)), (.int im)]))
  refine Go.by (fun t k => XS.iand X0.here hx rfl (hb hby at_41) rfl k) ?_
  show Go p e below _ (s₁.setTop (mkF m 42 #[.val (.int ip), .val (.int iq), .val (.int ir), .val (.int is_), .val (.int im), .val (.int i0), .val (.int i1), .val (.int u0), .val (.int u1), .unset, .unset, .unset, .unset, .unset, .unset, .unset, .unset, .unset, .unset, .unset, .unset, .unset, .unset, .unset, .unset] [(.int (im &&& (3 : Int32)))]))
  refine Go.by (fun t k => XS.iconst X0.here hx rfl (hb hby at_42) k) ?_
  show Go p e below _ (s₁.setTop (mkF m 43 #[.val (.int ip), .val (.int iq), .val (.int ir), .val (.int is_), .val (.int im), .val (.int i0), .val (.int i1), .val (.int u0), .val (.int u1), .unset, .unset, .unset, .unset, .unset, .unset, .unset, .unset, .unset, .unset, .unset, .unset, .unset, .unset, .unset, .unset] [(.int (3 : Int32)), (.int (im &&& (3 : Int32)))]))
  refine Go.by (fun t k => iremM X0 hx rfl (hb hby at_43) rfl (by decide) k) ?_
  show Go p e below _ (s₁.setTop (mkF m 44 #[.val (.int ip), .val (.int iq), .val (.int ir), .val (.int is_), .val (.int im), .val (.int i0), .val (.int i1), .val (.int u0), .val (.int u1), .unset, .unset, .unset, .unset, .unset, .unset, .unset, .unset, .unset, .unset, .unset, .unset, .unset, .unset, .unset, .unset] [(.int ((im &&& (3 : Int32)) % (3 : Int32)))]))
  obtain ⟨li, e_li⟩ : ∃ q : Int32, q = ((im &&& (3 : Int32)) % (3 : Int32)) := ⟨_, rfl⟩
  have hli : li = (0 : Int32) ∨ li = (1 : Int32) ∨ li = (2 : Int32) := by rw [e_li]; exact own_md3 _
  rw [show s₁.setTop (mkF m 44 #[.val (.int ip), .val (.int iq), .val (.int ir), .val (.int is_), .val (.int im), .val (.int i0), .val (.int i1), .val (.int u0), .val (.int u1), .unset, .unset, .unset, .unset, .unset, .unset, .unset, .unset, .unset, .unset, .unset, .unset, .unset, .unset, .unset, .unset] [(.int ((im &&& (3 : Int32)) % (3 : Int32)))]) = s₁.setTop (mkF m 44 #[.val (.int ip), .val (.int iq), .val (.int ir), .val (.int is_), .val (.int im), .val (.int i0), .val (.int i1), .val (.int u0), .val (.int u1), .unset, .unset, .unset, .unset, .unset, .unset, .unset, .unset, .unset, .unset, .unset, .unset, .unset, .unset, .unset, .unset] [(.int li)]) from by rw [e_li]]
  show Go p e below _ (s₁.setTop (mkF m 44 #[.val (.int ip), .val (.int iq), .val (.int ir), .val (.int is_), .val (.int im), .val (.int i0), .val (.int i1), .val (.int u0), .val (.int u1), .unset, .unset, .unset, .unset, .unset, .unset, .unset, .unset, .unset, .unset, .unset, .unset, .unset, .unset, .unset, .unset] [(.int li)]))
  refine Go.by (fun t k => XS.istore X0.here hx rfl (hb hby at_44) rfl (l' := #[.val (.int ip), .val (.int iq), .val (.int ir), .val (.int is_), .val (.int im), .val (.int i0), .val (.int i1), .val (.int u0), .val (.int u1), .val (.int li), .unset, .unset, .unset, .unset, .unset, .unset, .unset, .unset, .unset, .unset, .unset, .unset, .unset, .unset, .unset]) rfl k) ?_
  show Go p e below _ (s₁.setTop (mkF m 46 #[.val (.int ip), .val (.int iq), .val (.int ir), .val (.int is_), .val (.int im), .val (.int i0), .val (.int i1), .val (.int u0), .val (.int u1), .val (.int li), .unset, .unset, .unset, .unset, .unset, .unset, .unset, .unset, .unset, .unset, .unset, .unset, .unset, .unset, .unset] []))
  refine Go.by (fun t k => XS.iload X0.here hx rfl (hb hby at_46) rfl k) ?_
  show Go p e below _ (s₁.setTop (mkF m 48 #[.val (.int ip), .val (.int iq), .val (.int ir), .val (.int is_), .val (.int im), .val (.int i0), .val (.int i1), .val (.int u0), .val (.int u1), .val (.int li), .unset, .unset, .unset, .unset, .unset, .unset, .unset, .unset, .unset, .unset, .unset, .unset, .unset, .unset, .unset] [(.int im)]))
  refine Go.by (fun t k => XS.iconst X0.here hx rfl (hb hby at_48) k) ?_
  show Go p e below _ (s₁.setTop (mkF m 49 #[.val (.int ip), .val (.int iq), .val (.int ir), .val (.int is_), .val (.int im), .val (.int i0), .val (.int i1), .val (.int u0), .val (.int u1), .val (.int li), .unset, .unset, .unset, .unset, .unset, .unset, .unset, .unset, .unset, .unset, .unset, .unset, .unset, .unset, .unset] [(.int (2 : Int32)), (.int im)]))
  refine Go.by (fun t k => XS.iushr X0.here hx rfl (hb hby at_49) rfl k) ?_
  show Go p e below _ (s₁.setTop (mkF m 50 #[.val (.int ip), .val (.int iq), .val (.int ir), .val (.int is_), .val (.int im), .val (.int i0), .val (.int i1), .val (.int u0), .val (.int u1), .val (.int li), .unset, .unset, .unset, .unset, .unset, .unset, .unset, .unset, .unset, .unset, .unset, .unset, .unset, .unset, .unset] [(.int ((im.toUInt32 >>> ((2 : Int32) &&& 31).toUInt32).toInt32))]))
  refine Go.by (fun t k => XS.iconst X0.here hx rfl (hb hby at_50) k) ?_
  show Go p e below _ (s₁.setTop (mkF m 51 #[.val (.int ip), .val (.int iq), .val (.int ir), .val (.int is_), .val (.int im), .val (.int i0), .val (.int i1), .val (.int u0), .val (.int u1), .val (.int li), .unset, .unset, .unset, .unset, .unset, .unset, .unset, .unset, .unset, .unset, .unset, .unset, .unset, .unset, .unset] [(.int (3 : Int32)), (.int ((im.toUInt32 >>> ((2 : Int32) &&& 31).toUInt32).toInt32))]))
  refine Go.by (fun t k => XS.iand X0.here hx rfl (hb hby at_51) rfl k) ?_
  show Go p e below _ (s₁.setTop (mkF m 52 #[.val (.int ip), .val (.int iq), .val (.int ir), .val (.int is_), .val (.int im), .val (.int i0), .val (.int i1), .val (.int u0), .val (.int u1), .val (.int li), .unset, .unset, .unset, .unset, .unset, .unset, .unset, .unset, .unset, .unset, .unset, .unset, .unset, .unset, .unset] [(.int (((im.toUInt32 >>> ((2 : Int32) &&& 31).toUInt32).toInt32) &&& (3 : Int32)))]))
  refine Go.by (fun t k => XS.iconst X0.here hx rfl (hb hby at_52) k) ?_
  show Go p e below _ (s₁.setTop (mkF m 53 #[.val (.int ip), .val (.int iq), .val (.int ir), .val (.int is_), .val (.int im), .val (.int i0), .val (.int i1), .val (.int u0), .val (.int u1), .val (.int li), .unset, .unset, .unset, .unset, .unset, .unset, .unset, .unset, .unset, .unset, .unset, .unset, .unset, .unset, .unset] [(.int (3 : Int32)), (.int (((im.toUInt32 >>> ((2 : Int32) &&& 31).toUInt32).toInt32) &&& (3 : Int32)))]))
  refine Go.by (fun t k => iremM X0 hx rfl (hb hby at_53) rfl (by decide) k) ?_
  show Go p e below _ (s₁.setTop (mkF m 54 #[.val (.int ip), .val (.int iq), .val (.int ir), .val (.int is_), .val (.int im), .val (.int i0), .val (.int i1), .val (.int u0), .val (.int u1), .val (.int li), .unset, .unset, .unset, .unset, .unset, .unset, .unset, .unset, .unset, .unset, .unset, .unset, .unset, .unset, .unset] [(.int ((((im.toUInt32 >>> ((2 : Int32) &&& 31).toUInt32).toInt32) &&& (3 : Int32)) % (3 : Int32)))]))
  obtain ⟨lu, e_lu⟩ : ∃ q : Int32, q = ((((im.toUInt32 >>> ((2 : Int32) &&& 31).toUInt32).toInt32) &&& (3 : Int32)) % (3 : Int32)) := ⟨_, rfl⟩
  have hlu : lu = (0 : Int32) ∨ lu = (1 : Int32) ∨ lu = (2 : Int32) := by rw [e_lu]; exact own_md3 _
  rw [show s₁.setTop (mkF m 54 #[.val (.int ip), .val (.int iq), .val (.int ir), .val (.int is_), .val (.int im), .val (.int i0), .val (.int i1), .val (.int u0), .val (.int u1), .val (.int li), .unset, .unset, .unset, .unset, .unset, .unset, .unset, .unset, .unset, .unset, .unset, .unset, .unset, .unset, .unset] [(.int ((((im.toUInt32 >>> ((2 : Int32) &&& 31).toUInt32).toInt32) &&& (3 : Int32)) % (3 : Int32)))]) = s₁.setTop (mkF m 54 #[.val (.int ip), .val (.int iq), .val (.int ir), .val (.int is_), .val (.int im), .val (.int i0), .val (.int i1), .val (.int u0), .val (.int u1), .val (.int li), .unset, .unset, .unset, .unset, .unset, .unset, .unset, .unset, .unset, .unset, .unset, .unset, .unset, .unset, .unset] [(.int lu)]) from by rw [e_lu]]
  show Go p e below _ (s₁.setTop (mkF m 54 #[.val (.int ip), .val (.int iq), .val (.int ir), .val (.int is_), .val (.int im), .val (.int i0), .val (.int i1), .val (.int u0), .val (.int u1), .val (.int li), .unset, .unset, .unset, .unset, .unset, .unset, .unset, .unset, .unset, .unset, .unset, .unset, .unset, .unset, .unset] [(.int lu)]))
  refine Go.by (fun t k => XS.istore X0.here hx rfl (hb hby at_54) rfl (l' := #[.val (.int ip), .val (.int iq), .val (.int ir), .val (.int is_), .val (.int im), .val (.int i0), .val (.int i1), .val (.int u0), .val (.int u1), .val (.int li), .val (.int lu), .unset, .unset, .unset, .unset, .unset, .unset, .unset, .unset, .unset, .unset, .unset, .unset, .unset, .unset]) rfl k) ?_
  show Go p e below _ (s₁.setTop (mkF m 56 #[.val (.int ip), .val (.int iq), .val (.int ir), .val (.int is_), .val (.int im), .val (.int i0), .val (.int i1), .val (.int u0), .val (.int u1), .val (.int li), .val (.int lu), .unset, .unset, .unset, .unset, .unset, .unset, .unset, .unset, .unset, .unset, .unset, .unset, .unset, .unset] []))
  refine Go.by (fun t k => XS.iload X0.here hx rfl (hb hby at_56) rfl k) ?_
  show Go p e below _ (s₁.setTop (mkF m 58 #[.val (.int ip), .val (.int iq), .val (.int ir), .val (.int is_), .val (.int im), .val (.int i0), .val (.int i1), .val (.int u0), .val (.int u1), .val (.int li), .val (.int lu), .unset, .unset, .unset, .unset, .unset, .unset, .unset, .unset, .unset, .unset, .unset, .unset, .unset, .unset] [(.int im)]))
  refine Go.by (fun t k => XS.iconst X0.here hx rfl (hb hby at_58) k) ?_
  show Go p e below _ (s₁.setTop (mkF m 59 #[.val (.int ip), .val (.int iq), .val (.int ir), .val (.int is_), .val (.int im), .val (.int i0), .val (.int i1), .val (.int u0), .val (.int u1), .val (.int li), .val (.int lu), .unset, .unset, .unset, .unset, .unset, .unset, .unset, .unset, .unset, .unset, .unset, .unset, .unset, .unset] [(.int (4 : Int32)), (.int im)]))
  refine Go.by (fun t k => XS.iushr X0.here hx rfl (hb hby at_59) rfl k) ?_
  show Go p e below _ (s₁.setTop (mkF m 60 #[.val (.int ip), .val (.int iq), .val (.int ir), .val (.int is_), .val (.int im), .val (.int i0), .val (.int i1), .val (.int u0), .val (.int u1), .val (.int li), .val (.int lu), .unset, .unset, .unset, .unset, .unset, .unset, .unset, .unset, .unset, .unset, .unset, .unset, .unset, .unset] [(.int ((im.toUInt32 >>> ((4 : Int32) &&& 31).toUInt32).toInt32))]))
  refine Go.by (fun t k => XS.iconst X0.here hx rfl (hb hby at_60) k) ?_
  show Go p e below _ (s₁.setTop (mkF m 61 #[.val (.int ip), .val (.int iq), .val (.int ir), .val (.int is_), .val (.int im), .val (.int i0), .val (.int i1), .val (.int u0), .val (.int u1), .val (.int li), .val (.int lu), .unset, .unset, .unset, .unset, .unset, .unset, .unset, .unset, .unset, .unset, .unset, .unset, .unset, .unset] [(.int (1 : Int32)), (.int ((im.toUInt32 >>> ((4 : Int32) &&& 31).toUInt32).toInt32))]))
  refine Go.by (fun t k => XS.iand X0.here hx rfl (hb hby at_61) rfl k) ?_
  show Go p e below _ (s₁.setTop (mkF m 62 #[.val (.int ip), .val (.int iq), .val (.int ir), .val (.int is_), .val (.int im), .val (.int i0), .val (.int i1), .val (.int u0), .val (.int u1), .val (.int li), .val (.int lu), .unset, .unset, .unset, .unset, .unset, .unset, .unset, .unset, .unset, .unset, .unset, .unset, .unset, .unset] [(.int (((im.toUInt32 >>> ((4 : Int32) &&& 31).toUInt32).toInt32) &&& (1 : Int32)))]))
  have J70 : ∀ (j_sc : Int32) , Go p e below (fun o U' => ∃ v L, o = .returned v ∧ Q_law Z ip iq ir is_ im cs h0 n0 v U'.heap L ∧ CHr Z own_EL s.vm s.heap U'.vm U'.heap ∧ ReturnedEndW s o U' L room_1.cells room_1.slots) (s₁.setTop (mkF m 70 #[.val (.int ip), .val (.int iq), .val (.int ir), .val (.int is_), .val (.int im), .val (.int i0), .val (.int i1), .val (.int u0), .val (.int u1), .val (.int li), .val (.int lu), .unset, .unset, .unset, .unset, .unset, .unset, .unset, .unset, .unset, .unset, .unset, .unset, .unset, .unset] [(.int j_sc)])) := by
    intro j_sc 
    show Go p e below _ (s₁.setTop (mkF m 70 #[.val (.int ip), .val (.int iq), .val (.int ir), .val (.int is_), .val (.int im), .val (.int i0), .val (.int i1), .val (.int u0), .val (.int u1), .val (.int li), .val (.int lu), .unset, .unset, .unset, .unset, .unset, .unset, .unset, .unset, .unset, .unset, .unset, .unset, .unset, .unset] [(.int j_sc)]))
    refine Go.by (fun t k => XS.istore X0.here hx rfl (hb hby at_70) rfl (l' := #[.val (.int ip), .val (.int iq), .val (.int ir), .val (.int is_), .val (.int im), .val (.int i0), .val (.int i1), .val (.int u0), .val (.int u1), .val (.int li), .val (.int lu), .val (.int j_sc), .unset, .unset, .unset, .unset, .unset, .unset, .unset, .unset, .unset, .unset, .unset, .unset, .unset]) rfl k) ?_
    show Go p e below _ (s₁.setTop (mkF m 72 #[.val (.int ip), .val (.int iq), .val (.int ir), .val (.int is_), .val (.int im), .val (.int i0), .val (.int i1), .val (.int u0), .val (.int u1), .val (.int li), .val (.int lu), .val (.int j_sc), .unset, .unset, .unset, .unset, .unset, .unset, .unset, .unset, .unset, .unset, .unset, .unset, .unset] []))
    refine Go.by (fun t k => XS.iload X0.here hx rfl (hb hby at_72) rfl k) ?_
    show Go p e below _ (s₁.setTop (mkF m 74 #[.val (.int ip), .val (.int iq), .val (.int ir), .val (.int is_), .val (.int im), .val (.int i0), .val (.int i1), .val (.int u0), .val (.int u1), .val (.int li), .val (.int lu), .val (.int j_sc), .unset, .unset, .unset, .unset, .unset, .unset, .unset, .unset, .unset, .unset, .unset, .unset, .unset] [(.int im)]))
    refine Go.by (fun t k => XS.iconst X0.here hx rfl (hb hby at_74) k) ?_
    show Go p e below _ (s₁.setTop (mkF m 75 #[.val (.int ip), .val (.int iq), .val (.int ir), .val (.int is_), .val (.int im), .val (.int i0), .val (.int i1), .val (.int u0), .val (.int u1), .val (.int li), .val (.int lu), .val (.int j_sc), .unset, .unset, .unset, .unset, .unset, .unset, .unset, .unset, .unset, .unset, .unset, .unset, .unset] [(.int (5 : Int32)), (.int im)]))
    refine Go.by (fun t k => XS.iushr X0.here hx rfl (hb hby at_75) rfl k) ?_
    show Go p e below _ (s₁.setTop (mkF m 76 #[.val (.int ip), .val (.int iq), .val (.int ir), .val (.int is_), .val (.int im), .val (.int i0), .val (.int i1), .val (.int u0), .val (.int u1), .val (.int li), .val (.int lu), .val (.int j_sc), .unset, .unset, .unset, .unset, .unset, .unset, .unset, .unset, .unset, .unset, .unset, .unset, .unset] [(.int ((im.toUInt32 >>> ((5 : Int32) &&& 31).toUInt32).toInt32))]))
    refine Go.by (fun t k => XS.iconst X0.here hx rfl (hb hby at_76) k) ?_
    show Go p e below _ (s₁.setTop (mkF m 77 #[.val (.int ip), .val (.int iq), .val (.int ir), .val (.int is_), .val (.int im), .val (.int i0), .val (.int i1), .val (.int u0), .val (.int u1), .val (.int li), .val (.int lu), .val (.int j_sc), .unset, .unset, .unset, .unset, .unset, .unset, .unset, .unset, .unset, .unset, .unset, .unset, .unset] [(.int (1 : Int32)), (.int ((im.toUInt32 >>> ((5 : Int32) &&& 31).toUInt32).toInt32))]))
    refine Go.by (fun t k => XS.iand X0.here hx rfl (hb hby at_77) rfl k) ?_
    show Go p e below _ (s₁.setTop (mkF m 78 #[.val (.int ip), .val (.int iq), .val (.int ir), .val (.int is_), .val (.int im), .val (.int i0), .val (.int i1), .val (.int u0), .val (.int u1), .val (.int li), .val (.int lu), .val (.int j_sc), .unset, .unset, .unset, .unset, .unset, .unset, .unset, .unset, .unset, .unset, .unset, .unset, .unset] [(.int (((im.toUInt32 >>> ((5 : Int32) &&& 31).toUInt32).toInt32) &&& (1 : Int32)))]))
    have J86 : ∀ (j_sl : Int32) , Go p e below (fun o U' => ∃ v L, o = .returned v ∧ Q_law Z ip iq ir is_ im cs h0 n0 v U'.heap L ∧ CHr Z own_EL s.vm s.heap U'.vm U'.heap ∧ ReturnedEndW s o U' L room_1.cells room_1.slots) (s₁.setTop (mkF m 86 #[.val (.int ip), .val (.int iq), .val (.int ir), .val (.int is_), .val (.int im), .val (.int i0), .val (.int i1), .val (.int u0), .val (.int u1), .val (.int li), .val (.int lu), .val (.int j_sc), .unset, .unset, .unset, .unset, .unset, .unset, .unset, .unset, .unset, .unset, .unset, .unset, .unset] [(.int j_sl)])) := by
      intro j_sl 
      show Go p e below _ (s₁.setTop (mkF m 86 #[.val (.int ip), .val (.int iq), .val (.int ir), .val (.int is_), .val (.int im), .val (.int i0), .val (.int i1), .val (.int u0), .val (.int u1), .val (.int li), .val (.int lu), .val (.int j_sc), .unset, .unset, .unset, .unset, .unset, .unset, .unset, .unset, .unset, .unset, .unset, .unset, .unset] [(.int j_sl)]))
      refine Go.by (fun t k => XS.istore X0.here hx rfl (hb hby at_86) rfl (l' := #[.val (.int ip), .val (.int iq), .val (.int ir), .val (.int is_), .val (.int im), .val (.int i0), .val (.int i1), .val (.int u0), .val (.int u1), .val (.int li), .val (.int lu), .val (.int j_sc), .val (.int j_sl), .unset, .unset, .unset, .unset, .unset, .unset, .unset, .unset, .unset, .unset, .unset, .unset]) rfl k) ?_
      show Go p e below _ (s₁.setTop (mkF m 88 #[.val (.int ip), .val (.int iq), .val (.int ir), .val (.int is_), .val (.int im), .val (.int i0), .val (.int i1), .val (.int u0), .val (.int u1), .val (.int li), .val (.int lu), .val (.int j_sc), .val (.int j_sl), .unset, .unset, .unset, .unset, .unset, .unset, .unset, .unset, .unset, .unset, .unset, .unset] []))
      refine Go.by (fun t k => XS.iload X0.here hx rfl (hb hby at_88) rfl k) ?_
      show Go p e below _ (s₁.setTop (mkF m 90 #[.val (.int ip), .val (.int iq), .val (.int ir), .val (.int is_), .val (.int im), .val (.int i0), .val (.int i1), .val (.int u0), .val (.int u1), .val (.int li), .val (.int lu), .val (.int j_sc), .val (.int j_sl), .unset, .unset, .unset, .unset, .unset, .unset, .unset, .unset, .unset, .unset, .unset, .unset] [(.int j_sc)]))
      have J104 : ∀ (j_j0 : Int32) (hj_j0 : 0 ≤ j_j0.toInt ∧ j_j0.toInt ≤ 255), Go p e below (fun o U' => ∃ v L, o = .returned v ∧ Q_law Z ip iq ir is_ im cs h0 n0 v U'.heap L ∧ CHr Z own_EL s.vm s.heap U'.vm U'.heap ∧ ReturnedEndW s o U' L room_1.cells room_1.slots) (s₁.setTop (mkF m 104 #[.val (.int ip), .val (.int iq), .val (.int ir), .val (.int is_), .val (.int im), .val (.int i0), .val (.int i1), .val (.int u0), .val (.int u1), .val (.int li), .val (.int lu), .val (.int j_sc), .val (.int j_sl), .unset, .unset, .unset, .unset, .unset, .unset, .unset, .unset, .unset, .unset, .unset, .unset] [(.int j_j0)])) := by
        intro j_j0 hj_j0
        show Go p e below _ (s₁.setTop (mkF m 104 #[.val (.int ip), .val (.int iq), .val (.int ir), .val (.int is_), .val (.int im), .val (.int i0), .val (.int i1), .val (.int u0), .val (.int u1), .val (.int li), .val (.int lu), .val (.int j_sc), .val (.int j_sl), .unset, .unset, .unset, .unset, .unset, .unset, .unset, .unset, .unset, .unset, .unset, .unset] [(.int j_j0)]))
        refine Go.by (fun t k => XS.istore X0.here hx rfl (hb hby at_104) rfl (l' := #[.val (.int ip), .val (.int iq), .val (.int ir), .val (.int is_), .val (.int im), .val (.int i0), .val (.int i1), .val (.int u0), .val (.int u1), .val (.int li), .val (.int lu), .val (.int j_sc), .val (.int j_sl), .val (.int j_j0), .unset, .unset, .unset, .unset, .unset, .unset, .unset, .unset, .unset, .unset, .unset]) rfl k) ?_
        show Go p e below _ (s₁.setTop (mkF m 106 #[.val (.int ip), .val (.int iq), .val (.int ir), .val (.int is_), .val (.int im), .val (.int i0), .val (.int i1), .val (.int u0), .val (.int u1), .val (.int li), .val (.int lu), .val (.int j_sc), .val (.int j_sl), .val (.int j_j0), .unset, .unset, .unset, .unset, .unset, .unset, .unset, .unset, .unset, .unset, .unset] []))
        refine Go.by (fun t k => XS.iload X0.here hx rfl (hb hby at_106) rfl k) ?_
        show Go p e below _ (s₁.setTop (mkF m 108 #[.val (.int ip), .val (.int iq), .val (.int ir), .val (.int is_), .val (.int im), .val (.int i0), .val (.int i1), .val (.int u0), .val (.int u1), .val (.int li), .val (.int lu), .val (.int j_sc), .val (.int j_sl), .val (.int j_j0), .unset, .unset, .unset, .unset, .unset, .unset, .unset, .unset, .unset, .unset, .unset] [(.int j_sc)]))
        have J125 : ∀ (j_j1 : Int32) (hj_j1 : 0 ≤ j_j1.toInt ∧ j_j1.toInt ≤ 255), Go p e below (fun o U' => ∃ v L, o = .returned v ∧ Q_law Z ip iq ir is_ im cs h0 n0 v U'.heap L ∧ CHr Z own_EL s.vm s.heap U'.vm U'.heap ∧ ReturnedEndW s o U' L room_1.cells room_1.slots) (s₁.setTop (mkF m 125 #[.val (.int ip), .val (.int iq), .val (.int ir), .val (.int is_), .val (.int im), .val (.int i0), .val (.int i1), .val (.int u0), .val (.int u1), .val (.int li), .val (.int lu), .val (.int j_sc), .val (.int j_sl), .val (.int j_j0), .unset, .unset, .unset, .unset, .unset, .unset, .unset, .unset, .unset, .unset, .unset] [(.int j_j1)])) := by
          intro j_j1 hj_j1
          show Go p e below _ (s₁.setTop (mkF m 125 #[.val (.int ip), .val (.int iq), .val (.int ir), .val (.int is_), .val (.int im), .val (.int i0), .val (.int i1), .val (.int u0), .val (.int u1), .val (.int li), .val (.int lu), .val (.int j_sc), .val (.int j_sl), .val (.int j_j0), .unset, .unset, .unset, .unset, .unset, .unset, .unset, .unset, .unset, .unset, .unset] [(.int j_j1)]))
          refine Go.by (fun t k => XS.istore X0.here hx rfl (hb hby at_125) rfl (l' := #[.val (.int ip), .val (.int iq), .val (.int ir), .val (.int is_), .val (.int im), .val (.int i0), .val (.int i1), .val (.int u0), .val (.int u1), .val (.int li), .val (.int lu), .val (.int j_sc), .val (.int j_sl), .val (.int j_j0), .val (.int j_j1), .unset, .unset, .unset, .unset, .unset, .unset, .unset, .unset, .unset, .unset]) rfl k) ?_
          show Go p e below _ (s₁.setTop (mkF m 127 #[.val (.int ip), .val (.int iq), .val (.int ir), .val (.int is_), .val (.int im), .val (.int i0), .val (.int i1), .val (.int u0), .val (.int u1), .val (.int li), .val (.int lu), .val (.int j_sc), .val (.int j_sl), .val (.int j_j0), .val (.int j_j1), .unset, .unset, .unset, .unset, .unset, .unset, .unset, .unset, .unset, .unset] []))
          refine Go.by (fun t k => XS.iload X0.here hx rfl (hb hby at_127) rfl k) ?_
          show Go p e below _ (s₁.setTop (mkF m 129 #[.val (.int ip), .val (.int iq), .val (.int ir), .val (.int is_), .val (.int im), .val (.int i0), .val (.int i1), .val (.int u0), .val (.int u1), .val (.int li), .val (.int lu), .val (.int j_sc), .val (.int j_sl), .val (.int j_j0), .val (.int j_j1), .unset, .unset, .unset, .unset, .unset, .unset, .unset, .unset, .unset, .unset] [(.int j_sl)]))
          have J146 : ∀ (j_lj : Int32) (hj_lj : j_lj = (0 : Int32) ∨ j_lj = (1 : Int32) ∨ j_lj = (2 : Int32)), Go p e below (fun o U' => ∃ v L, o = .returned v ∧ Q_law Z ip iq ir is_ im cs h0 n0 v U'.heap L ∧ CHr Z own_EL s.vm s.heap U'.vm U'.heap ∧ ReturnedEndW s o U' L room_1.cells room_1.slots) (s₁.setTop (mkF m 146 #[.val (.int ip), .val (.int iq), .val (.int ir), .val (.int is_), .val (.int im), .val (.int i0), .val (.int i1), .val (.int u0), .val (.int u1), .val (.int li), .val (.int lu), .val (.int j_sc), .val (.int j_sl), .val (.int j_j0), .val (.int j_j1), .unset, .unset, .unset, .unset, .unset, .unset, .unset, .unset, .unset, .unset] [(.int j_lj)])) := by
            intro j_lj hj_lj
            show Go p e below _ (s₁.setTop (mkF m 146 #[.val (.int ip), .val (.int iq), .val (.int ir), .val (.int is_), .val (.int im), .val (.int i0), .val (.int i1), .val (.int u0), .val (.int u1), .val (.int li), .val (.int lu), .val (.int j_sc), .val (.int j_sl), .val (.int j_j0), .val (.int j_j1), .unset, .unset, .unset, .unset, .unset, .unset, .unset, .unset, .unset, .unset] [(.int j_lj)]))
            refine Go.by (fun t k => XS.istore X0.here hx rfl (hb hby at_146) rfl (l' := #[.val (.int ip), .val (.int iq), .val (.int ir), .val (.int is_), .val (.int im), .val (.int i0), .val (.int i1), .val (.int u0), .val (.int u1), .val (.int li), .val (.int lu), .val (.int j_sc), .val (.int j_sl), .val (.int j_j0), .val (.int j_j1), .val (.int j_lj), .unset, .unset, .unset, .unset, .unset, .unset, .unset, .unset, .unset]) rfl k) ?_
            show Go p e below _ (s₁.setTop (mkF m 148 #[.val (.int ip), .val (.int iq), .val (.int ir), .val (.int is_), .val (.int im), .val (.int i0), .val (.int i1), .val (.int u0), .val (.int u1), .val (.int li), .val (.int lu), .val (.int j_sc), .val (.int j_sl), .val (.int j_j0), .val (.int j_j1), .val (.int j_lj), .unset, .unset, .unset, .unset, .unset, .unset, .unset, .unset, .unset] []))
            refine Go.by (fun t k => XS.iload X0.here hx rfl (hb hby at_148) rfl k) ?_
            show Go p e below _ (s₁.setTop (mkF m 150 #[.val (.int ip), .val (.int iq), .val (.int ir), .val (.int is_), .val (.int im), .val (.int i0), .val (.int i1), .val (.int u0), .val (.int u1), .val (.int li), .val (.int lu), .val (.int j_sc), .val (.int j_sl), .val (.int j_j0), .val (.int j_j1), .val (.int j_lj), .unset, .unset, .unset, .unset, .unset, .unset, .unset, .unset, .unset] [(.int im)]))
            refine Go.by (fun t k => XS.bipush X0.here hx rfl (hb hby at_150) k) ?_
            show Go p e below _ (s₁.setTop (mkF m 152 #[.val (.int ip), .val (.int iq), .val (.int ir), .val (.int is_), .val (.int im), .val (.int i0), .val (.int i1), .val (.int u0), .val (.int u1), .val (.int li), .val (.int lu), .val (.int j_sc), .val (.int j_sl), .val (.int j_j0), .val (.int j_j1), .val (.int j_lj), .unset, .unset, .unset, .unset, .unset, .unset, .unset, .unset, .unset] [(.int (8 : Int32)), (.int im)]))
            refine Go.by (fun t k => XS.iushr X0.here hx rfl (hb hby at_152) rfl k) ?_
            show Go p e below _ (s₁.setTop (mkF m 153 #[.val (.int ip), .val (.int iq), .val (.int ir), .val (.int is_), .val (.int im), .val (.int i0), .val (.int i1), .val (.int u0), .val (.int u1), .val (.int li), .val (.int lu), .val (.int j_sc), .val (.int j_sl), .val (.int j_j0), .val (.int j_j1), .val (.int j_lj), .unset, .unset, .unset, .unset, .unset, .unset, .unset, .unset, .unset] [(.int ((im.toUInt32 >>> ((8 : Int32) &&& 31).toUInt32).toInt32))]))
            refine Go.by (fun t k => XS.iconst X0.here hx rfl (hb hby at_153) k) ?_
            show Go p e below _ (s₁.setTop (mkF m 154 #[.val (.int ip), .val (.int iq), .val (.int ir), .val (.int is_), .val (.int im), .val (.int i0), .val (.int i1), .val (.int u0), .val (.int u1), .val (.int li), .val (.int lu), .val (.int j_sc), .val (.int j_sl), .val (.int j_j0), .val (.int j_j1), .val (.int j_lj), .unset, .unset, .unset, .unset, .unset, .unset, .unset, .unset, .unset] [(.int (1 : Int32)), (.int ((im.toUInt32 >>> ((8 : Int32) &&& 31).toUInt32).toInt32))]))
            refine Go.by (fun t k => XS.iand X0.here hx rfl (hb hby at_154) rfl k) ?_
            show Go p e below _ (s₁.setTop (mkF m 155 #[.val (.int ip), .val (.int iq), .val (.int ir), .val (.int is_), .val (.int im), .val (.int i0), .val (.int i1), .val (.int u0), .val (.int u1), .val (.int li), .val (.int lu), .val (.int j_sc), .val (.int j_sl), .val (.int j_j0), .val (.int j_j1), .val (.int j_lj), .unset, .unset, .unset, .unset, .unset, .unset, .unset, .unset, .unset] [(.int (((im.toUInt32 >>> ((8 : Int32) &&& 31).toUInt32).toInt32) &&& (1 : Int32)))]))
            have J163 : ∀ (j_tc : Int32) , Go p e below (fun o U' => ∃ v L, o = .returned v ∧ Q_law Z ip iq ir is_ im cs h0 n0 v U'.heap L ∧ CHr Z own_EL s.vm s.heap U'.vm U'.heap ∧ ReturnedEndW s o U' L room_1.cells room_1.slots) (s₁.setTop (mkF m 163 #[.val (.int ip), .val (.int iq), .val (.int ir), .val (.int is_), .val (.int im), .val (.int i0), .val (.int i1), .val (.int u0), .val (.int u1), .val (.int li), .val (.int lu), .val (.int j_sc), .val (.int j_sl), .val (.int j_j0), .val (.int j_j1), .val (.int j_lj), .unset, .unset, .unset, .unset, .unset, .unset, .unset, .unset, .unset] [(.int j_tc)])) := by
              intro j_tc 
              show Go p e below _ (s₁.setTop (mkF m 163 #[.val (.int ip), .val (.int iq), .val (.int ir), .val (.int is_), .val (.int im), .val (.int i0), .val (.int i1), .val (.int u0), .val (.int u1), .val (.int li), .val (.int lu), .val (.int j_sc), .val (.int j_sl), .val (.int j_j0), .val (.int j_j1), .val (.int j_lj), .unset, .unset, .unset, .unset, .unset, .unset, .unset, .unset, .unset] [(.int j_tc)]))
              refine Go.by (fun t k => XS.istore X0.here hx rfl (hb hby at_163) rfl (l' := #[.val (.int ip), .val (.int iq), .val (.int ir), .val (.int is_), .val (.int im), .val (.int i0), .val (.int i1), .val (.int u0), .val (.int u1), .val (.int li), .val (.int lu), .val (.int j_sc), .val (.int j_sl), .val (.int j_j0), .val (.int j_j1), .val (.int j_lj), .val (.int j_tc), .unset, .unset, .unset, .unset, .unset, .unset, .unset, .unset]) rfl k) ?_
              show Go p e below _ (s₁.setTop (mkF m 165 #[.val (.int ip), .val (.int iq), .val (.int ir), .val (.int is_), .val (.int im), .val (.int i0), .val (.int i1), .val (.int u0), .val (.int u1), .val (.int li), .val (.int lu), .val (.int j_sc), .val (.int j_sl), .val (.int j_j0), .val (.int j_j1), .val (.int j_lj), .val (.int j_tc), .unset, .unset, .unset, .unset, .unset, .unset, .unset, .unset] []))
              refine Go.by (fun t k => XS.iload X0.here hx rfl (hb hby at_165) rfl k) ?_
              show Go p e below _ (s₁.setTop (mkF m 167 #[.val (.int ip), .val (.int iq), .val (.int ir), .val (.int is_), .val (.int im), .val (.int i0), .val (.int i1), .val (.int u0), .val (.int u1), .val (.int li), .val (.int lu), .val (.int j_sc), .val (.int j_sl), .val (.int j_j0), .val (.int j_j1), .val (.int j_lj), .val (.int j_tc), .unset, .unset, .unset, .unset, .unset, .unset, .unset, .unset] [(.int im)]))
              refine Go.by (fun t k => XS.bipush X0.here hx rfl (hb hby at_167) k) ?_
              show Go p e below _ (s₁.setTop (mkF m 169 #[.val (.int ip), .val (.int iq), .val (.int ir), .val (.int is_), .val (.int im), .val (.int i0), .val (.int i1), .val (.int u0), .val (.int u1), .val (.int li), .val (.int lu), .val (.int j_sc), .val (.int j_sl), .val (.int j_j0), .val (.int j_j1), .val (.int j_lj), .val (.int j_tc), .unset, .unset, .unset, .unset, .unset, .unset, .unset, .unset] [(.int (9 : Int32)), (.int im)]))
              refine Go.by (fun t k => XS.iushr X0.here hx rfl (hb hby at_169) rfl k) ?_
              show Go p e below _ (s₁.setTop (mkF m 170 #[.val (.int ip), .val (.int iq), .val (.int ir), .val (.int is_), .val (.int im), .val (.int i0), .val (.int i1), .val (.int u0), .val (.int u1), .val (.int li), .val (.int lu), .val (.int j_sc), .val (.int j_sl), .val (.int j_j0), .val (.int j_j1), .val (.int j_lj), .val (.int j_tc), .unset, .unset, .unset, .unset, .unset, .unset, .unset, .unset] [(.int ((im.toUInt32 >>> ((9 : Int32) &&& 31).toUInt32).toInt32))]))
              refine Go.by (fun t k => XS.iconst X0.here hx rfl (hb hby at_170) k) ?_
              show Go p e below _ (s₁.setTop (mkF m 171 #[.val (.int ip), .val (.int iq), .val (.int ir), .val (.int is_), .val (.int im), .val (.int i0), .val (.int i1), .val (.int u0), .val (.int u1), .val (.int li), .val (.int lu), .val (.int j_sc), .val (.int j_sl), .val (.int j_j0), .val (.int j_j1), .val (.int j_lj), .val (.int j_tc), .unset, .unset, .unset, .unset, .unset, .unset, .unset, .unset] [(.int (1 : Int32)), (.int ((im.toUInt32 >>> ((9 : Int32) &&& 31).toUInt32).toInt32))]))
              refine Go.by (fun t k => XS.iand X0.here hx rfl (hb hby at_171) rfl k) ?_
              show Go p e below _ (s₁.setTop (mkF m 172 #[.val (.int ip), .val (.int iq), .val (.int ir), .val (.int is_), .val (.int im), .val (.int i0), .val (.int i1), .val (.int u0), .val (.int u1), .val (.int li), .val (.int lu), .val (.int j_sc), .val (.int j_sl), .val (.int j_j0), .val (.int j_j1), .val (.int j_lj), .val (.int j_tc), .unset, .unset, .unset, .unset, .unset, .unset, .unset, .unset] [(.int (((im.toUInt32 >>> ((9 : Int32) &&& 31).toUInt32).toInt32) &&& (1 : Int32)))]))
              have J180 : ∀ (j_tl : Int32) , Go p e below (fun o U' => ∃ v L, o = .returned v ∧ Q_law Z ip iq ir is_ im cs h0 n0 v U'.heap L ∧ CHr Z own_EL s.vm s.heap U'.vm U'.heap ∧ ReturnedEndW s o U' L room_1.cells room_1.slots) (s₁.setTop (mkF m 180 #[.val (.int ip), .val (.int iq), .val (.int ir), .val (.int is_), .val (.int im), .val (.int i0), .val (.int i1), .val (.int u0), .val (.int u1), .val (.int li), .val (.int lu), .val (.int j_sc), .val (.int j_sl), .val (.int j_j0), .val (.int j_j1), .val (.int j_lj), .val (.int j_tc), .unset, .unset, .unset, .unset, .unset, .unset, .unset, .unset] [(.int j_tl)])) := by
                intro j_tl 
                show Go p e below _ (s₁.setTop (mkF m 180 #[.val (.int ip), .val (.int iq), .val (.int ir), .val (.int is_), .val (.int im), .val (.int i0), .val (.int i1), .val (.int u0), .val (.int u1), .val (.int li), .val (.int lu), .val (.int j_sc), .val (.int j_sl), .val (.int j_j0), .val (.int j_j1), .val (.int j_lj), .val (.int j_tc), .unset, .unset, .unset, .unset, .unset, .unset, .unset, .unset] [(.int j_tl)]))
                refine Go.by (fun t k => XS.istore X0.here hx rfl (hb hby at_180) rfl (l' := #[.val (.int ip), .val (.int iq), .val (.int ir), .val (.int is_), .val (.int im), .val (.int i0), .val (.int i1), .val (.int u0), .val (.int u1), .val (.int li), .val (.int lu), .val (.int j_sc), .val (.int j_sl), .val (.int j_j0), .val (.int j_j1), .val (.int j_lj), .val (.int j_tc), .val (.int j_tl), .unset, .unset, .unset, .unset, .unset, .unset, .unset]) rfl k) ?_
                show Go p e below _ (s₁.setTop (mkF m 182 #[.val (.int ip), .val (.int iq), .val (.int ir), .val (.int is_), .val (.int im), .val (.int i0), .val (.int i1), .val (.int u0), .val (.int u1), .val (.int li), .val (.int lu), .val (.int j_sc), .val (.int j_sl), .val (.int j_j0), .val (.int j_j1), .val (.int j_lj), .val (.int j_tc), .val (.int j_tl), .unset, .unset, .unset, .unset, .unset, .unset, .unset] []))
                refine Go.by (fun t k => XS.iload X0.here hx rfl (hb hby at_182) rfl k) ?_
                show Go p e below _ (s₁.setTop (mkF m 184 #[.val (.int ip), .val (.int iq), .val (.int ir), .val (.int is_), .val (.int im), .val (.int i0), .val (.int i1), .val (.int u0), .val (.int u1), .val (.int li), .val (.int lu), .val (.int j_sc), .val (.int j_sl), .val (.int j_j0), .val (.int j_j1), .val (.int j_lj), .val (.int j_tc), .val (.int j_tl), .unset, .unset, .unset, .unset, .unset, .unset, .unset] [(.int j_tc)]))
                have J198 : ∀ (j_v0 : Int32) (hj_v0 : 0 ≤ j_v0.toInt ∧ j_v0.toInt ≤ 255), Go p e below (fun o U' => ∃ v L, o = .returned v ∧ Q_law Z ip iq ir is_ im cs h0 n0 v U'.heap L ∧ CHr Z own_EL s.vm s.heap U'.vm U'.heap ∧ ReturnedEndW s o U' L room_1.cells room_1.slots) (s₁.setTop (mkF m 198 #[.val (.int ip), .val (.int iq), .val (.int ir), .val (.int is_), .val (.int im), .val (.int i0), .val (.int i1), .val (.int u0), .val (.int u1), .val (.int li), .val (.int lu), .val (.int j_sc), .val (.int j_sl), .val (.int j_j0), .val (.int j_j1), .val (.int j_lj), .val (.int j_tc), .val (.int j_tl), .unset, .unset, .unset, .unset, .unset, .unset, .unset] [(.int j_v0)])) := by
                  intro j_v0 hj_v0
                  show Go p e below _ (s₁.setTop (mkF m 198 #[.val (.int ip), .val (.int iq), .val (.int ir), .val (.int is_), .val (.int im), .val (.int i0), .val (.int i1), .val (.int u0), .val (.int u1), .val (.int li), .val (.int lu), .val (.int j_sc), .val (.int j_sl), .val (.int j_j0), .val (.int j_j1), .val (.int j_lj), .val (.int j_tc), .val (.int j_tl), .unset, .unset, .unset, .unset, .unset, .unset, .unset] [(.int j_v0)]))
                  refine Go.by (fun t k => XS.istore X0.here hx rfl (hb hby at_198) rfl (l' := #[.val (.int ip), .val (.int iq), .val (.int ir), .val (.int is_), .val (.int im), .val (.int i0), .val (.int i1), .val (.int u0), .val (.int u1), .val (.int li), .val (.int lu), .val (.int j_sc), .val (.int j_sl), .val (.int j_j0), .val (.int j_j1), .val (.int j_lj), .val (.int j_tc), .val (.int j_tl), .val (.int j_v0), .unset, .unset, .unset, .unset, .unset, .unset]) rfl k) ?_
                  show Go p e below _ (s₁.setTop (mkF m 200 #[.val (.int ip), .val (.int iq), .val (.int ir), .val (.int is_), .val (.int im), .val (.int i0), .val (.int i1), .val (.int u0), .val (.int u1), .val (.int li), .val (.int lu), .val (.int j_sc), .val (.int j_sl), .val (.int j_j0), .val (.int j_j1), .val (.int j_lj), .val (.int j_tc), .val (.int j_tl), .val (.int j_v0), .unset, .unset, .unset, .unset, .unset, .unset] []))
                  refine Go.by (fun t k => XS.iload X0.here hx rfl (hb hby at_200) rfl k) ?_
                  show Go p e below _ (s₁.setTop (mkF m 202 #[.val (.int ip), .val (.int iq), .val (.int ir), .val (.int is_), .val (.int im), .val (.int i0), .val (.int i1), .val (.int u0), .val (.int u1), .val (.int li), .val (.int lu), .val (.int j_sc), .val (.int j_sl), .val (.int j_j0), .val (.int j_j1), .val (.int j_lj), .val (.int j_tc), .val (.int j_tl), .val (.int j_v0), .unset, .unset, .unset, .unset, .unset, .unset] [(.int j_tc)]))
                  have J219 : ∀ (j_v1 : Int32) (hj_v1 : 0 ≤ j_v1.toInt ∧ j_v1.toInt ≤ 255), Go p e below (fun o U' => ∃ v L, o = .returned v ∧ Q_law Z ip iq ir is_ im cs h0 n0 v U'.heap L ∧ CHr Z own_EL s.vm s.heap U'.vm U'.heap ∧ ReturnedEndW s o U' L room_1.cells room_1.slots) (s₁.setTop (mkF m 219 #[.val (.int ip), .val (.int iq), .val (.int ir), .val (.int is_), .val (.int im), .val (.int i0), .val (.int i1), .val (.int u0), .val (.int u1), .val (.int li), .val (.int lu), .val (.int j_sc), .val (.int j_sl), .val (.int j_j0), .val (.int j_j1), .val (.int j_lj), .val (.int j_tc), .val (.int j_tl), .val (.int j_v0), .unset, .unset, .unset, .unset, .unset, .unset] [(.int j_v1)])) := by
                    intro j_v1 hj_v1
                    show Go p e below _ (s₁.setTop (mkF m 219 #[.val (.int ip), .val (.int iq), .val (.int ir), .val (.int is_), .val (.int im), .val (.int i0), .val (.int i1), .val (.int u0), .val (.int u1), .val (.int li), .val (.int lu), .val (.int j_sc), .val (.int j_sl), .val (.int j_j0), .val (.int j_j1), .val (.int j_lj), .val (.int j_tc), .val (.int j_tl), .val (.int j_v0), .unset, .unset, .unset, .unset, .unset, .unset] [(.int j_v1)]))
                    refine Go.by (fun t k => XS.istore X0.here hx rfl (hb hby at_219) rfl (l' := #[.val (.int ip), .val (.int iq), .val (.int ir), .val (.int is_), .val (.int im), .val (.int i0), .val (.int i1), .val (.int u0), .val (.int u1), .val (.int li), .val (.int lu), .val (.int j_sc), .val (.int j_sl), .val (.int j_j0), .val (.int j_j1), .val (.int j_lj), .val (.int j_tc), .val (.int j_tl), .val (.int j_v0), .val (.int j_v1), .unset, .unset, .unset, .unset, .unset]) rfl k) ?_
                    show Go p e below _ (s₁.setTop (mkF m 221 #[.val (.int ip), .val (.int iq), .val (.int ir), .val (.int is_), .val (.int im), .val (.int i0), .val (.int i1), .val (.int u0), .val (.int u1), .val (.int li), .val (.int lu), .val (.int j_sc), .val (.int j_sl), .val (.int j_j0), .val (.int j_j1), .val (.int j_lj), .val (.int j_tc), .val (.int j_tl), .val (.int j_v0), .val (.int j_v1), .unset, .unset, .unset, .unset, .unset] []))
                    refine Go.by (fun t k => XS.iload X0.here hx rfl (hb hby at_221) rfl k) ?_
                    show Go p e below _ (s₁.setTop (mkF m 223 #[.val (.int ip), .val (.int iq), .val (.int ir), .val (.int is_), .val (.int im), .val (.int i0), .val (.int i1), .val (.int u0), .val (.int u1), .val (.int li), .val (.int lu), .val (.int j_sc), .val (.int j_sl), .val (.int j_j0), .val (.int j_j1), .val (.int j_lj), .val (.int j_tc), .val (.int j_tl), .val (.int j_v0), .val (.int j_v1), .unset, .unset, .unset, .unset, .unset] [(.int j_tl)]))
                    have J240 : ∀ (j_lv : Int32) (hj_lv : j_lv = (0 : Int32) ∨ j_lv = (1 : Int32) ∨ j_lv = (2 : Int32)), Go p e below (fun o U' => ∃ v L, o = .returned v ∧ Q_law Z ip iq ir is_ im cs h0 n0 v U'.heap L ∧ CHr Z own_EL s.vm s.heap U'.vm U'.heap ∧ ReturnedEndW s o U' L room_1.cells room_1.slots) (s₁.setTop (mkF m 240 #[.val (.int ip), .val (.int iq), .val (.int ir), .val (.int is_), .val (.int im), .val (.int i0), .val (.int i1), .val (.int u0), .val (.int u1), .val (.int li), .val (.int lu), .val (.int j_sc), .val (.int j_sl), .val (.int j_j0), .val (.int j_j1), .val (.int j_lj), .val (.int j_tc), .val (.int j_tl), .val (.int j_v0), .val (.int j_v1), .unset, .unset, .unset, .unset, .unset] [(.int j_lv)])) := by
                      intro j_lv hj_lv
                      show Go p e below _ (s₁.setTop (mkF m 240 #[.val (.int ip), .val (.int iq), .val (.int ir), .val (.int is_), .val (.int im), .val (.int i0), .val (.int i1), .val (.int u0), .val (.int u1), .val (.int li), .val (.int lu), .val (.int j_sc), .val (.int j_sl), .val (.int j_j0), .val (.int j_j1), .val (.int j_lj), .val (.int j_tc), .val (.int j_tl), .val (.int j_v0), .val (.int j_v1), .unset, .unset, .unset, .unset, .unset] [(.int j_lv)]))
                      refine Go.by (fun t k => XS.istore X0.here hx rfl (hb hby at_240) rfl (l' := #[.val (.int ip), .val (.int iq), .val (.int ir), .val (.int is_), .val (.int im), .val (.int i0), .val (.int i1), .val (.int u0), .val (.int u1), .val (.int li), .val (.int lu), .val (.int j_sc), .val (.int j_sl), .val (.int j_j0), .val (.int j_j1), .val (.int j_lj), .val (.int j_tc), .val (.int j_tl), .val (.int j_v0), .val (.int j_v1), .val (.int j_lv), .unset, .unset, .unset, .unset]) rfl k) ?_
                      show Go p e below _ (s₁.setTop (mkF m 242 #[.val (.int ip), .val (.int iq), .val (.int ir), .val (.int is_), .val (.int im), .val (.int i0), .val (.int i1), .val (.int u0), .val (.int u1), .val (.int li), .val (.int lu), .val (.int j_sc), .val (.int j_sl), .val (.int j_j0), .val (.int j_j1), .val (.int j_lj), .val (.int j_tc), .val (.int j_tl), .val (.int j_v0), .val (.int j_v1), .val (.int j_lv), .unset, .unset, .unset, .unset] []))
                      refine Go.by (fun t k => XS.iload X0.here hx rfl (hb hby at_242) rfl k) ?_
                      show Go p e below _ (s₁.setTop (mkF m 244 #[.val (.int ip), .val (.int iq), .val (.int ir), .val (.int is_), .val (.int im), .val (.int i0), .val (.int i1), .val (.int u0), .val (.int u1), .val (.int li), .val (.int lu), .val (.int j_sc), .val (.int j_sl), .val (.int j_j0), .val (.int j_j1), .val (.int j_lj), .val (.int j_tc), .val (.int j_tl), .val (.int j_v0), .val (.int j_v1), .val (.int j_lv), .unset, .unset, .unset, .unset] [(.int im)]))
                      refine Go.by (fun t k => XS.bipush X0.here hx rfl (hb hby at_244) k) ?_
                      show Go p e below _ (s₁.setTop (mkF m 246 #[.val (.int ip), .val (.int iq), .val (.int ir), .val (.int is_), .val (.int im), .val (.int i0), .val (.int i1), .val (.int u0), .val (.int u1), .val (.int li), .val (.int lu), .val (.int j_sc), .val (.int j_sl), .val (.int j_j0), .val (.int j_j1), .val (.int j_lj), .val (.int j_tc), .val (.int j_tl), .val (.int j_v0), .val (.int j_v1), .val (.int j_lv), .unset, .unset, .unset, .unset] [(.int (12 : Int32)), (.int im)]))
                      refine Go.by (fun t k => XS.iushr X0.here hx rfl (hb hby at_246) rfl k) ?_
                      show Go p e below _ (s₁.setTop (mkF m 247 #[.val (.int ip), .val (.int iq), .val (.int ir), .val (.int is_), .val (.int im), .val (.int i0), .val (.int i1), .val (.int u0), .val (.int u1), .val (.int li), .val (.int lu), .val (.int j_sc), .val (.int j_sl), .val (.int j_j0), .val (.int j_j1), .val (.int j_lj), .val (.int j_tc), .val (.int j_tl), .val (.int j_v0), .val (.int j_v1), .val (.int j_lv), .unset, .unset, .unset, .unset] [(.int ((im.toUInt32 >>> ((12 : Int32) &&& 31).toUInt32).toInt32))]))
                      refine Go.by (fun t k => XS.iconst X0.here hx rfl (hb hby at_247) k) ?_
                      show Go p e below _ (s₁.setTop (mkF m 248 #[.val (.int ip), .val (.int iq), .val (.int ir), .val (.int is_), .val (.int im), .val (.int i0), .val (.int i1), .val (.int u0), .val (.int u1), .val (.int li), .val (.int lu), .val (.int j_sc), .val (.int j_sl), .val (.int j_j0), .val (.int j_j1), .val (.int j_lj), .val (.int j_tc), .val (.int j_tl), .val (.int j_v0), .val (.int j_v1), .val (.int j_lv), .unset, .unset, .unset, .unset] [(.int (3 : Int32)), (.int ((im.toUInt32 >>> ((12 : Int32) &&& 31).toUInt32).toInt32))]))
                      refine Go.by (fun t k => XS.iand X0.here hx rfl (hb hby at_248) rfl k) ?_
                      show Go p e below _ (s₁.setTop (mkF m 249 #[.val (.int ip), .val (.int iq), .val (.int ir), .val (.int is_), .val (.int im), .val (.int i0), .val (.int i1), .val (.int u0), .val (.int u1), .val (.int li), .val (.int lu), .val (.int j_sc), .val (.int j_sl), .val (.int j_j0), .val (.int j_j1), .val (.int j_lj), .val (.int j_tc), .val (.int j_tl), .val (.int j_v0), .val (.int j_v1), .val (.int j_lv), .unset, .unset, .unset, .unset] [(.int (((im.toUInt32 >>> ((12 : Int32) &&& 31).toUInt32).toInt32) &&& (3 : Int32)))]))
                      obtain ⟨kd, e_kd⟩ : ∃ q : Int32, q = (((im.toUInt32 >>> ((12 : Int32) &&& 31).toUInt32).toInt32) &&& (3 : Int32)) := ⟨_, rfl⟩
                      rw [show s₁.setTop (mkF m 249 #[.val (.int ip), .val (.int iq), .val (.int ir), .val (.int is_), .val (.int im), .val (.int i0), .val (.int i1), .val (.int u0), .val (.int u1), .val (.int li), .val (.int lu), .val (.int j_sc), .val (.int j_sl), .val (.int j_j0), .val (.int j_j1), .val (.int j_lj), .val (.int j_tc), .val (.int j_tl), .val (.int j_v0), .val (.int j_v1), .val (.int j_lv), .unset, .unset, .unset, .unset] [(.int (((im.toUInt32 >>> ((12 : Int32) &&& 31).toUInt32).toInt32) &&& (3 : Int32)))]) = s₁.setTop (mkF m 249 #[.val (.int ip), .val (.int iq), .val (.int ir), .val (.int is_), .val (.int im), .val (.int i0), .val (.int i1), .val (.int u0), .val (.int u1), .val (.int li), .val (.int lu), .val (.int j_sc), .val (.int j_sl), .val (.int j_j0), .val (.int j_j1), .val (.int j_lj), .val (.int j_tc), .val (.int j_tl), .val (.int j_v0), .val (.int j_v1), .val (.int j_lv), .unset, .unset, .unset, .unset] [(.int kd)]) from by rw [e_kd]]
                      show Go p e below _ (s₁.setTop (mkF m 249 #[.val (.int ip), .val (.int iq), .val (.int ir), .val (.int is_), .val (.int im), .val (.int i0), .val (.int i1), .val (.int u0), .val (.int u1), .val (.int li), .val (.int lu), .val (.int j_sc), .val (.int j_sl), .val (.int j_j0), .val (.int j_j1), .val (.int j_lj), .val (.int j_tc), .val (.int j_tl), .val (.int j_v0), .val (.int j_v1), .val (.int j_lv), .unset, .unset, .unset, .unset] [(.int kd)]))
                      refine Go.by (fun t k => XS.istore X0.here hx rfl (hb hby at_249) rfl (l' := #[.val (.int ip), .val (.int iq), .val (.int ir), .val (.int is_), .val (.int im), .val (.int i0), .val (.int i1), .val (.int u0), .val (.int u1), .val (.int li), .val (.int lu), .val (.int j_sc), .val (.int j_sl), .val (.int j_j0), .val (.int j_j1), .val (.int j_lj), .val (.int j_tc), .val (.int j_tl), .val (.int j_v0), .val (.int j_v1), .val (.int j_lv), .val (.int kd), .unset, .unset, .unset]) rfl k) ?_
                      show Go p e below _ (s₁.setTop (mkF m 251 #[.val (.int ip), .val (.int iq), .val (.int ir), .val (.int is_), .val (.int im), .val (.int i0), .val (.int i1), .val (.int u0), .val (.int u1), .val (.int li), .val (.int lu), .val (.int j_sc), .val (.int j_sl), .val (.int j_j0), .val (.int j_j1), .val (.int j_lj), .val (.int j_tc), .val (.int j_tl), .val (.int j_v0), .val (.int j_v1), .val (.int j_lv), .val (.int kd), .unset, .unset, .unset] []))
                      obtain ⟨T1, h1, X1, e1, E1, A1, D1, -, st1⟩ := newO X0 hx hZ hown (hw _ (List.mem_of_getElem? (i := 0) rfl)) (hw _ (List.mem_of_getElem? (i := 1) rfl)) (hw _ (List.mem_of_getElem? (i := 2) rfl)) e0 (g := (mkF m 251 #[.val (.int ip), .val (.int iq), .val (.int ir), .val (.int is_), .val (.int im), .val (.int i0), .val (.int i1), .val (.int u0), .val (.int u1), .val (.int li), .val (.int lu), .val (.int j_sc), .val (.int j_sl), .val (.int j_j0), .val (.int j_j1), .val (.int j_lj), .val (.int j_tc), .val (.int j_tl), .val (.int j_v0), .val (.int j_v1), .val (.int j_lv), .val (.int kd), .unset, .unset, .unset] [])) rfl (hb hby at_251) (by decide) (by decide)
                      obtain ⟨b1, g1⟩ : ∃ z, z = h0.size := ⟨_, rfl⟩
                      rw [← g1] at A1 D1 st1
                      have gl1 : h0.size ≤ b1 := Nat.le_of_eq g1.symm
                      have ge1 : n0 ≤ b1 := Nat.le_trans (own_old_size O0) gl1
                      have sz1 : h0.size ≤ b1 := Nat.le_trans (Keep.refl h0 []).1 gl1
                      have F2 : Fld Z h1 b1 "com/example/tattler/tattler/channel/WatchedResource" "id" "Ljava/lang/String;" .null := D1 (Or.inr (hw _ (List.mem_of_getElem? (i := 34) rfl))) (ty := (.object "java/lang/String")) (by decide)
                      have F3 : Fld Z h1 b1 "com/example/tattler/tattler/channel/WatchedResource" "uri" "Ljava/lang/String;" .null := D1 (Or.inr (hw _ (List.mem_of_getElem? (i := 36) rfl))) (ty := (.object "java/lang/String")) (by decide)
                      refine Go.by st1 ?_
                      show Go p e below _ (T1.setTop (mkF m 254 #[.val (.int ip), .val (.int iq), .val (.int ir), .val (.int is_), .val (.int im), .val (.int i0), .val (.int i1), .val (.int u0), .val (.int u1), .val (.int li), .val (.int lu), .val (.int j_sc), .val (.int j_sl), .val (.int j_j0), .val (.int j_j1), .val (.int j_lj), .val (.int j_tc), .val (.int j_tl), .val (.int j_v0), .val (.int j_v1), .val (.int j_lv), .val (.int kd), .unset, .unset, .unset] [(.ref b1)]))
                      refine Go.by (fun t k => XS.dup X1.here hx rfl (hb hby at_254) rfl rfl k) ?_
                      show Go p e below _ (T1.setTop (mkF m 255 #[.val (.int ip), .val (.int iq), .val (.int ir), .val (.int is_), .val (.int im), .val (.int i0), .val (.int i1), .val (.int u0), .val (.int u1), .val (.int li), .val (.int lu), .val (.int j_sc), .val (.int j_sl), .val (.int j_j0), .val (.int j_j1), .val (.int j_lj), .val (.int j_tc), .val (.int j_tl), .val (.int j_v0), .val (.int j_v1), .val (.int j_lv), .val (.int kd), .unset, .unset, .unset] [(.ref b1), (.ref b1)]))
                      refine Go.by (fun t k => XS.iload X1.here hx rfl (hb hby at_255) rfl k) ?_
                      show Go p e below _ (T1.setTop (mkF m 257 #[.val (.int ip), .val (.int iq), .val (.int ir), .val (.int is_), .val (.int im), .val (.int i0), .val (.int i1), .val (.int u0), .val (.int u1), .val (.int li), .val (.int lu), .val (.int j_sc), .val (.int j_sl), .val (.int j_j0), .val (.int j_j1), .val (.int j_lj), .val (.int j_tc), .val (.int j_tl), .val (.int j_v0), .val (.int j_v1), .val (.int j_lv), .val (.int kd), .unset, .unset, .unset] [(.int i0), (.ref b1), (.ref b1)]))
                      refine Go.by (fun t k => XS.iload X1.here hx rfl (hb hby at_257) rfl k) ?_
                      show Go p e below _ (T1.setTop (mkF m 259 #[.val (.int ip), .val (.int iq), .val (.int ir), .val (.int is_), .val (.int im), .val (.int i0), .val (.int i1), .val (.int u0), .val (.int u1), .val (.int li), .val (.int lu), .val (.int j_sc), .val (.int j_sl), .val (.int j_j0), .val (.int j_j1), .val (.int j_lj), .val (.int j_tc), .val (.int j_tl), .val (.int j_v0), .val (.int j_v1), .val (.int j_lv), .val (.int kd), .unset, .unset, .unset] [(.int i1), (.int i0), (.ref b1), (.ref b1)]))
                      refine Go.by (fun t k => XS.iload X1.here hx rfl (hb hby at_259) rfl k) ?_
                      show Go p e below _ (T1.setTop (mkF m 261 #[.val (.int ip), .val (.int iq), .val (.int ir), .val (.int is_), .val (.int im), .val (.int i0), .val (.int i1), .val (.int u0), .val (.int u1), .val (.int li), .val (.int lu), .val (.int j_sc), .val (.int j_sl), .val (.int j_j0), .val (.int j_j1), .val (.int j_lj), .val (.int j_tc), .val (.int j_tl), .val (.int j_v0), .val (.int j_v1), .val (.int j_lv), .val (.int kd), .unset, .unset, .unset] [(.int li), (.int i1), (.int i0), (.ref b1), (.ref b1)]))
                      have F5 : Old Z n0 h1 := (O0.ext E1)
                      have F6 : Keep h0 h1 [] := ((Keep.refl h0 []).ext E1)
                      have F7 : h0.size ≤ h1.size := (Nat.le_trans hk0 E1.1)
                      have F8 : CHr Z own_EL s.vm h0 s.vm h1 := (own_chE hR0 E1)
                      obtain ⟨_, _, ⟨T4, L4, k4, n4⟩, -, X4, sn4, gr4, ⟨Lc4, hQ4, l4, y4, z4, C4⟩, st4⟩ := callSS X1 hx (y := (⟨"com/example/tattler/tattler/channel/WatchedResourceEqualsPinLaw", "str", "(CCI)Ljava/lang/String;"⟩ : MethodName)) hown (mvT hZ (hw _ (List.mem_of_getElem? (i := 3) rfl))) (mvT hZ (hw _ (List.mem_of_getElem? (i := 4) rfl))) (mvT hZ (hw _ (List.mem_of_getElem? (i := 5) rfl))) (mvT hZ (hw _ (List.mem_of_getElem? (i := 6) rfl))) (by decide) (backOfSH (W := 2) (str l Z a0 hw [] i0 i1 li cs h1 n0 F5 P0 hcs hi0 hi1 hli) hZ (hw _ (List.mem_of_getElem? (i := 6) rfl)) (hw _ (List.mem_of_getElem? (i := 5) rfl)) (by decide) (by decide) hEL F8.1) (g := (mkF m 261 #[.val (.int ip), .val (.int iq), .val (.int ir), .val (.int is_), .val (.int im), .val (.int i0), .val (.int i1), .val (.int u0), .val (.int u1), .val (.int li), .val (.int lu), .val (.int j_sc), .val (.int j_sl), .val (.int j_j0), .val (.int j_j1), .val (.int j_lj), .val (.int j_tc), .val (.int j_tl), .val (.int j_v0), .val (.int j_v1), .val (.int j_lv), .val (.int kd), .unset, .unset, .unset] [(.int li), (.int i1), (.int i0), (.ref b1), (.ref b1)])) rfl (by rw [hml]; rfl) (argsL := [(.int i0), (.int i1), (.int li)]) (rest := [(.ref b1), (.ref b1)]) (lenOf pd_11 rfl) rfl (by show 2 * 0 + _ ≤ _; exact Nat.le_of_eq rfl) (hb hby at_261) (fun _ _ => ⟨rfl, e1, (by decide : 1 + 6 ≤ _), (by decide : 2 + 12 ≤ _)⟩)
                      dsimp only [Pt.U, Pt.locs, Pt.cells, Pt.slots] at X4 l4 y4 z4 st4 hQ4 sn4 gr4 C4
                      subst l4 y4 z4
                      obtain ⟨X4, hS, hZ, hown⟩ := rebS hS (n1 := T1.heap.size) (by rw [e1]; exact F7) X4 sn4 gr4 hZ hown
                      have hk4 : T4.heap.size ≤ T4.heap.size := Nat.le_refl _
                      have A4 := F8.trans C4
                      obtain ⟨sa_4, xb_4, kb_4, rfl, N4q, K4, fz4_sa, F4_0, F4_1, F4_2, F4_3⟩ := hQ4
                      have N4 := Fr.app N0 N4q
                      have ge_sa_4 : n0 ≤ sa_4 := Nat.le_trans (own_old_size F5) fz4_sa
                      have sz_sa_4 : h0.size ≤ sa_4 := Nat.le_trans F6.1 fz4_sa
                      have ne9 : b1 ≠ sa_4 := Nat.ne_of_lt (Nat.lt_of_lt_of_le A1.lt fz4_sa)
                      refine Go.tr st4 ?_
                      show Go p e below _ (T4.setTop (mkF m 264 #[.val (.int ip), .val (.int iq), .val (.int ir), .val (.int is_), .val (.int im), .val (.int i0), .val (.int i1), .val (.int u0), .val (.int u1), .val (.int li), .val (.int lu), .val (.int j_sc), .val (.int j_sl), .val (.int j_j0), .val (.int j_j1), .val (.int j_lj), .val (.int j_tc), .val (.int j_tl), .val (.int j_v0), .val (.int j_v1), .val (.int j_lv), .val (.int kd), .unset, .unset, .unset] [(.ref sa_4), (.ref b1), (.ref b1)]))
                      have F10 : Exa Z T4.heap b1 "com/example/tattler/tattler/channel/WatchedResource" := (A1.keep K4)
                      have ne11 : b1 ≠ xb_4 := Exa.neArv F10 F4_3 (hw _ (List.mem_of_getElem? (i := 1) rfl))
                      have ne12 : sa_4 ≠ xb_4 := Exa.neArv F4_0 F4_3 (hw _ (List.mem_of_getElem? (i := 8) rfl))
                      refine Go.by (fun t k => XS.iload X4.here hx rfl (hb hby at_264) rfl k) ?_
                      show Go p e below _ (T4.setTop (mkF m 266 #[.val (.int ip), .val (.int iq), .val (.int ir), .val (.int is_), .val (.int im), .val (.int i0), .val (.int i1), .val (.int u0), .val (.int u1), .val (.int li), .val (.int lu), .val (.int j_sc), .val (.int j_sl), .val (.int j_j0), .val (.int j_j1), .val (.int j_lj), .val (.int j_tc), .val (.int j_tl), .val (.int j_v0), .val (.int j_v1), .val (.int j_lv), .val (.int kd), .unset, .unset, .unset] [(.int u0), (.ref sa_4), (.ref b1), (.ref b1)]))
                      refine Go.by (fun t k => XS.iload X4.here hx rfl (hb hby at_266) rfl k) ?_
                      show Go p e below _ (T4.setTop (mkF m 268 #[.val (.int ip), .val (.int iq), .val (.int ir), .val (.int is_), .val (.int im), .val (.int i0), .val (.int i1), .val (.int u0), .val (.int u1), .val (.int li), .val (.int lu), .val (.int j_sc), .val (.int j_sl), .val (.int j_j0), .val (.int j_j1), .val (.int j_lj), .val (.int j_tc), .val (.int j_tl), .val (.int j_v0), .val (.int j_v1), .val (.int j_lv), .val (.int kd), .unset, .unset, .unset] [(.int u1), (.int u0), (.ref sa_4), (.ref b1), (.ref b1)]))
                      refine Go.by (fun t k => XS.iload X4.here hx rfl (hb hby at_268) rfl k) ?_
                      show Go p e below _ (T4.setTop (mkF m 270 #[.val (.int ip), .val (.int iq), .val (.int ir), .val (.int is_), .val (.int im), .val (.int i0), .val (.int i1), .val (.int u0), .val (.int u1), .val (.int li), .val (.int lu), .val (.int j_sc), .val (.int j_sl), .val (.int j_j0), .val (.int j_j1), .val (.int j_lj), .val (.int j_tc), .val (.int j_tl), .val (.int j_v0), .val (.int j_v1), .val (.int j_lv), .val (.int kd), .unset, .unset, .unset] [(.int lu), (.int u1), (.int u0), (.ref sa_4), (.ref b1), (.ref b1)]))
                      have F14 : Old Z n0 T4.heap := (F5.keep K4 all0)
                      have F15 : Keep h0 T4.heap [] := (F6.trans K4 all0)
                      obtain ⟨_, _, ⟨T13, L13, k13, n13⟩, -, X13, sn13, gr13, ⟨Lc13, hQ13, l13, y13, z13, C13⟩, st13⟩ := callSS X4 hx (y := (⟨"com/example/tattler/tattler/channel/WatchedResourceEqualsPinLaw", "str", "(CCI)Ljava/lang/String;"⟩ : MethodName)) hown (mvT hZ (hw _ (List.mem_of_getElem? (i := 3) rfl))) (mvT hZ (hw _ (List.mem_of_getElem? (i := 4) rfl))) (mvT hZ (hw _ (List.mem_of_getElem? (i := 5) rfl))) (mvT hZ (hw _ (List.mem_of_getElem? (i := 6) rfl))) (by decide) (backOfSH (W := 3) (str l Z a0 hw [] u0 u1 lu cs T4.heap n0 F14 P0 hcs hu0 hu1 hlu) hZ (hw _ (List.mem_of_getElem? (i := 6) rfl)) (hw _ (List.mem_of_getElem? (i := 5) rfl)) (by decide) (by decide) hEL A4.1) (g := (mkF m 270 #[.val (.int ip), .val (.int iq), .val (.int ir), .val (.int is_), .val (.int im), .val (.int i0), .val (.int i1), .val (.int u0), .val (.int u1), .val (.int li), .val (.int lu), .val (.int j_sc), .val (.int j_sl), .val (.int j_j0), .val (.int j_j1), .val (.int j_lj), .val (.int j_tc), .val (.int j_tl), .val (.int j_v0), .val (.int j_v1), .val (.int j_lv), .val (.int kd), .unset, .unset, .unset] [(.int lu), (.int u1), (.int u0), (.ref sa_4), (.ref b1), (.ref b1)])) rfl (by rw [hml]; rfl) (argsL := [(.int u0), (.int u1), (.int lu)]) (rest := [(.ref sa_4), (.ref b1), (.ref b1)]) (lenOf pd_11 rfl) rfl (by show 2 * 0 + _ ≤ _; exact Nat.le_of_eq rfl) (hb hby at_270) (fun _ _ => ⟨rfl, rfl, (by decide : 7 + 6 ≤ _), (by decide : 14 + 12 ≤ _)⟩)
                      dsimp only [Pt.U, Pt.locs, Pt.cells, Pt.slots] at X13 l13 y13 z13 st13 hQ13 sn13 gr13 C13
                      subst l13 y13 z13
                      obtain ⟨X13, hS, hZ, hown⟩ := rebS hS (n1 := T4.heap.size) hk4 X13 sn13 gr13 hZ hown
                      have hk13 : T13.heap.size ≤ T13.heap.size := Nat.le_refl _
                      have A13 := A4.trans C13
                      obtain ⟨sa_13, xb_13, kb_13, rfl, N13q, K13, fz13_sa, F13_0, F13_1, F13_2, F13_3⟩ := hQ13
                      have N13 := Fr.app N4 N13q
                      have ge_sa_13 : n0 ≤ sa_13 := Nat.le_trans (own_old_size F14) fz13_sa
                      have sz_sa_13 : h0.size ≤ sa_13 := Nat.le_trans F15.1 fz13_sa
                      have ne16 : b1 ≠ sa_13 := Nat.ne_of_lt (Nat.lt_of_lt_of_le F10.lt fz13_sa)
                      have ne17 : sa_4 ≠ sa_13 := Nat.ne_of_lt (Nat.lt_of_lt_of_le F4_0.lt fz13_sa)
                      have ne18 : xb_4 ≠ sa_13 := Nat.ne_of_lt (Nat.lt_of_lt_of_le F4_3.lt fz13_sa)
                      refine Go.tr st13 ?_
                      show Go p e below _ (T13.setTop (mkF m 273 #[.val (.int ip), .val (.int iq), .val (.int ir), .val (.int is_), .val (.int im), .val (.int i0), .val (.int i1), .val (.int u0), .val (.int u1), .val (.int li), .val (.int lu), .val (.int j_sc), .val (.int j_sl), .val (.int j_j0), .val (.int j_j1), .val (.int j_lj), .val (.int j_tc), .val (.int j_tl), .val (.int j_v0), .val (.int j_v1), .val (.int j_lv), .val (.int kd), .unset, .unset, .unset] [(.ref sa_13), (.ref sa_4), (.ref b1), (.ref b1)]))
                      have F19 : Exa Z T13.heap b1 "com/example/tattler/tattler/channel/WatchedResource" := (F10.keep K13)
                      have ne20 : b1 ≠ xb_13 := Exa.neArv F19 F13_3 (hw _ (List.mem_of_getElem? (i := 1) rfl))
                      have F21 : Exa Z T13.heap sa_4 "java/lang/String" := (F4_0.keep K13)
                      have ne22 : sa_4 ≠ xb_13 := Exa.neArv F21 F13_3 (hw _ (List.mem_of_getElem? (i := 8) rfl))
                      have ne23 : sa_13 ≠ xb_13 := Exa.neArv F13_0 F13_3 (hw _ (List.mem_of_getElem? (i := 8) rfl))
                      have F25 : Old Z n0 T13.heap := (F14.keep K13 all0)
                      have F26 : Fld Z T13.heap b1 "com/example/tattler/tattler/channel/WatchedResource" "id" "Ljava/lang/String;" .null := ((F2.keep K4 nin0).keep K13 nin0)
                      have F27 : Fld Z T13.heap b1 "com/example/tattler/tattler/channel/WatchedResource" "uri" "Ljava/lang/String;" .null := ((F3.keep K4 nin0).keep K13 nin0)
                      have F28 : Keep h0 T13.heap [] := (F15.trans K13 all0)
                      obtain ⟨_, _, ⟨T24, L24, k24, n24⟩, -, X24, ⟨Lc24, hQ24, l24, y24, z24⟩, st24⟩ := X13.specialBack hx (y := (⟨"com/example/tattler/tattler/channel/WatchedResource", "<init>", "(Ljava/lang/String;Ljava/lang/String;)V"⟩ : MethodName)) rfl hown (mvT hZ (hw _ (List.mem_of_getElem? (i := 29) rfl))) (mvT hZ (hw _ (List.mem_of_getElem? (i := 30) rfl))) (mvT hZ (hw _ (List.mem_of_getElem? (i := 31) rfl))) (by decide) (backOf (W := 1) (winit l Z a0 hw [] b1 sa_4 sa_13 T13.heap n0 F25 F19 F26 F27 ge1) hZ (hw _ (List.mem_of_getElem? (i := 31) rfl)) (hw _ (List.mem_of_getElem? (i := 2) rfl)) (by decide) (by decide)) (g := (mkF m 273 #[.val (.int ip), .val (.int iq), .val (.int ir), .val (.int is_), .val (.int im), .val (.int i0), .val (.int i1), .val (.int u0), .val (.int u1), .val (.int li), .val (.int lu), .val (.int j_sc), .val (.int j_sl), .val (.int j_j0), .val (.int j_j1), .val (.int j_lj), .val (.int j_tc), .val (.int j_tl), .val (.int j_v0), .val (.int j_v1), .val (.int j_lv), .val (.int kd), .unset, .unset, .unset] [(.ref sa_13), (.ref sa_4), (.ref b1), (.ref b1)])) rfl (by rw [hml]; rfl) (Steps.refl _) (a := b1) (argsL := [(.ref sa_4), (.ref sa_13)]) (rest := [(.ref b1)]) (lenOf pd_12 rfl) rfl (by show 2 * 0 + _ ≤ _; exact Nat.le_of_eq rfl) (hb hby at_273) (fun _ _ => ⟨rfl, rfl, (by decide : 13 + 0 ≤ _), (by decide : 26 + 0 ≤ _)⟩)
                      dsimp only [Pt.U, Pt.locs, Pt.cells, Pt.slots] at X24 l24 y24 z24 st24 hQ24
                      subst l24 y24 z24
                      obtain ⟨rfl, N24q, K24, F24_0, F24_1, F24_2⟩ := hQ24
                      have N24 := Fr.app N13 N24q
                      refine Go.tr st24 ?_
                      show Go p e below _ (T24.setTop (mkF m 276 #[.val (.int ip), .val (.int iq), .val (.int ir), .val (.int is_), .val (.int im), .val (.int i0), .val (.int i1), .val (.int u0), .val (.int u1), .val (.int li), .val (.int lu), .val (.int j_sc), .val (.int j_sl), .val (.int j_j0), .val (.int j_j1), .val (.int j_lj), .val (.int j_tc), .val (.int j_tl), .val (.int j_v0), .val (.int j_v1), .val (.int j_lv), .val (.int kd), .unset, .unset, .unset] [(.ref b1)]))
                      refine Go.by (fun t k => XS.astore X24.here hx rfl (hb hby at_276) rfl rfl (l' := #[.val (.int ip), .val (.int iq), .val (.int ir), .val (.int is_), .val (.int im), .val (.int i0), .val (.int i1), .val (.int u0), .val (.int u1), .val (.int li), .val (.int lu), .val (.int j_sc), .val (.int j_sl), .val (.int j_j0), .val (.int j_j1), .val (.int j_lj), .val (.int j_tc), .val (.int j_tl), .val (.int j_v0), .val (.int j_v1), .val (.int j_lv), .val (.int kd), .val (.ref b1), .unset, .unset]) rfl k) ?_
                      show Go p e below _ (T24.setTop (mkF m 278 #[.val (.int ip), .val (.int iq), .val (.int ir), .val (.int is_), .val (.int im), .val (.int i0), .val (.int i1), .val (.int u0), .val (.int u1), .val (.int li), .val (.int lu), .val (.int j_sc), .val (.int j_sl), .val (.int j_j0), .val (.int j_j1), .val (.int j_lj), .val (.int j_tc), .val (.int j_tl), .val (.int j_v0), .val (.int j_v1), .val (.int j_lv), .val (.int kd), .val (.ref b1), .unset, .unset] []))
                      refine Go.by (fun t k => XS.iload X24.here hx rfl (hb hby at_278) rfl k) ?_
                      show Go p e below _ (T24.setTop (mkF m 280 #[.val (.int ip), .val (.int iq), .val (.int ir), .val (.int is_), .val (.int im), .val (.int i0), .val (.int i1), .val (.int u0), .val (.int u1), .val (.int li), .val (.int lu), .val (.int j_sc), .val (.int j_sl), .val (.int j_j0), .val (.int j_j1), .val (.int j_lj), .val (.int j_tc), .val (.int j_tl), .val (.int j_v0), .val (.int j_v1), .val (.int j_lv), .val (.int kd), .val (.ref b1), .unset, .unset] [(.int kd)]))
                      refine Go.by (fun t k => XS.iconst X24.here hx rfl (hb hby at_280) k) ?_
                      show Go p e below _ (T24.setTop (mkF m 281 #[.val (.int ip), .val (.int iq), .val (.int ir), .val (.int is_), .val (.int im), .val (.int i0), .val (.int i1), .val (.int u0), .val (.int u1), .val (.int li), .val (.int lu), .val (.int j_sc), .val (.int j_sl), .val (.int j_j0), .val (.int j_j1), .val (.int j_lj), .val (.int j_tc), .val (.int j_tl), .val (.int j_v0), .val (.int j_v1), .val (.int j_lv), .val (.int kd), .val (.ref b1), .unset, .unset] [(.int (1 : Int32)), (.int kd)]))
                      by_cases hc29 : kd = (1 : Int32)
                      · skip
                        refine Go.by (fun t k => XS.icmpNo X24.here hx rfl (hb hby at_281) rfl (teq hc29).2 k) ?_
                        show Go p e below _ (T24.setTop (mkF m 284 #[.val (.int ip), .val (.int iq), .val (.int ir), .val (.int is_), .val (.int im), .val (.int i0), .val (.int i1), .val (.int u0), .val (.int u1), .val (.int li), .val (.int lu), .val (.int j_sc), .val (.int j_sl), .val (.int j_j0), .val (.int j_j1), .val (.int j_lj), .val (.int j_tc), .val (.int j_tl), .val (.int j_v0), .val (.int j_v1), .val (.int j_lv), .val (.int kd), .val (.ref b1), .unset, .unset] []))
                        refine Go.by (fun t k => XS.aload X24.here hx rfl (hb hby at_284) rfl rfl k) ?_
                        show Go p e below _ (T24.setTop (mkF m 286 #[.val (.int ip), .val (.int iq), .val (.int ir), .val (.int is_), .val (.int im), .val (.int i0), .val (.int i1), .val (.int u0), .val (.int u1), .val (.int li), .val (.int lu), .val (.int j_sc), .val (.int j_sl), .val (.int j_j0), .val (.int j_j1), .val (.int j_lj), .val (.int j_tc), .val (.int j_tl), .val (.int j_v0), .val (.int j_v1), .val (.int j_lv), .val (.int kd), .val (.ref b1), .unset, .unset] [(.ref b1)]))
                        refine Go.by (fun t k => XS.aconstNull X24.here hx rfl (hb hby at_286) k) ?_
                        show Go p e below _ (T24.setTop (mkF m 287 #[.val (.int ip), .val (.int iq), .val (.int ir), .val (.int is_), .val (.int im), .val (.int i0), .val (.int i1), .val (.int u0), .val (.int u1), .val (.int li), .val (.int lu), .val (.int j_sc), .val (.int j_sl), .val (.int j_j0), .val (.int j_j1), .val (.int j_lj), .val (.int j_tc), .val (.int j_tl), .val (.int j_v0), .val (.int j_v1), .val (.int j_lv), .val (.int kd), .val (.ref b1), .unset, .unset] [.null, (.ref b1)]))
                        have F31 : Old Z n0 T24.heap := (F25.keep K24 (allS ge1 all0))
                        have F32 : Keep h0 T24.heap [] := (F28.trans K24 (allS (Or.inr sz1) all0))
                        obtain ⟨cq30, kq30, q30a, q30b, q30c⟩ := isOf hZ rfl F24_0
                        obtain ⟨_, _, ⟨T30, L30, k30, n30⟩, -, X30, ⟨Lc30, hQ30, l30, y30, z30⟩, st30⟩ := X24.virtualBack hx (y := (⟨"com/example/tattler/tattler/channel/WatchedResource", "equals", "(Ljava/lang/Object;)Z"⟩ : MethodName)) (z := (⟨"com/example/tattler/tattler/channel/WatchedResource", "equals", "(Ljava/lang/Object;)Z"⟩ : MethodName)) hown (mvT hZ (hw _ (List.mem_of_getElem? (i := 40) rfl))) (mvT hZ (hw _ (List.mem_of_getElem? (i := 41) rfl))) (notFace_of_selects (args := #[]) (mvT hZ (hw _ (List.mem_of_getElem? (i := 43) rfl)))) (mvT hZ (hw _ (List.mem_of_getElem? (i := 43) rfl))) (mvT hZ (hw _ (List.mem_of_getElem? (i := 42) rfl))) (by decide) (backOf (W := 0) (weq_null l Z a0 hw [] b1 T24.heap n0 F31) hZ (hw _ (List.mem_of_getElem? (i := 44) rfl)) (hw _ (List.mem_of_getElem? (i := 2) rfl)) (by decide) (by decide)) q30a q30c (g := (mkF m 287 #[.val (.int ip), .val (.int iq), .val (.int ir), .val (.int is_), .val (.int im), .val (.int i0), .val (.int i1), .val (.int u0), .val (.int u1), .val (.int li), .val (.int lu), .val (.int j_sc), .val (.int j_sl), .val (.int j_j0), .val (.int j_j1), .val (.int j_lj), .val (.int j_tc), .val (.int j_tl), .val (.int j_v0), .val (.int j_v1), .val (.int j_lv), .val (.int kd), .val (.ref b1), .unset, .unset] [.null, (.ref b1)])) rfl (by rw [hml]; rfl) (Steps.refl _) (argsL := [.null]) (rest := []) (lenOf pd_10 rfl) rfl (by show 2 * 0 + _ ≤ _; exact Nat.le_of_eq rfl) (hb hby at_287) (fun _ _ => ⟨rfl, rfl, (by decide : 13 + 0 ≤ _), (by decide : 26 + 0 ≤ _)⟩)
                        dsimp only [Pt.U, Pt.locs, Pt.cells, Pt.slots] at X30 l30 y30 z30 st30 hQ30
                        subst l30 y30 z30
                        obtain ⟨rfl, N30q, e30⟩ := hQ30
                        have N30 := Fr.app N24 N30q
                        refine Go.tr st30 ?_
                        show Go p e below _ (T30.setTop (mkF m 290 #[.val (.int ip), .val (.int iq), .val (.int ir), .val (.int is_), .val (.int im), .val (.int i0), .val (.int i1), .val (.int u0), .val (.int u1), .val (.int li), .val (.int lu), .val (.int j_sc), .val (.int j_sl), .val (.int j_j0), .val (.int j_j1), .val (.int j_lj), .val (.int j_tc), .val (.int j_tl), .val (.int j_v0), .val (.int j_v1), .val (.int j_lv), .val (.int kd), .val (.ref b1), .unset, .unset] [(.int (0 : Int32))]))
                        refine Go.by (fun t k => XS.ifNo X30.here hx rfl (hb hby at_290) rfl ((if0 _ _).trans (teq rfl).2) k) ?_
                        show Go p e below _ (T30.setTop (mkF m 293 #[.val (.int ip), .val (.int iq), .val (.int ir), .val (.int is_), .val (.int im), .val (.int i0), .val (.int i1), .val (.int u0), .val (.int u1), .val (.int li), .val (.int lu), .val (.int j_sc), .val (.int j_sl), .val (.int j_j0), .val (.int j_j1), .val (.int j_lj), .val (.int j_tc), .val (.int j_tl), .val (.int j_v0), .val (.int j_v1), .val (.int j_lv), .val (.int kd), .val (.ref b1), .unset, .unset] []))
                        refine Go.by (fun t k => XS.iconst X30.here hx rfl (hb hby at_293) k) ?_
                        show Go p e below _ (T30.setTop (mkF m 294 #[.val (.int ip), .val (.int iq), .val (.int ir), .val (.int is_), .val (.int im), .val (.int i0), .val (.int i1), .val (.int u0), .val (.int u1), .val (.int li), .val (.int lu), .val (.int j_sc), .val (.int j_sl), .val (.int j_j0), .val (.int j_j1), .val (.int j_lj), .val (.int j_tc), .val (.int j_tl), .val (.int j_v0), .val (.int j_v1), .val (.int j_lv), .val (.int kd), .val (.ref b1), .unset, .unset] [(.int (1 : Int32))]))
                        refine Go.by (fun t k => XS.goto X30.here hx rfl (pc0 := 294) (pc' := 298) rfl (hb hby at_294) (by decide) (by decide) k) ?_
                        show Go p e below _ (T30.setTop (mkF m 298 #[.val (.int ip), .val (.int iq), .val (.int ir), .val (.int is_), .val (.int im), .val (.int i0), .val (.int i1), .val (.int u0), .val (.int u1), .val (.int li), .val (.int lu), .val (.int j_sc), .val (.int j_sl), .val (.int j_j0), .val (.int j_j1), .val (.int j_lj), .val (.int j_tc), .val (.int j_tl), .val (.int j_v0), .val (.int j_v1), .val (.int j_lv), .val (.int kd), .val (.ref b1), .unset, .unset] [(.int (1 : Int32))]))
                        have hq : Q_law Z ip iq ir is_ im cs h0 n0 (some (.int (nar .boolean (1 : Int32)))) T24.heap _ := ⟨rfl, N30, F32⟩
                        have F33 : CHr Z own_EL s.vm h0 T13.vm T24.heap := (own_chK A13 K24 (sfS (Safe.exa hZ.alike F19 (by decide) (by decide)) sf0))
                        have F34 : T13.heap.size ≤ T24.heap.size := (Nat.le_trans hk13 K24.1)
                        exact Go.retNH hS (by rw [e30]; exact F34) (own_chEnd X30 e30 hZ hEL F33 hh) X30 hx (t := .boolean) Bd.returns (by simp) hlk (hb hby at_298) (by decide) (by decide) (by rw [e30]; exact hq)
                      · skip
                        refine Go.by (fun t k => XS.icmpYes X24.here hx rfl (pc0 := 281) (pc' := 299) rfl (hb hby at_281) rfl (feq hc29).2 (by decide) (by decide) k) ?_
                        show Go p e below _ (T24.setTop (mkF m 299 #[.val (.int ip), .val (.int iq), .val (.int ir), .val (.int is_), .val (.int im), .val (.int i0), .val (.int i1), .val (.int u0), .val (.int u1), .val (.int li), .val (.int lu), .val (.int j_sc), .val (.int j_sl), .val (.int j_j0), .val (.int j_j1), .val (.int j_lj), .val (.int j_tc), .val (.int j_tl), .val (.int j_v0), .val (.int j_v1), .val (.int j_lv), .val (.int kd), .val (.ref b1), .unset, .unset] []))
                        refine Go.by (fun t k => XS.iload X24.here hx rfl (hb hby at_299) rfl k) ?_
                        show Go p e below _ (T24.setTop (mkF m 301 #[.val (.int ip), .val (.int iq), .val (.int ir), .val (.int is_), .val (.int im), .val (.int i0), .val (.int i1), .val (.int u0), .val (.int u1), .val (.int li), .val (.int lu), .val (.int j_sc), .val (.int j_sl), .val (.int j_j0), .val (.int j_j1), .val (.int j_lj), .val (.int j_tc), .val (.int j_tl), .val (.int j_v0), .val (.int j_v1), .val (.int j_lv), .val (.int kd), .val (.ref b1), .unset, .unset] [(.int kd)]))
                        refine Go.by (fun t k => XS.iconst X24.here hx rfl (hb hby at_301) k) ?_
                        show Go p e below _ (T24.setTop (mkF m 302 #[.val (.int ip), .val (.int iq), .val (.int ir), .val (.int is_), .val (.int im), .val (.int i0), .val (.int i1), .val (.int u0), .val (.int u1), .val (.int li), .val (.int lu), .val (.int j_sc), .val (.int j_sl), .val (.int j_j0), .val (.int j_j1), .val (.int j_lj), .val (.int j_tc), .val (.int j_tl), .val (.int j_v0), .val (.int j_v1), .val (.int j_lv), .val (.int kd), .val (.ref b1), .unset, .unset] [(.int (2 : Int32)), (.int kd)]))
                        by_cases hc35 : kd = (2 : Int32)
                        · skip
                          refine Go.by (fun t k => XS.icmpNo X24.here hx rfl (hb hby at_302) rfl (teq hc35).2 k) ?_
                          show Go p e below _ (T24.setTop (mkF m 305 #[.val (.int ip), .val (.int iq), .val (.int ir), .val (.int is_), .val (.int im), .val (.int i0), .val (.int i1), .val (.int u0), .val (.int u1), .val (.int li), .val (.int lu), .val (.int j_sc), .val (.int j_sl), .val (.int j_j0), .val (.int j_j1), .val (.int j_lj), .val (.int j_tc), .val (.int j_tl), .val (.int j_v0), .val (.int j_v1), .val (.int j_lv), .val (.int kd), .val (.ref b1), .unset, .unset] []))
                          refine Go.by (fun t k => XS.iload X24.here hx rfl (hb hby at_305) rfl k) ?_
                          show Go p e below _ (T24.setTop (mkF m 307 #[.val (.int ip), .val (.int iq), .val (.int ir), .val (.int is_), .val (.int im), .val (.int i0), .val (.int i1), .val (.int u0), .val (.int u1), .val (.int li), .val (.int lu), .val (.int j_sc), .val (.int j_sl), .val (.int j_j0), .val (.int j_j1), .val (.int j_lj), .val (.int j_tc), .val (.int j_tl), .val (.int j_v0), .val (.int j_v1), .val (.int j_lv), .val (.int kd), .val (.ref b1), .unset, .unset] [(.int i0)]))
                          refine Go.by (fun t k => XS.iload X24.here hx rfl (hb hby at_307) rfl k) ?_
                          show Go p e below _ (T24.setTop (mkF m 309 #[.val (.int ip), .val (.int iq), .val (.int ir), .val (.int is_), .val (.int im), .val (.int i0), .val (.int i1), .val (.int u0), .val (.int u1), .val (.int li), .val (.int lu), .val (.int j_sc), .val (.int j_sl), .val (.int j_j0), .val (.int j_j1), .val (.int j_lj), .val (.int j_tc), .val (.int j_tl), .val (.int j_v0), .val (.int j_v1), .val (.int j_lv), .val (.int kd), .val (.ref b1), .unset, .unset] [(.int i1), (.int i0)]))
                          refine Go.by (fun t k => XS.iload X24.here hx rfl (hb hby at_309) rfl k) ?_
                          show Go p e below _ (T24.setTop (mkF m 311 #[.val (.int ip), .val (.int iq), .val (.int ir), .val (.int is_), .val (.int im), .val (.int i0), .val (.int i1), .val (.int u0), .val (.int u1), .val (.int li), .val (.int lu), .val (.int j_sc), .val (.int j_sl), .val (.int j_j0), .val (.int j_j1), .val (.int j_lj), .val (.int j_tc), .val (.int j_tl), .val (.int j_v0), .val (.int j_v1), .val (.int j_lv), .val (.int kd), .val (.ref b1), .unset, .unset] [(.int li), (.int i1), (.int i0)]))
                          have F37 : Old Z n0 T24.heap := (F25.keep K24 (allS ge1 all0))
                          have F38 : Exa Z T24.heap sa_4 "java/lang/String" := (F21.keep K24)
                          have F39 : Arv Z T24.heap xb_4 kb_4 .byte li (own_sv (nar .byte (i0.toInt8.toInt32)) (nar .byte (i1.toInt8.toInt32)) li) (.int (0 : Int32)) := ((F4_3.keep K13 nin0).keep K24 (ninS (Ne.symm ne11) nin0))
                          have F40 : Exa Z T24.heap sa_13 "java/lang/String" := (F13_0.keep K24)
                          have F41 : Arv Z T24.heap xb_13 kb_13 .byte lu (own_sv (nar .byte (u0.toInt8.toInt32)) (nar .byte (u1.toInt8.toInt32)) lu) (.int (0 : Int32)) := (F13_3.keep K24 (ninS (Ne.symm ne20) nin0))
                          have F42 : Keep h0 T24.heap [] := (F28.trans K24 (allS (Or.inr sz1) all0))
                          have F43 : T13.heap.size ≤ T24.heap.size := (Nat.le_trans hk13 K24.1)
                          have F44 : CHr Z own_EL s.vm h0 T13.vm T24.heap := (own_chK A13 K24 (sfS (Safe.exa hZ.alike F19 (by decide) (by decide)) sf0))
                          obtain ⟨_, _, ⟨T36, L36, k36, n36⟩, -, X36, sn36, gr36, ⟨Lc36, hQ36, l36, y36, z36, C36⟩, st36⟩ := callSS X24 hx (y := (⟨"com/example/tattler/tattler/channel/WatchedResourceEqualsPinLaw", "str", "(CCI)Ljava/lang/String;"⟩ : MethodName)) hown (mvT hZ (hw _ (List.mem_of_getElem? (i := 3) rfl))) (mvT hZ (hw _ (List.mem_of_getElem? (i := 4) rfl))) (mvT hZ (hw _ (List.mem_of_getElem? (i := 5) rfl))) (mvT hZ (hw _ (List.mem_of_getElem? (i := 6) rfl))) (by decide) (backOfSH (W := 0) (str l Z a0 hw [] i0 i1 li cs T24.heap n0 F37 P0 hcs hi0 hi1 hli) hZ (hw _ (List.mem_of_getElem? (i := 6) rfl)) (hw _ (List.mem_of_getElem? (i := 5) rfl)) (by decide) (by decide) hEL F44.1) (g := (mkF m 311 #[.val (.int ip), .val (.int iq), .val (.int ir), .val (.int is_), .val (.int im), .val (.int i0), .val (.int i1), .val (.int u0), .val (.int u1), .val (.int li), .val (.int lu), .val (.int j_sc), .val (.int j_sl), .val (.int j_j0), .val (.int j_j1), .val (.int j_lj), .val (.int j_tc), .val (.int j_tl), .val (.int j_v0), .val (.int j_v1), .val (.int j_lv), .val (.int kd), .val (.ref b1), .unset, .unset] [(.int li), (.int i1), (.int i0)])) rfl (by rw [hml]; rfl) (argsL := [(.int i0), (.int i1), (.int li)]) (rest := []) (lenOf pd_11 rfl) rfl (by show 2 * 0 + _ ≤ _; exact Nat.le_of_eq rfl) (hb hby at_311) (fun _ _ => ⟨rfl, rfl, (by decide : 13 + 6 ≤ _), (by decide : 26 + 12 ≤ _)⟩)
                          dsimp only [Pt.U, Pt.locs, Pt.cells, Pt.slots] at X36 l36 y36 z36 st36 hQ36 sn36 gr36 C36
                          subst l36 y36 z36
                          obtain ⟨X36, hS, hZ, hown⟩ := rebS hS (n1 := T24.heap.size) F43 X36 sn36 gr36 hZ hown
                          have hk36 : T36.heap.size ≤ T36.heap.size := Nat.le_refl _
                          have A36 := F44.trans C36
                          obtain ⟨sa_36, xb_36, kb_36, rfl, N36q, K36, fz36_sa, F36_0, F36_1, F36_2, F36_3⟩ := hQ36
                          have N36 := Fr.app N24 N36q
                          have ge_sa_36 : n0 ≤ sa_36 := Nat.le_trans (own_old_size F37) fz36_sa
                          have sz_sa_36 : h0.size ≤ sa_36 := Nat.le_trans F42.1 fz36_sa
                          have ne45 : b1 ≠ sa_36 := Nat.ne_of_lt (Nat.lt_of_lt_of_le F24_0.lt fz36_sa)
                          have ne46 : sa_4 ≠ sa_36 := Nat.ne_of_lt (Nat.lt_of_lt_of_le F38.lt fz36_sa)
                          have ne47 : xb_4 ≠ sa_36 := Nat.ne_of_lt (Nat.lt_of_lt_of_le F39.lt fz36_sa)
                          have ne48 : sa_13 ≠ sa_36 := Nat.ne_of_lt (Nat.lt_of_lt_of_le F40.lt fz36_sa)
                          have ne49 : xb_13 ≠ sa_36 := Nat.ne_of_lt (Nat.lt_of_lt_of_le F41.lt fz36_sa)
                          refine Go.tr st36 ?_
                          show Go p e below _ (T36.setTop (mkF m 314 #[.val (.int ip), .val (.int iq), .val (.int ir), .val (.int is_), .val (.int im), .val (.int i0), .val (.int i1), .val (.int u0), .val (.int u1), .val (.int li), .val (.int lu), .val (.int j_sc), .val (.int j_sl), .val (.int j_j0), .val (.int j_j1), .val (.int j_lj), .val (.int j_tc), .val (.int j_tl), .val (.int j_v0), .val (.int j_v1), .val (.int j_lv), .val (.int kd), .val (.ref b1), .unset, .unset] [(.ref sa_36)]))
                          have F50 : Exa Z T36.heap b1 "com/example/tattler/tattler/channel/WatchedResource" := (F24_0.keep K36)
                          have ne51 : b1 ≠ xb_36 := Exa.neArv F50 F36_3 (hw _ (List.mem_of_getElem? (i := 1) rfl))
                          have F52 : Exa Z T36.heap sa_4 "java/lang/String" := (F38.keep K36)
                          have ne53 : sa_4 ≠ xb_36 := Exa.neArv F52 F36_3 (hw _ (List.mem_of_getElem? (i := 8) rfl))
                          have F54 : Exa Z T36.heap sa_13 "java/lang/String" := (F40.keep K36)
                          have ne55 : sa_13 ≠ xb_36 := Exa.neArv F54 F36_3 (hw _ (List.mem_of_getElem? (i := 8) rfl))
                          have ne56 : sa_36 ≠ xb_36 := Exa.neArv F36_0 F36_3 (hw _ (List.mem_of_getElem? (i := 8) rfl))
                          refine Go.by (fun t k => XS.astore X36.here hx rfl (hb hby at_314) rfl rfl (l' := #[.val (.int ip), .val (.int iq), .val (.int ir), .val (.int is_), .val (.int im), .val (.int i0), .val (.int i1), .val (.int u0), .val (.int u1), .val (.int li), .val (.int lu), .val (.int j_sc), .val (.int j_sl), .val (.int j_j0), .val (.int j_j1), .val (.int j_lj), .val (.int j_tc), .val (.int j_tl), .val (.int j_v0), .val (.int j_v1), .val (.int j_lv), .val (.int kd), .val (.ref b1), .val (.ref sa_36), .unset]) rfl k) ?_
                          show Go p e below _ (T36.setTop (mkF m 316 #[.val (.int ip), .val (.int iq), .val (.int ir), .val (.int is_), .val (.int im), .val (.int i0), .val (.int i1), .val (.int u0), .val (.int u1), .val (.int li), .val (.int lu), .val (.int j_sc), .val (.int j_sl), .val (.int j_j0), .val (.int j_j1), .val (.int j_lj), .val (.int j_tc), .val (.int j_tl), .val (.int j_v0), .val (.int j_v1), .val (.int j_lv), .val (.int kd), .val (.ref b1), .val (.ref sa_36), .unset] []))
                          refine Go.by (fun t k => XS.aload X36.here hx rfl (hb hby at_316) rfl rfl k) ?_
                          show Go p e below _ (T36.setTop (mkF m 318 #[.val (.int ip), .val (.int iq), .val (.int ir), .val (.int is_), .val (.int im), .val (.int i0), .val (.int i1), .val (.int u0), .val (.int u1), .val (.int li), .val (.int lu), .val (.int j_sc), .val (.int j_sl), .val (.int j_j0), .val (.int j_j1), .val (.int j_lj), .val (.int j_tc), .val (.int j_tl), .val (.int j_v0), .val (.int j_v1), .val (.int j_lv), .val (.int kd), .val (.ref b1), .val (.ref sa_36), .unset] [(.ref b1)]))
                          refine Go.by (fun t k => XS.aload X36.here hx rfl (hb hby at_318) rfl rfl k) ?_
                          show Go p e below _ (T36.setTop (mkF m 320 #[.val (.int ip), .val (.int iq), .val (.int ir), .val (.int is_), .val (.int im), .val (.int i0), .val (.int i1), .val (.int u0), .val (.int u1), .val (.int li), .val (.int lu), .val (.int j_sc), .val (.int j_sl), .val (.int j_j0), .val (.int j_j1), .val (.int j_lj), .val (.int j_tc), .val (.int j_tl), .val (.int j_v0), .val (.int j_v1), .val (.int j_lv), .val (.int kd), .val (.ref b1), .val (.ref sa_36), .unset] [(.ref sa_36), (.ref b1)]))
                          have F58 : Old Z n0 T36.heap := (F37.keep K36 all0)
                          have F59 : Keep h0 T36.heap [] := (F42.trans K36 all0)
                          obtain ⟨cq57, kq57, q57a, q57b, q57c⟩ := isOf hZ rfl F50
                          obtain ⟨_, _, ⟨T57, L57, k57, n57⟩, -, X57, ⟨Lc57, hQ57, l57, y57, z57⟩, st57⟩ := X36.virtualBack hx (y := (⟨"com/example/tattler/tattler/channel/WatchedResource", "equals", "(Ljava/lang/Object;)Z"⟩ : MethodName)) (z := (⟨"com/example/tattler/tattler/channel/WatchedResource", "equals", "(Ljava/lang/Object;)Z"⟩ : MethodName)) hown (mvT hZ (hw _ (List.mem_of_getElem? (i := 40) rfl))) (mvT hZ (hw _ (List.mem_of_getElem? (i := 41) rfl))) (notFace_of_selects (args := #[]) (mvT hZ (hw _ (List.mem_of_getElem? (i := 43) rfl)))) (mvT hZ (hw _ (List.mem_of_getElem? (i := 43) rfl))) (mvT hZ (hw _ (List.mem_of_getElem? (i := 42) rfl))) (by decide) (backOf (W := 0) (weq_str l Z a0 hw [] b1 sa_36 T36.heap n0 F58 F36_0) hZ (hw _ (List.mem_of_getElem? (i := 44) rfl)) (hw _ (List.mem_of_getElem? (i := 2) rfl)) (by decide) (by decide)) q57a q57c (g := (mkF m 320 #[.val (.int ip), .val (.int iq), .val (.int ir), .val (.int is_), .val (.int im), .val (.int i0), .val (.int i1), .val (.int u0), .val (.int u1), .val (.int li), .val (.int lu), .val (.int j_sc), .val (.int j_sl), .val (.int j_j0), .val (.int j_j1), .val (.int j_lj), .val (.int j_tc), .val (.int j_tl), .val (.int j_v0), .val (.int j_v1), .val (.int j_lv), .val (.int kd), .val (.ref b1), .val (.ref sa_36), .unset] [(.ref sa_36), (.ref b1)])) rfl (by rw [hml]; rfl) (Steps.refl _) (argsL := [(.ref sa_36)]) (rest := []) (lenOf pd_10 rfl) rfl (by show 2 * 0 + _ ≤ _; exact Nat.le_of_eq rfl) (hb hby at_320) (fun _ _ => ⟨rfl, rfl, (by decide : 19 + 0 ≤ _), (by decide : 38 + 0 ≤ _)⟩)
                          dsimp only [Pt.U, Pt.locs, Pt.cells, Pt.slots] at X57 l57 y57 z57 st57 hQ57
                          subst l57 y57 z57
                          obtain ⟨rfl, N57q, e57⟩ := hQ57
                          have N57 := Fr.app N36 N57q
                          refine Go.tr st57 ?_
                          show Go p e below _ (T57.setTop (mkF m 323 #[.val (.int ip), .val (.int iq), .val (.int ir), .val (.int is_), .val (.int im), .val (.int i0), .val (.int i1), .val (.int u0), .val (.int u1), .val (.int li), .val (.int lu), .val (.int j_sc), .val (.int j_sl), .val (.int j_j0), .val (.int j_j1), .val (.int j_lj), .val (.int j_tc), .val (.int j_tl), .val (.int j_v0), .val (.int j_v1), .val (.int j_lv), .val (.int kd), .val (.ref b1), .val (.ref sa_36), .unset] [(.int (0 : Int32))]))
                          refine Go.by (fun t k => XS.ifNo X57.here hx rfl (hb hby at_323) rfl ((if0 _ _).trans (teq rfl).2) k) ?_
                          show Go p e below _ (T57.setTop (mkF m 326 #[.val (.int ip), .val (.int iq), .val (.int ir), .val (.int is_), .val (.int im), .val (.int i0), .val (.int i1), .val (.int u0), .val (.int u1), .val (.int li), .val (.int lu), .val (.int j_sc), .val (.int j_sl), .val (.int j_j0), .val (.int j_j1), .val (.int j_lj), .val (.int j_tc), .val (.int j_tl), .val (.int j_v0), .val (.int j_v1), .val (.int j_lv), .val (.int kd), .val (.ref b1), .val (.ref sa_36), .unset] []))
                          refine Go.by (fun t k => XS.iconst X57.here hx rfl (hb hby at_326) k) ?_
                          show Go p e below _ (T57.setTop (mkF m 327 #[.val (.int ip), .val (.int iq), .val (.int ir), .val (.int is_), .val (.int im), .val (.int i0), .val (.int i1), .val (.int u0), .val (.int u1), .val (.int li), .val (.int lu), .val (.int j_sc), .val (.int j_sl), .val (.int j_j0), .val (.int j_j1), .val (.int j_lj), .val (.int j_tc), .val (.int j_tl), .val (.int j_v0), .val (.int j_v1), .val (.int j_lv), .val (.int kd), .val (.ref b1), .val (.ref sa_36), .unset] [(.int (1 : Int32))]))
                          refine Go.by (fun t k => XS.goto X57.here hx rfl (pc0 := 327) (pc' := 331) rfl (hb hby at_327) (by decide) (by decide) k) ?_
                          show Go p e below _ (T57.setTop (mkF m 331 #[.val (.int ip), .val (.int iq), .val (.int ir), .val (.int is_), .val (.int im), .val (.int i0), .val (.int i1), .val (.int u0), .val (.int u1), .val (.int li), .val (.int lu), .val (.int j_sc), .val (.int j_sl), .val (.int j_j0), .val (.int j_j1), .val (.int j_lj), .val (.int j_tc), .val (.int j_tl), .val (.int j_v0), .val (.int j_v1), .val (.int j_lv), .val (.int kd), .val (.ref b1), .val (.ref sa_36), .unset] [(.int (1 : Int32))]))
                          have hq : Q_law Z ip iq ir is_ im cs h0 n0 (some (.int (nar .boolean (1 : Int32)))) T36.heap _ := ⟨rfl, N57, F59⟩
                          exact Go.retNH hS (by rw [e57]; exact hk36) (own_chEnd X57 e57 hZ hEL A36 hh) X57 hx (t := .boolean) Bd.returns (by simp) hlk (hb hby at_331) (by decide) (by decide) (by rw [e57]; exact hq)
                        · skip
                          refine Go.by (fun t k => XS.icmpYes X24.here hx rfl (pc0 := 302) (pc' := 332) rfl (hb hby at_302) rfl (feq hc35).2 (by decide) (by decide) k) ?_
                          show Go p e below _ (T24.setTop (mkF m 332 #[.val (.int ip), .val (.int iq), .val (.int ir), .val (.int is_), .val (.int im), .val (.int i0), .val (.int i1), .val (.int u0), .val (.int u1), .val (.int li), .val (.int lu), .val (.int j_sc), .val (.int j_sl), .val (.int j_j0), .val (.int j_j1), .val (.int j_lj), .val (.int j_tc), .val (.int j_tl), .val (.int j_v0), .val (.int j_v1), .val (.int j_lv), .val (.int kd), .val (.ref b1), .unset, .unset] []))
                          refine Go.by (fun t k => XS.iload X24.here hx rfl (hb hby at_332) rfl k) ?_
                          show Go p e below _ (T24.setTop (mkF m 334 #[.val (.int ip), .val (.int iq), .val (.int ir), .val (.int is_), .val (.int im), .val (.int i0), .val (.int i1), .val (.int u0), .val (.int u1), .val (.int li), .val (.int lu), .val (.int j_sc), .val (.int j_sl), .val (.int j_j0), .val (.int j_j1), .val (.int j_lj), .val (.int j_tc), .val (.int j_tl), .val (.int j_v0), .val (.int j_v1), .val (.int j_lv), .val (.int kd), .val (.ref b1), .unset, .unset] [(.int kd)]))
                          refine Go.by (fun t k => XS.iconst X24.here hx rfl (hb hby at_334) k) ?_
                          show Go p e below _ (T24.setTop (mkF m 335 #[.val (.int ip), .val (.int iq), .val (.int ir), .val (.int is_), .val (.int im), .val (.int i0), .val (.int i1), .val (.int u0), .val (.int u1), .val (.int li), .val (.int lu), .val (.int j_sc), .val (.int j_sl), .val (.int j_j0), .val (.int j_j1), .val (.int j_lj), .val (.int j_tc), .val (.int j_tl), .val (.int j_v0), .val (.int j_v1), .val (.int j_lv), .val (.int kd), .val (.ref b1), .unset, .unset] [(.int (3 : Int32)), (.int kd)]))
                          by_cases hc60 : kd = (3 : Int32)
                          · skip
                            refine Go.by (fun t k => XS.icmpNo X24.here hx rfl (hb hby at_335) rfl (teq hc60).2 k) ?_
                            show Go p e below _ (T24.setTop (mkF m 338 #[.val (.int ip), .val (.int iq), .val (.int ir), .val (.int is_), .val (.int im), .val (.int i0), .val (.int i1), .val (.int u0), .val (.int u1), .val (.int li), .val (.int lu), .val (.int j_sc), .val (.int j_sl), .val (.int j_j0), .val (.int j_j1), .val (.int j_lj), .val (.int j_tc), .val (.int j_tl), .val (.int j_v0), .val (.int j_v1), .val (.int j_lv), .val (.int kd), .val (.ref b1), .unset, .unset] []))
                            refine Go.by (fun t k => XS.aload X24.here hx rfl (hb hby at_338) rfl rfl k) ?_
                            show Go p e below _ (T24.setTop (mkF m 340 #[.val (.int ip), .val (.int iq), .val (.int ir), .val (.int is_), .val (.int im), .val (.int i0), .val (.int i1), .val (.int u0), .val (.int u1), .val (.int li), .val (.int lu), .val (.int j_sc), .val (.int j_sl), .val (.int j_j0), .val (.int j_j1), .val (.int j_lj), .val (.int j_tc), .val (.int j_tl), .val (.int j_v0), .val (.int j_v1), .val (.int j_lv), .val (.int kd), .val (.ref b1), .unset, .unset] [(.ref b1)]))
                            refine Go.by (fun t k => XS.aload X24.here hx rfl (hb hby at_340) rfl rfl k) ?_
                            show Go p e below _ (T24.setTop (mkF m 342 #[.val (.int ip), .val (.int iq), .val (.int ir), .val (.int is_), .val (.int im), .val (.int i0), .val (.int i1), .val (.int u0), .val (.int u1), .val (.int li), .val (.int lu), .val (.int j_sc), .val (.int j_sl), .val (.int j_j0), .val (.int j_j1), .val (.int j_lj), .val (.int j_tc), .val (.int j_tl), .val (.int j_v0), .val (.int j_v1), .val (.int j_lv), .val (.int kd), .val (.ref b1), .unset, .unset] [(.ref b1), (.ref b1)]))
                            have F62 : Old Z n0 T24.heap := (F25.keep K24 (allS ge1 all0))
                            have F63 : Exa Z T24.heap sa_4 "java/lang/String" := (F21.keep K24)
                            have F64 : Exa Z T24.heap sa_13 "java/lang/String" := (F13_0.keep K24)
                            have F65 : Keep h0 T24.heap [] := (F28.trans K24 (allS (Or.inr sz1) all0))
                            obtain ⟨cq61, kq61, q61a, q61b, q61c⟩ := isOf hZ rfl F24_0
                            obtain ⟨_, _, ⟨T61, L61, k61, n61⟩, -, X61, ⟨Lc61, hQ61, l61, y61, z61⟩, st61⟩ := X24.virtualBack hx (y := (⟨"com/example/tattler/tattler/channel/WatchedResource", "equals", "(Ljava/lang/Object;)Z"⟩ : MethodName)) (z := (⟨"com/example/tattler/tattler/channel/WatchedResource", "equals", "(Ljava/lang/Object;)Z"⟩ : MethodName)) hown (mvT hZ (hw _ (List.mem_of_getElem? (i := 40) rfl))) (mvT hZ (hw _ (List.mem_of_getElem? (i := 41) rfl))) (notFace_of_selects (args := #[]) (mvT hZ (hw _ (List.mem_of_getElem? (i := 43) rfl)))) (mvT hZ (hw _ (List.mem_of_getElem? (i := 43) rfl))) (mvT hZ (hw _ (List.mem_of_getElem? (i := 42) rfl))) (by decide) (backOf (W := 0) (weq_self l Z a0 hw [] b1 b1 sa_4 sa_13 T24.heap n0 F62 F24_0 F24_1 F24_2 F63 F64) hZ (hw _ (List.mem_of_getElem? (i := 44) rfl)) (hw _ (List.mem_of_getElem? (i := 2) rfl)) (by decide) (by decide)) q61a q61c (g := (mkF m 342 #[.val (.int ip), .val (.int iq), .val (.int ir), .val (.int is_), .val (.int im), .val (.int i0), .val (.int i1), .val (.int u0), .val (.int u1), .val (.int li), .val (.int lu), .val (.int j_sc), .val (.int j_sl), .val (.int j_j0), .val (.int j_j1), .val (.int j_lj), .val (.int j_tc), .val (.int j_tl), .val (.int j_v0), .val (.int j_v1), .val (.int j_lv), .val (.int kd), .val (.ref b1), .unset, .unset] [(.ref b1), (.ref b1)])) rfl (by rw [hml]; rfl) (Steps.refl _) (argsL := [(.ref b1)]) (rest := []) (lenOf pd_10 rfl) rfl (by show 2 * 0 + _ ≤ _; exact Nat.le_of_eq rfl) (hb hby at_342) (fun _ _ => ⟨rfl, rfl, (by decide : 13 + 0 ≤ _), (by decide : 26 + 0 ≤ _)⟩)
                            dsimp only [Pt.U, Pt.locs, Pt.cells, Pt.slots] at X61 l61 y61 z61 st61 hQ61
                            subst l61 y61 z61
                            obtain ⟨rfl, N61q, e61⟩ := hQ61
                            have N61 := Fr.app N24 N61q
                            refine Go.tr st61 ?_
                            show Go p e below _ (T61.setTop (mkF m 345 #[.val (.int ip), .val (.int iq), .val (.int ir), .val (.int is_), .val (.int im), .val (.int i0), .val (.int i1), .val (.int u0), .val (.int u1), .val (.int li), .val (.int lu), .val (.int j_sc), .val (.int j_sl), .val (.int j_j0), .val (.int j_j1), .val (.int j_lj), .val (.int j_tc), .val (.int j_tl), .val (.int j_v0), .val (.int j_v1), .val (.int j_lv), .val (.int kd), .val (.ref b1), .unset, .unset] [(.int (1 : Int32))]))
                            have hq : Q_law Z ip iq ir is_ im cs h0 n0 (some (.int (nar .boolean (1 : Int32)))) T24.heap _ := ⟨rfl, N61, F65⟩
                            have F66 : CHr Z own_EL s.vm h0 T13.vm T24.heap := (own_chK A13 K24 (sfS (Safe.exa hZ.alike F19 (by decide) (by decide)) sf0))
                            have F67 : T13.heap.size ≤ T24.heap.size := (Nat.le_trans hk13 K24.1)
                            exact Go.retNH hS (by rw [e61]; exact F67) (own_chEnd X61 e61 hZ hEL F66 hh) X61 hx (t := .boolean) Bd.returns (by simp) hlk (hb hby at_345) (by decide) (by decide) (by rw [e61]; exact hq)
                          · skip
                            refine Go.by (fun t k => XS.icmpYes X24.here hx rfl (pc0 := 335) (pc' := 346) rfl (hb hby at_335) rfl (feq hc60).2 (by decide) (by decide) k) ?_
                            show Go p e below _ (T24.setTop (mkF m 346 #[.val (.int ip), .val (.int iq), .val (.int ir), .val (.int is_), .val (.int im), .val (.int i0), .val (.int i1), .val (.int u0), .val (.int u1), .val (.int li), .val (.int lu), .val (.int j_sc), .val (.int j_sl), .val (.int j_j0), .val (.int j_j1), .val (.int j_lj), .val (.int j_tc), .val (.int j_tl), .val (.int j_v0), .val (.int j_v1), .val (.int j_lv), .val (.int kd), .val (.ref b1), .unset, .unset] []))
                            have F68 : Exa Z T24.heap sa_4 "java/lang/String" := (F21.keep K24)
                            have F69 : Arv Z T24.heap xb_4 kb_4 .byte li (own_sv (nar .byte (i0.toInt8.toInt32)) (nar .byte (i1.toInt8.toInt32)) li) (.int (0 : Int32)) := ((F4_3.keep K13 nin0).keep K24 (ninS (Ne.symm ne11) nin0))
                            have F70 : Exa Z T24.heap sa_13 "java/lang/String" := (F13_0.keep K24)
                            have F71 : Arv Z T24.heap xb_13 kb_13 .byte lu (own_sv (nar .byte (u0.toInt8.toInt32)) (nar .byte (u1.toInt8.toInt32)) lu) (.int (0 : Int32)) := (F13_3.keep K24 (ninS (Ne.symm ne20) nin0))
                            have F72 : Old Z n0 T24.heap := (F25.keep K24 (allS ge1 all0))
                            have F73 : Keep h0 T24.heap [] := (F28.trans K24 (allS (Or.inr sz1) all0))
                            obtain ⟨T74, h74, X74, e74, E74, A74, D74, -, st74⟩ := newO X24 hx hZ hown (hw _ (List.mem_of_getElem? (i := 0) rfl)) (hw _ (List.mem_of_getElem? (i := 1) rfl)) (hw _ (List.mem_of_getElem? (i := 2) rfl)) rfl (g := (mkF m 346 #[.val (.int ip), .val (.int iq), .val (.int ir), .val (.int is_), .val (.int im), .val (.int i0), .val (.int i1), .val (.int u0), .val (.int u1), .val (.int li), .val (.int lu), .val (.int j_sc), .val (.int j_sl), .val (.int j_j0), .val (.int j_j1), .val (.int j_lj), .val (.int j_tc), .val (.int j_tl), .val (.int j_v0), .val (.int j_v1), .val (.int j_lv), .val (.int kd), .val (.ref b1), .unset, .unset] [])) rfl (hb hby at_346) (by decide) (by decide)
                            obtain ⟨b74, g74⟩ : ∃ z, z = T24.heap.size := ⟨_, rfl⟩
                            rw [← g74] at A74 D74 st74
                            have gl74 : T24.heap.size ≤ b74 := Nat.le_of_eq g74.symm
                            have ge74 : n0 ≤ b74 := Nat.le_trans (own_old_size F72) gl74
                            have sz74 : h0.size ≤ b74 := Nat.le_trans F73.1 gl74
                            have ne75 : b1 ≠ b74 := Nat.ne_of_lt (Nat.lt_of_lt_of_le F24_0.lt gl74)
                            have ne76 : sa_4 ≠ b74 := Nat.ne_of_lt (Nat.lt_of_lt_of_le F68.lt gl74)
                            have ne77 : xb_4 ≠ b74 := Nat.ne_of_lt (Nat.lt_of_lt_of_le F69.lt gl74)
                            have ne78 : sa_13 ≠ b74 := Nat.ne_of_lt (Nat.lt_of_lt_of_le F70.lt gl74)
                            have ne79 : xb_13 ≠ b74 := Nat.ne_of_lt (Nat.lt_of_lt_of_le F71.lt gl74)
                            have F80 : Fld Z h74 b74 "com/example/tattler/tattler/channel/WatchedResource" "id" "Ljava/lang/String;" .null := D74 (Or.inr (hw _ (List.mem_of_getElem? (i := 34) rfl))) (ty := (.object "java/lang/String")) (by decide)
                            have F81 : Fld Z h74 b74 "com/example/tattler/tattler/channel/WatchedResource" "uri" "Ljava/lang/String;" .null := D74 (Or.inr (hw _ (List.mem_of_getElem? (i := 36) rfl))) (ty := (.object "java/lang/String")) (by decide)
                            refine Go.by st74 ?_
                            show Go p e below _ (T74.setTop (mkF m 349 #[.val (.int ip), .val (.int iq), .val (.int ir), .val (.int is_), .val (.int im), .val (.int i0), .val (.int i1), .val (.int u0), .val (.int u1), .val (.int li), .val (.int lu), .val (.int j_sc), .val (.int j_sl), .val (.int j_j0), .val (.int j_j1), .val (.int j_lj), .val (.int j_tc), .val (.int j_tl), .val (.int j_v0), .val (.int j_v1), .val (.int j_lv), .val (.int kd), .val (.ref b1), .unset, .unset] [(.ref b74)]))
                            refine Go.by (fun t k => XS.dup X74.here hx rfl (hb hby at_349) rfl rfl k) ?_
                            show Go p e below _ (T74.setTop (mkF m 350 #[.val (.int ip), .val (.int iq), .val (.int ir), .val (.int is_), .val (.int im), .val (.int i0), .val (.int i1), .val (.int u0), .val (.int u1), .val (.int li), .val (.int lu), .val (.int j_sc), .val (.int j_sl), .val (.int j_j0), .val (.int j_j1), .val (.int j_lj), .val (.int j_tc), .val (.int j_tl), .val (.int j_v0), .val (.int j_v1), .val (.int j_lv), .val (.int kd), .val (.ref b1), .unset, .unset] [(.ref b74), (.ref b74)]))
                            refine Go.by (fun t k => XS.iload X74.here hx rfl (hb hby at_350) rfl k) ?_
                            show Go p e below _ (T74.setTop (mkF m 352 #[.val (.int ip), .val (.int iq), .val (.int ir), .val (.int is_), .val (.int im), .val (.int i0), .val (.int i1), .val (.int u0), .val (.int u1), .val (.int li), .val (.int lu), .val (.int j_sc), .val (.int j_sl), .val (.int j_j0), .val (.int j_j1), .val (.int j_lj), .val (.int j_tc), .val (.int j_tl), .val (.int j_v0), .val (.int j_v1), .val (.int j_lv), .val (.int kd), .val (.ref b1), .unset, .unset] [(.int j_j0), (.ref b74), (.ref b74)]))
                            refine Go.by (fun t k => XS.iload X74.here hx rfl (hb hby at_352) rfl k) ?_
                            show Go p e below _ (T74.setTop (mkF m 354 #[.val (.int ip), .val (.int iq), .val (.int ir), .val (.int is_), .val (.int im), .val (.int i0), .val (.int i1), .val (.int u0), .val (.int u1), .val (.int li), .val (.int lu), .val (.int j_sc), .val (.int j_sl), .val (.int j_j0), .val (.int j_j1), .val (.int j_lj), .val (.int j_tc), .val (.int j_tl), .val (.int j_v0), .val (.int j_v1), .val (.int j_lv), .val (.int kd), .val (.ref b1), .unset, .unset] [(.int j_j1), (.int j_j0), (.ref b74), (.ref b74)]))
                            refine Go.by (fun t k => XS.iload X74.here hx rfl (hb hby at_354) rfl k) ?_
                            show Go p e below _ (T74.setTop (mkF m 356 #[.val (.int ip), .val (.int iq), .val (.int ir), .val (.int is_), .val (.int im), .val (.int i0), .val (.int i1), .val (.int u0), .val (.int u1), .val (.int li), .val (.int lu), .val (.int j_sc), .val (.int j_sl), .val (.int j_j0), .val (.int j_j1), .val (.int j_lj), .val (.int j_tc), .val (.int j_tl), .val (.int j_v0), .val (.int j_v1), .val (.int j_lv), .val (.int kd), .val (.ref b1), .unset, .unset] [(.int j_lj), (.int j_j1), (.int j_j0), (.ref b74), (.ref b74)]))
                            have F83 : Old Z n0 h74 := (F72.ext E74)
                            have F84 : Exa Z h74 b1 "com/example/tattler/tattler/channel/WatchedResource" := (F24_0.ext E74)
                            have F85 : Exa Z h74 sa_4 "java/lang/String" := (F68.ext E74)
                            have F86 : Arv Z h74 xb_4 kb_4 .byte li (own_sv (nar .byte (i0.toInt8.toInt32)) (nar .byte (i1.toInt8.toInt32)) li) (.int (0 : Int32)) := (F69.ext E74)
                            have F87 : Exa Z h74 sa_13 "java/lang/String" := (F70.ext E74)
                            have F88 : Arv Z h74 xb_13 kb_13 .byte lu (own_sv (nar .byte (u0.toInt8.toInt32)) (nar .byte (u1.toInt8.toInt32)) lu) (.int (0 : Int32)) := (F71.ext E74)
                            have F89 : Keep h0 h74 [] := (F73.ext E74)
                            have F90 : T13.heap.size ≤ h74.size := (Nat.le_trans (Nat.le_trans hk13 K24.1) E74.1)
                            have F91 : CHr Z own_EL s.vm h0 T13.vm h74 := (own_chE (own_chK A13 K24 (sfS (Safe.exa hZ.alike F19 (by decide) (by decide)) sf0)) E74)
                            obtain ⟨_, _, ⟨T82, L82, k82, n82⟩, -, X82, sn82, gr82, ⟨Lc82, hQ82, l82, y82, z82, C82⟩, st82⟩ := callSS X74 hx (y := (⟨"com/example/tattler/tattler/channel/WatchedResourceEqualsPinLaw", "str", "(CCI)Ljava/lang/String;"⟩ : MethodName)) hown (mvT hZ (hw _ (List.mem_of_getElem? (i := 3) rfl))) (mvT hZ (hw _ (List.mem_of_getElem? (i := 4) rfl))) (mvT hZ (hw _ (List.mem_of_getElem? (i := 5) rfl))) (mvT hZ (hw _ (List.mem_of_getElem? (i := 6) rfl))) (by decide) (backOfSH (W := 2) (str l Z a0 hw [] j_j0 j_j1 j_lj cs h74 n0 F83 P0 hcs hj_j0 hj_j1 hj_lj) hZ (hw _ (List.mem_of_getElem? (i := 6) rfl)) (hw _ (List.mem_of_getElem? (i := 5) rfl)) (by decide) (by decide) hEL F91.1) (g := (mkF m 356 #[.val (.int ip), .val (.int iq), .val (.int ir), .val (.int is_), .val (.int im), .val (.int i0), .val (.int i1), .val (.int u0), .val (.int u1), .val (.int li), .val (.int lu), .val (.int j_sc), .val (.int j_sl), .val (.int j_j0), .val (.int j_j1), .val (.int j_lj), .val (.int j_tc), .val (.int j_tl), .val (.int j_v0), .val (.int j_v1), .val (.int j_lv), .val (.int kd), .val (.ref b1), .unset, .unset] [(.int j_lj), (.int j_j1), (.int j_j0), (.ref b74), (.ref b74)])) rfl (by rw [hml]; rfl) (argsL := [(.int j_j0), (.int j_j1), (.int j_lj)]) (rest := [(.ref b74), (.ref b74)]) (lenOf pd_11 rfl) rfl (by show 2 * 0 + _ ≤ _; exact Nat.le_of_eq rfl) (hb hby at_356) (fun _ _ => ⟨rfl, e74, (by decide : 14 + 6 ≤ _), (by decide : 28 + 12 ≤ _)⟩)
                            dsimp only [Pt.U, Pt.locs, Pt.cells, Pt.slots] at X82 l82 y82 z82 st82 hQ82 sn82 gr82 C82
                            subst l82 y82 z82
                            obtain ⟨X82, hS, hZ, hown⟩ := rebS hS (n1 := T74.heap.size) (by rw [e74]; exact F90) X82 sn82 gr82 hZ hown
                            have hk82 : T82.heap.size ≤ T82.heap.size := Nat.le_refl _
                            have A82 := F91.trans C82
                            obtain ⟨sa_82, xb_82, kb_82, rfl, N82q, K82, fz82_sa, F82_0, F82_1, F82_2, F82_3⟩ := hQ82
                            have N82 := Fr.app N24 N82q
                            have ge_sa_82 : n0 ≤ sa_82 := Nat.le_trans (own_old_size F83) fz82_sa
                            have sz_sa_82 : h0.size ≤ sa_82 := Nat.le_trans F89.1 fz82_sa
                            have ne92 : b1 ≠ sa_82 := Nat.ne_of_lt (Nat.lt_of_lt_of_le F84.lt fz82_sa)
                            have ne93 : sa_4 ≠ sa_82 := Nat.ne_of_lt (Nat.lt_of_lt_of_le F85.lt fz82_sa)
                            have ne94 : xb_4 ≠ sa_82 := Nat.ne_of_lt (Nat.lt_of_lt_of_le F86.lt fz82_sa)
                            have ne95 : sa_13 ≠ sa_82 := Nat.ne_of_lt (Nat.lt_of_lt_of_le F87.lt fz82_sa)
                            have ne96 : xb_13 ≠ sa_82 := Nat.ne_of_lt (Nat.lt_of_lt_of_le F88.lt fz82_sa)
                            have ne97 : b74 ≠ sa_82 := Nat.ne_of_lt (Nat.lt_of_lt_of_le A74.lt fz82_sa)
                            refine Go.tr st82 ?_
                            show Go p e below _ (T82.setTop (mkF m 359 #[.val (.int ip), .val (.int iq), .val (.int ir), .val (.int is_), .val (.int im), .val (.int i0), .val (.int i1), .val (.int u0), .val (.int u1), .val (.int li), .val (.int lu), .val (.int j_sc), .val (.int j_sl), .val (.int j_j0), .val (.int j_j1), .val (.int j_lj), .val (.int j_tc), .val (.int j_tl), .val (.int j_v0), .val (.int j_v1), .val (.int j_lv), .val (.int kd), .val (.ref b1), .unset, .unset] [(.ref sa_82), (.ref b74), (.ref b74)]))
                            have F98 : Exa Z T82.heap b1 "com/example/tattler/tattler/channel/WatchedResource" := (F84.keep K82)
                            have ne99 : b1 ≠ xb_82 := Exa.neArv F98 F82_3 (hw _ (List.mem_of_getElem? (i := 1) rfl))
                            have F100 : Exa Z T82.heap sa_4 "java/lang/String" := (F85.keep K82)
                            have ne101 : sa_4 ≠ xb_82 := Exa.neArv F100 F82_3 (hw _ (List.mem_of_getElem? (i := 8) rfl))
                            have F102 : Exa Z T82.heap sa_13 "java/lang/String" := (F87.keep K82)
                            have ne103 : sa_13 ≠ xb_82 := Exa.neArv F102 F82_3 (hw _ (List.mem_of_getElem? (i := 8) rfl))
                            have F104 : Exa Z T82.heap b74 "com/example/tattler/tattler/channel/WatchedResource" := (A74.keep K82)
                            have ne105 : b74 ≠ xb_82 := Exa.neArv F104 F82_3 (hw _ (List.mem_of_getElem? (i := 1) rfl))
                            have ne106 : sa_82 ≠ xb_82 := Exa.neArv F82_0 F82_3 (hw _ (List.mem_of_getElem? (i := 8) rfl))
                            refine Go.by (fun t k => XS.iload X82.here hx rfl (hb hby at_359) rfl k) ?_
                            show Go p e below _ (T82.setTop (mkF m 361 #[.val (.int ip), .val (.int iq), .val (.int ir), .val (.int is_), .val (.int im), .val (.int i0), .val (.int i1), .val (.int u0), .val (.int u1), .val (.int li), .val (.int lu), .val (.int j_sc), .val (.int j_sl), .val (.int j_j0), .val (.int j_j1), .val (.int j_lj), .val (.int j_tc), .val (.int j_tl), .val (.int j_v0), .val (.int j_v1), .val (.int j_lv), .val (.int kd), .val (.ref b1), .unset, .unset] [(.int j_v0), (.ref sa_82), (.ref b74), (.ref b74)]))
                            refine Go.by (fun t k => XS.iload X82.here hx rfl (hb hby at_361) rfl k) ?_
                            show Go p e below _ (T82.setTop (mkF m 363 #[.val (.int ip), .val (.int iq), .val (.int ir), .val (.int is_), .val (.int im), .val (.int i0), .val (.int i1), .val (.int u0), .val (.int u1), .val (.int li), .val (.int lu), .val (.int j_sc), .val (.int j_sl), .val (.int j_j0), .val (.int j_j1), .val (.int j_lj), .val (.int j_tc), .val (.int j_tl), .val (.int j_v0), .val (.int j_v1), .val (.int j_lv), .val (.int kd), .val (.ref b1), .unset, .unset] [(.int j_v1), (.int j_v0), (.ref sa_82), (.ref b74), (.ref b74)]))
                            refine Go.by (fun t k => XS.iload X82.here hx rfl (hb hby at_363) rfl k) ?_
                            show Go p e below _ (T82.setTop (mkF m 365 #[.val (.int ip), .val (.int iq), .val (.int ir), .val (.int is_), .val (.int im), .val (.int i0), .val (.int i1), .val (.int u0), .val (.int u1), .val (.int li), .val (.int lu), .val (.int j_sc), .val (.int j_sl), .val (.int j_j0), .val (.int j_j1), .val (.int j_lj), .val (.int j_tc), .val (.int j_tl), .val (.int j_v0), .val (.int j_v1), .val (.int j_lv), .val (.int kd), .val (.ref b1), .unset, .unset] [(.int j_lv), (.int j_v1), (.int j_v0), (.ref sa_82), (.ref b74), (.ref b74)]))
                            have F108 : Old Z n0 T82.heap := (F83.keep K82 all0)
                            have F109 : Arv Z T82.heap xb_4 kb_4 .byte li (own_sv (nar .byte (i0.toInt8.toInt32)) (nar .byte (i1.toInt8.toInt32)) li) (.int (0 : Int32)) := (F86.keep K82 nin0)
                            have F110 : Arv Z T82.heap xb_13 kb_13 .byte lu (own_sv (nar .byte (u0.toInt8.toInt32)) (nar .byte (u1.toInt8.toInt32)) lu) (.int (0 : Int32)) := (F88.keep K82 nin0)
                            have F111 : Keep h0 T82.heap [] := (F89.trans K82 all0)
                            obtain ⟨_, _, ⟨T107, L107, k107, n107⟩, -, X107, sn107, gr107, ⟨Lc107, hQ107, l107, y107, z107, C107⟩, st107⟩ := callSS X82 hx (y := (⟨"com/example/tattler/tattler/channel/WatchedResourceEqualsPinLaw", "str", "(CCI)Ljava/lang/String;"⟩ : MethodName)) hown (mvT hZ (hw _ (List.mem_of_getElem? (i := 3) rfl))) (mvT hZ (hw _ (List.mem_of_getElem? (i := 4) rfl))) (mvT hZ (hw _ (List.mem_of_getElem? (i := 5) rfl))) (mvT hZ (hw _ (List.mem_of_getElem? (i := 6) rfl))) (by decide) (backOfSH (W := 3) (str l Z a0 hw [] j_v0 j_v1 j_lv cs T82.heap n0 F108 P0 hcs hj_v0 hj_v1 hj_lv) hZ (hw _ (List.mem_of_getElem? (i := 6) rfl)) (hw _ (List.mem_of_getElem? (i := 5) rfl)) (by decide) (by decide) hEL A82.1) (g := (mkF m 365 #[.val (.int ip), .val (.int iq), .val (.int ir), .val (.int is_), .val (.int im), .val (.int i0), .val (.int i1), .val (.int u0), .val (.int u1), .val (.int li), .val (.int lu), .val (.int j_sc), .val (.int j_sl), .val (.int j_j0), .val (.int j_j1), .val (.int j_lj), .val (.int j_tc), .val (.int j_tl), .val (.int j_v0), .val (.int j_v1), .val (.int j_lv), .val (.int kd), .val (.ref b1), .unset, .unset] [(.int j_lv), (.int j_v1), (.int j_v0), (.ref sa_82), (.ref b74), (.ref b74)])) rfl (by rw [hml]; rfl) (argsL := [(.int j_v0), (.int j_v1), (.int j_lv)]) (rest := [(.ref sa_82), (.ref b74), (.ref b74)]) (lenOf pd_11 rfl) rfl (by show 2 * 0 + _ ≤ _; exact Nat.le_of_eq rfl) (hb hby at_365) (fun _ _ => ⟨rfl, rfl, (by decide : 20 + 6 ≤ _), (by decide : 40 + 12 ≤ _)⟩)
                            dsimp only [Pt.U, Pt.locs, Pt.cells, Pt.slots] at X107 l107 y107 z107 st107 hQ107 sn107 gr107 C107
                            subst l107 y107 z107
                            obtain ⟨X107, hS, hZ, hown⟩ := rebS hS (n1 := T82.heap.size) hk82 X107 sn107 gr107 hZ hown
                            have hk107 : T107.heap.size ≤ T107.heap.size := Nat.le_refl _
                            have A107 := A82.trans C107
                            obtain ⟨sa_107, xb_107, kb_107, rfl, N107q, K107, fz107_sa, F107_0, F107_1, F107_2, F107_3⟩ := hQ107
                            have N107 := Fr.app N82 N107q
                            have ge_sa_107 : n0 ≤ sa_107 := Nat.le_trans (own_old_size F108) fz107_sa
                            have sz_sa_107 : h0.size ≤ sa_107 := Nat.le_trans F111.1 fz107_sa
                            have ne112 : b1 ≠ sa_107 := Nat.ne_of_lt (Nat.lt_of_lt_of_le F98.lt fz107_sa)
                            have ne113 : sa_4 ≠ sa_107 := Nat.ne_of_lt (Nat.lt_of_lt_of_le F100.lt fz107_sa)
                            have ne114 : xb_4 ≠ sa_107 := Nat.ne_of_lt (Nat.lt_of_lt_of_le F109.lt fz107_sa)
                            have ne115 : sa_13 ≠ sa_107 := Nat.ne_of_lt (Nat.lt_of_lt_of_le F102.lt fz107_sa)
                            have ne116 : xb_13 ≠ sa_107 := Nat.ne_of_lt (Nat.lt_of_lt_of_le F110.lt fz107_sa)
                            have ne117 : b74 ≠ sa_107 := Nat.ne_of_lt (Nat.lt_of_lt_of_le F104.lt fz107_sa)
                            have ne118 : sa_82 ≠ sa_107 := Nat.ne_of_lt (Nat.lt_of_lt_of_le F82_0.lt fz107_sa)
                            have ne119 : xb_82 ≠ sa_107 := Nat.ne_of_lt (Nat.lt_of_lt_of_le F82_3.lt fz107_sa)
                            refine Go.tr st107 ?_
                            show Go p e below _ (T107.setTop (mkF m 368 #[.val (.int ip), .val (.int iq), .val (.int ir), .val (.int is_), .val (.int im), .val (.int i0), .val (.int i1), .val (.int u0), .val (.int u1), .val (.int li), .val (.int lu), .val (.int j_sc), .val (.int j_sl), .val (.int j_j0), .val (.int j_j1), .val (.int j_lj), .val (.int j_tc), .val (.int j_tl), .val (.int j_v0), .val (.int j_v1), .val (.int j_lv), .val (.int kd), .val (.ref b1), .unset, .unset] [(.ref sa_107), (.ref sa_82), (.ref b74), (.ref b74)]))
                            have F120 : Exa Z T107.heap b1 "com/example/tattler/tattler/channel/WatchedResource" := (F98.keep K107)
                            have ne121 : b1 ≠ xb_107 := Exa.neArv F120 F107_3 (hw _ (List.mem_of_getElem? (i := 1) rfl))
                            have F122 : Exa Z T107.heap sa_4 "java/lang/String" := (F100.keep K107)
                            have ne123 : sa_4 ≠ xb_107 := Exa.neArv F122 F107_3 (hw _ (List.mem_of_getElem? (i := 8) rfl))
                            have F124 : Exa Z T107.heap sa_13 "java/lang/String" := (F102.keep K107)
                            have ne125 : sa_13 ≠ xb_107 := Exa.neArv F124 F107_3 (hw _ (List.mem_of_getElem? (i := 8) rfl))
                            have F126 : Exa Z T107.heap b74 "com/example/tattler/tattler/channel/WatchedResource" := (F104.keep K107)
                            have ne127 : b74 ≠ xb_107 := Exa.neArv F126 F107_3 (hw _ (List.mem_of_getElem? (i := 1) rfl))
                            have F128 : Exa Z T107.heap sa_82 "java/lang/String" := (F82_0.keep K107)
                            have ne129 : sa_82 ≠ xb_107 := Exa.neArv F128 F107_3 (hw _ (List.mem_of_getElem? (i := 8) rfl))
                            have ne130 : sa_107 ≠ xb_107 := Exa.neArv F107_0 F107_3 (hw _ (List.mem_of_getElem? (i := 8) rfl))
                            have F132 : Old Z n0 T107.heap := (F108.keep K107 all0)
                            have F133 : Fld Z T107.heap b74 "com/example/tattler/tattler/channel/WatchedResource" "id" "Ljava/lang/String;" .null := ((F80.keep K82 nin0).keep K107 nin0)
                            have F134 : Fld Z T107.heap b74 "com/example/tattler/tattler/channel/WatchedResource" "uri" "Ljava/lang/String;" .null := ((F81.keep K82 nin0).keep K107 nin0)
                            have F135 : Keep h0 T107.heap [] := (F111.trans K107 all0)
                            obtain ⟨_, _, ⟨T131, L131, k131, n131⟩, -, X131, ⟨Lc131, hQ131, l131, y131, z131⟩, st131⟩ := X107.specialBack hx (y := (⟨"com/example/tattler/tattler/channel/WatchedResource", "<init>", "(Ljava/lang/String;Ljava/lang/String;)V"⟩ : MethodName)) rfl hown (mvT hZ (hw _ (List.mem_of_getElem? (i := 29) rfl))) (mvT hZ (hw _ (List.mem_of_getElem? (i := 30) rfl))) (mvT hZ (hw _ (List.mem_of_getElem? (i := 31) rfl))) (by decide) (backOf (W := 1) (winit l Z a0 hw [] b74 sa_82 sa_107 T107.heap n0 F132 F126 F133 F134 ge74) hZ (hw _ (List.mem_of_getElem? (i := 31) rfl)) (hw _ (List.mem_of_getElem? (i := 2) rfl)) (by decide) (by decide)) (g := (mkF m 368 #[.val (.int ip), .val (.int iq), .val (.int ir), .val (.int is_), .val (.int im), .val (.int i0), .val (.int i1), .val (.int u0), .val (.int u1), .val (.int li), .val (.int lu), .val (.int j_sc), .val (.int j_sl), .val (.int j_j0), .val (.int j_j1), .val (.int j_lj), .val (.int j_tc), .val (.int j_tl), .val (.int j_v0), .val (.int j_v1), .val (.int j_lv), .val (.int kd), .val (.ref b1), .unset, .unset] [(.ref sa_107), (.ref sa_82), (.ref b74), (.ref b74)])) rfl (by rw [hml]; rfl) (Steps.refl _) (a := b74) (argsL := [(.ref sa_82), (.ref sa_107)]) (rest := [(.ref b74)]) (lenOf pd_12 rfl) rfl (by show 2 * 0 + _ ≤ _; exact Nat.le_of_eq rfl) (hb hby at_368) (fun _ _ => ⟨rfl, rfl, (by decide : 26 + 0 ≤ _), (by decide : 52 + 0 ≤ _)⟩)
                            dsimp only [Pt.U, Pt.locs, Pt.cells, Pt.slots] at X131 l131 y131 z131 st131 hQ131
                            subst l131 y131 z131
                            obtain ⟨rfl, N131q, K131, F131_0, F131_1, F131_2⟩ := hQ131
                            have N131 := Fr.app N107 N131q
                            refine Go.tr st131 ?_
                            show Go p e below _ (T131.setTop (mkF m 371 #[.val (.int ip), .val (.int iq), .val (.int ir), .val (.int is_), .val (.int im), .val (.int i0), .val (.int i1), .val (.int u0), .val (.int u1), .val (.int li), .val (.int lu), .val (.int j_sc), .val (.int j_sl), .val (.int j_j0), .val (.int j_j1), .val (.int j_lj), .val (.int j_tc), .val (.int j_tl), .val (.int j_v0), .val (.int j_v1), .val (.int j_lv), .val (.int kd), .val (.ref b1), .unset, .unset] [(.ref b74)]))
                            refine Go.by (fun t k => XS.astore X131.here hx rfl (hb hby at_371) rfl rfl (l' := #[.val (.int ip), .val (.int iq), .val (.int ir), .val (.int is_), .val (.int im), .val (.int i0), .val (.int i1), .val (.int u0), .val (.int u1), .val (.int li), .val (.int lu), .val (.int j_sc), .val (.int j_sl), .val (.int j_j0), .val (.int j_j1), .val (.int j_lj), .val (.int j_tc), .val (.int j_tl), .val (.int j_v0), .val (.int j_v1), .val (.int j_lv), .val (.int kd), .val (.ref b1), .val (.ref b74), .unset]) rfl k) ?_
                            show Go p e below _ (T131.setTop (mkF m 373 #[.val (.int ip), .val (.int iq), .val (.int ir), .val (.int is_), .val (.int im), .val (.int i0), .val (.int i1), .val (.int u0), .val (.int u1), .val (.int li), .val (.int lu), .val (.int j_sc), .val (.int j_sl), .val (.int j_j0), .val (.int j_j1), .val (.int j_lj), .val (.int j_tc), .val (.int j_tl), .val (.int j_v0), .val (.int j_v1), .val (.int j_lv), .val (.int kd), .val (.ref b1), .val (.ref b74), .unset] []))
                            refine Go.by (fun t k => XS.iload X131.here hx rfl (hb hby at_373) rfl k) ?_
                            show Go p e below _ (T131.setTop (mkF m 375 #[.val (.int ip), .val (.int iq), .val (.int ir), .val (.int is_), .val (.int im), .val (.int i0), .val (.int i1), .val (.int u0), .val (.int u1), .val (.int li), .val (.int lu), .val (.int j_sc), .val (.int j_sl), .val (.int j_j0), .val (.int j_j1), .val (.int j_lj), .val (.int j_tc), .val (.int j_tl), .val (.int j_v0), .val (.int j_v1), .val (.int j_lv), .val (.int kd), .val (.ref b1), .val (.ref b74), .unset] [(.int i0)]))
                            refine Go.by (fun t k => XS.iload X131.here hx rfl (hb hby at_375) rfl k) ?_
                            show Go p e below _ (T131.setTop (mkF m 377 #[.val (.int ip), .val (.int iq), .val (.int ir), .val (.int is_), .val (.int im), .val (.int i0), .val (.int i1), .val (.int u0), .val (.int u1), .val (.int li), .val (.int lu), .val (.int j_sc), .val (.int j_sl), .val (.int j_j0), .val (.int j_j1), .val (.int j_lj), .val (.int j_tc), .val (.int j_tl), .val (.int j_v0), .val (.int j_v1), .val (.int j_lv), .val (.int kd), .val (.ref b1), .val (.ref b74), .unset] [(.int i1), (.int i0)]))
                            refine Go.by (fun t k => XS.iload X131.here hx rfl (hb hby at_377) rfl k) ?_
                            show Go p e below _ (T131.setTop (mkF m 379 #[.val (.int ip), .val (.int iq), .val (.int ir), .val (.int is_), .val (.int im), .val (.int i0), .val (.int i1), .val (.int u0), .val (.int u1), .val (.int li), .val (.int lu), .val (.int j_sc), .val (.int j_sl), .val (.int j_j0), .val (.int j_j1), .val (.int j_lj), .val (.int j_tc), .val (.int j_tl), .val (.int j_v0), .val (.int j_v1), .val (.int j_lv), .val (.int kd), .val (.ref b1), .val (.ref b74), .unset] [(.int li), (.int i1), (.int i0)]))
                            refine Go.by (fun t k => XS.iload X131.here hx rfl (hb hby at_379) rfl k) ?_
                            show Go p e below _ (T131.setTop (mkF m 381 #[.val (.int ip), .val (.int iq), .val (.int ir), .val (.int is_), .val (.int im), .val (.int i0), .val (.int i1), .val (.int u0), .val (.int u1), .val (.int li), .val (.int lu), .val (.int j_sc), .val (.int j_sl), .val (.int j_j0), .val (.int j_j1), .val (.int j_lj), .val (.int j_tc), .val (.int j_tl), .val (.int j_v0), .val (.int j_v1), .val (.int j_lv), .val (.int kd), .val (.ref b1), .val (.ref b74), .unset] [(.int j_j0), (.int li), (.int i1), (.int i0)]))
                            refine Go.by (fun t k => XS.iload X131.here hx rfl (hb hby at_381) rfl k) ?_
                            show Go p e below _ (T131.setTop (mkF m 383 #[.val (.int ip), .val (.int iq), .val (.int ir), .val (.int is_), .val (.int im), .val (.int i0), .val (.int i1), .val (.int u0), .val (.int u1), .val (.int li), .val (.int lu), .val (.int j_sc), .val (.int j_sl), .val (.int j_j0), .val (.int j_j1), .val (.int j_lj), .val (.int j_tc), .val (.int j_tl), .val (.int j_v0), .val (.int j_v1), .val (.int j_lv), .val (.int kd), .val (.ref b1), .val (.ref b74), .unset] [(.int j_j1), (.int j_j0), (.int li), (.int i1), (.int i0)]))
                            refine Go.by (fun t k => XS.iload X131.here hx rfl (hb hby at_383) rfl k) ?_
                            show Go p e below _ (T131.setTop (mkF m 385 #[.val (.int ip), .val (.int iq), .val (.int ir), .val (.int is_), .val (.int im), .val (.int i0), .val (.int i1), .val (.int u0), .val (.int u1), .val (.int li), .val (.int lu), .val (.int j_sc), .val (.int j_sl), .val (.int j_j0), .val (.int j_j1), .val (.int j_lj), .val (.int j_tc), .val (.int j_tl), .val (.int j_v0), .val (.int j_v1), .val (.int j_lv), .val (.int kd), .val (.ref b1), .val (.ref b74), .unset] [(.int j_lj), (.int j_j1), (.int j_j0), (.int li), (.int i1), (.int i0)]))
                            have F137 : Old Z n0 T131.heap := (F132.keep K131 (allS ge74 all0))
                            have F138 : Keep h0 T131.heap [] := (F135.trans K131 (allS (Or.inr sz74) all0))
                            obtain ⟨_, _, ⟨T136, L136, k136, n136⟩, -, X136, ⟨Lc136, hQ136, l136, y136, z136⟩, st136⟩ := Jvm.LawKit.callS X131 hx (y := (⟨"com/example/tattler/tattler/channel/WatchedResourceEqualsPinLaw", "same", "(CCICCI)Z"⟩ : MethodName)) hown (mvT hZ (hw _ (List.mem_of_getElem? (i := 37) rfl))) (mvT hZ (hw _ (List.mem_of_getElem? (i := 38) rfl))) (mvT hZ (hw _ (List.mem_of_getElem? (i := 5) rfl))) (mvT hZ (hw _ (List.mem_of_getElem? (i := 39) rfl))) (by decide) (backOf (W := 0) (same l Z a0 hw [] i0 i1 li j_j0 j_j1 j_lj T131.heap n0 F137) hZ (hw _ (List.mem_of_getElem? (i := 39) rfl)) (hw _ (List.mem_of_getElem? (i := 5) rfl)) (by decide) (by decide)) (g := (mkF m 385 #[.val (.int ip), .val (.int iq), .val (.int ir), .val (.int is_), .val (.int im), .val (.int i0), .val (.int i1), .val (.int u0), .val (.int u1), .val (.int li), .val (.int lu), .val (.int j_sc), .val (.int j_sl), .val (.int j_j0), .val (.int j_j1), .val (.int j_lj), .val (.int j_tc), .val (.int j_tl), .val (.int j_v0), .val (.int j_v1), .val (.int j_lv), .val (.int kd), .val (.ref b1), .val (.ref b74), .unset] [(.int j_lj), (.int j_j1), (.int j_j0), (.int li), (.int i1), (.int i0)])) rfl (by rw [hml]; rfl) (argsL := [(.int i0), (.int i1), (.int li), (.int j_j0), (.int j_j1), (.int j_lj)]) (rest := []) (lenOf pd_13 rfl) rfl (by show 2 * 0 + _ ≤ _; exact Nat.le_of_eq rfl) (hb hby at_385) (fun _ _ => ⟨rfl, rfl, (by decide : 26 + 0 ≤ _), (by decide : 52 + 0 ≤ _)⟩)
                            dsimp only [Pt.U, Pt.locs, Pt.cells, Pt.slots] at X136 l136 y136 z136 st136 hQ136
                            subst l136 y136 z136
                            obtain ⟨rfl, N136q, e136⟩ := hQ136
                            have N136 := Fr.app N131 N136q
                            refine Go.by st136 ?_
                            show Go p e below _ (T136.setTop (mkF m 388 #[.val (.int ip), .val (.int iq), .val (.int ir), .val (.int is_), .val (.int im), .val (.int i0), .val (.int i1), .val (.int u0), .val (.int u1), .val (.int li), .val (.int lu), .val (.int j_sc), .val (.int j_sl), .val (.int j_j0), .val (.int j_j1), .val (.int j_lj), .val (.int j_tc), .val (.int j_tl), .val (.int j_v0), .val (.int j_v1), .val (.int j_lv), .val (.int kd), .val (.ref b1), .val (.ref b74), .unset] [(.int (own_same i0 i1 li j_j0 j_j1 j_lj))]))
                            by_cases hc139 : (own_same i0 i1 li j_j0 j_j1 j_lj) = (0 : Int32)
                            · skip
                              refine Go.by (fun t k => XS.ifYes X136.here hx rfl (pc0 := 388) (pc' := 413) rfl (hb hby at_388) rfl ((if0 _ _).trans (teq hc139).1) (by decide) (by decide) k) ?_
                              show Go p e below _ (T136.setTop (mkF m 413 #[.val (.int ip), .val (.int iq), .val (.int ir), .val (.int is_), .val (.int im), .val (.int i0), .val (.int i1), .val (.int u0), .val (.int u1), .val (.int li), .val (.int lu), .val (.int j_sc), .val (.int j_sl), .val (.int j_j0), .val (.int j_j1), .val (.int j_lj), .val (.int j_tc), .val (.int j_tl), .val (.int j_v0), .val (.int j_v1), .val (.int j_lv), .val (.int kd), .val (.ref b1), .val (.ref b74), .unset] []))
                              refine Go.by (fun t k => XS.iconst X136.here hx rfl (hb hby at_413) k) ?_
                              show Go p e below _ (T136.setTop (mkF m 414 #[.val (.int ip), .val (.int iq), .val (.int ir), .val (.int is_), .val (.int im), .val (.int i0), .val (.int i1), .val (.int u0), .val (.int u1), .val (.int li), .val (.int lu), .val (.int j_sc), .val (.int j_sl), .val (.int j_j0), .val (.int j_j1), .val (.int j_lj), .val (.int j_tc), .val (.int j_tl), .val (.int j_v0), .val (.int j_v1), .val (.int j_lv), .val (.int kd), .val (.ref b1), .val (.ref b74), .unset] [(.int (0 : Int32))]))
                              refine Go.by (fun t k => XS.istore X136.here hx rfl (hb hby at_414) rfl (l' := #[.val (.int ip), .val (.int iq), .val (.int ir), .val (.int is_), .val (.int im), .val (.int i0), .val (.int i1), .val (.int u0), .val (.int u1), .val (.int li), .val (.int lu), .val (.int j_sc), .val (.int j_sl), .val (.int j_j0), .val (.int j_j1), .val (.int j_lj), .val (.int j_tc), .val (.int j_tl), .val (.int j_v0), .val (.int j_v1), .val (.int j_lv), .val (.int kd), .val (.ref b1), .val (.ref b74), .val (.int (0 : Int32))]) rfl k) ?_
                              show Go p e below _ (T136.setTop (mkF m 416 #[.val (.int ip), .val (.int iq), .val (.int ir), .val (.int is_), .val (.int im), .val (.int i0), .val (.int i1), .val (.int u0), .val (.int u1), .val (.int li), .val (.int lu), .val (.int j_sc), .val (.int j_sl), .val (.int j_j0), .val (.int j_j1), .val (.int j_lj), .val (.int j_tc), .val (.int j_tl), .val (.int j_v0), .val (.int j_v1), .val (.int j_lv), .val (.int kd), .val (.ref b1), .val (.ref b74), .val (.int (0 : Int32))] []))
                              refine Go.by (fun t k => XS.aload X136.here hx rfl (hb hby at_416) rfl rfl k) ?_
                              show Go p e below _ (T136.setTop (mkF m 418 #[.val (.int ip), .val (.int iq), .val (.int ir), .val (.int is_), .val (.int im), .val (.int i0), .val (.int i1), .val (.int u0), .val (.int u1), .val (.int li), .val (.int lu), .val (.int j_sc), .val (.int j_sl), .val (.int j_j0), .val (.int j_j1), .val (.int j_lj), .val (.int j_tc), .val (.int j_tl), .val (.int j_v0), .val (.int j_v1), .val (.int j_lv), .val (.int kd), .val (.ref b1), .val (.ref b74), .val (.int (0 : Int32))] [(.ref b1)]))
                              refine Go.by (fun t k => XS.aload X136.here hx rfl (hb hby at_418) rfl rfl k) ?_
                              show Go p e below _ (T136.setTop (mkF m 420 #[.val (.int ip), .val (.int iq), .val (.int ir), .val (.int is_), .val (.int im), .val (.int i0), .val (.int i1), .val (.int u0), .val (.int u1), .val (.int li), .val (.int lu), .val (.int j_sc), .val (.int j_sl), .val (.int j_j0), .val (.int j_j1), .val (.int j_lj), .val (.int j_tc), .val (.int j_tl), .val (.int j_v0), .val (.int j_v1), .val (.int j_lv), .val (.int kd), .val (.ref b1), .val (.ref b74), .val (.int (0 : Int32))] [(.ref b74), (.ref b1)]))
                              have F141 : Exa Z T131.heap b1 "com/example/tattler/tattler/channel/WatchedResource" := (F120.keep K131)
                              have F142 : Fld Z T131.heap b1 "com/example/tattler/tattler/channel/WatchedResource" "id" "Ljava/lang/String;" (.ref sa_4) := ((((F24_1.ext E74).keep K82 nin0).keep K107 nin0).keep K131 (ninS ne75 nin0))
                              have F143 : Fld Z T131.heap b1 "com/example/tattler/tattler/channel/WatchedResource" "uri" "Ljava/lang/String;" (.ref sa_13) := ((((F24_2.ext E74).keep K82 nin0).keep K107 nin0).keep K131 (ninS ne75 nin0))
                              have F144 : Exa Z T131.heap sa_4 "java/lang/String" := (F122.keep K131)
                              have F145 : Fld Z T131.heap sa_4 "java/lang/String" "coder" "B" (.int (0 : Int32)) := ((((((F4_1.keep K13 nin0).keep K24 (ninS (Ne.symm ne9) nin0)).ext E74).keep K82 nin0).keep K107 nin0).keep K131 (ninS ne76 nin0))
                              have F146 : Fld Z T131.heap sa_4 "java/lang/String" "value" "[B" (.ref xb_4) := ((((((F4_2.keep K13 nin0).keep K24 (ninS (Ne.symm ne9) nin0)).ext E74).keep K82 nin0).keep K107 nin0).keep K131 (ninS ne76 nin0))
                              have F147 : Arv Z T131.heap xb_4 kb_4 .byte li (own_sv (nar .byte (i0.toInt8.toInt32)) (nar .byte (i1.toInt8.toInt32)) li) (.int (0 : Int32)) := ((F109.keep K107 nin0).keep K131 (ninS ne77 nin0))
                              have F148 : Exa Z T131.heap sa_13 "java/lang/String" := (F124.keep K131)
                              have F149 : Fld Z T131.heap sa_13 "java/lang/String" "coder" "B" (.int (0 : Int32)) := (((((F13_1.keep K24 (ninS (Ne.symm ne16) nin0)).ext E74).keep K82 nin0).keep K107 nin0).keep K131 (ninS ne78 nin0))
                              have F150 : Fld Z T131.heap sa_13 "java/lang/String" "value" "[B" (.ref xb_13) := (((((F13_2.keep K24 (ninS (Ne.symm ne16) nin0)).ext E74).keep K82 nin0).keep K107 nin0).keep K131 (ninS ne78 nin0))
                              have F151 : Arv Z T131.heap xb_13 kb_13 .byte lu (own_sv (nar .byte (u0.toInt8.toInt32)) (nar .byte (u1.toInt8.toInt32)) lu) (.int (0 : Int32)) := ((F110.keep K107 nin0).keep K131 (ninS ne79 nin0))
                              have F152 : Exa Z T131.heap sa_82 "java/lang/String" := (F128.keep K131)
                              have F153 : Fld Z T131.heap sa_82 "java/lang/String" "coder" "B" (.int (0 : Int32)) := ((F82_1.keep K107 nin0).keep K131 (ninS (Ne.symm ne97) nin0))
                              have F154 : Fld Z T131.heap sa_82 "java/lang/String" "value" "[B" (.ref xb_82) := ((F82_2.keep K107 nin0).keep K131 (ninS (Ne.symm ne97) nin0))
                              have F155 : Arv Z T131.heap xb_82 kb_82 .byte j_lj (own_sv (nar .byte (j_j0.toInt8.toInt32)) (nar .byte (j_j1.toInt8.toInt32)) j_lj) (.int (0 : Int32)) := ((F82_3.keep K107 nin0).keep K131 (ninS (Ne.symm ne105) nin0))
                              have F156 : Exa Z T131.heap sa_107 "java/lang/String" := (F107_0.keep K131)
                              have F157 : Fld Z T131.heap sa_107 "java/lang/String" "coder" "B" (.int (0 : Int32)) := (F107_1.keep K131 (ninS (Ne.symm ne117) nin0))
                              have F158 : Fld Z T131.heap sa_107 "java/lang/String" "value" "[B" (.ref xb_107) := (F107_2.keep K131 (ninS (Ne.symm ne117) nin0))
                              have F159 : Arv Z T131.heap xb_107 kb_107 .byte j_lv (own_sv (nar .byte (j_v0.toInt8.toInt32)) (nar .byte (j_v1.toInt8.toInt32)) j_lv) (.int (0 : Int32)) := (F107_3.keep K131 (ninS (Ne.symm ne127) nin0))
                              obtain ⟨cq140, kq140, q140a, q140b, q140c⟩ := isOf hZ e136 F141
                              obtain ⟨_, _, ⟨T140, L140, k140, n140⟩, -, X140, ⟨Lc140, hQ140, l140, y140, z140⟩, st140⟩ := X136.virtualBack hx (y := (⟨"com/example/tattler/tattler/channel/WatchedResource", "equals", "(Ljava/lang/Object;)Z"⟩ : MethodName)) (z := (⟨"com/example/tattler/tattler/channel/WatchedResource", "equals", "(Ljava/lang/Object;)Z"⟩ : MethodName)) hown (mvT hZ (hw _ (List.mem_of_getElem? (i := 40) rfl))) (mvT hZ (hw _ (List.mem_of_getElem? (i := 41) rfl))) (notFace_of_selects (args := #[]) (mvT hZ (hw _ (List.mem_of_getElem? (i := 43) rfl)))) (mvT hZ (hw _ (List.mem_of_getElem? (i := 43) rfl))) (mvT hZ (hw _ (List.mem_of_getElem? (i := 42) rfl))) (by decide) (backOf (W := 0) (weq l Z a0 hw [] b1 b74 cs sa_4 xb_4 kb_4 li (nar .byte (i0.toInt8.toInt32)) (nar .byte (i1.toInt8.toInt32)) sa_13 xb_13 kb_13 lu (nar .byte (u0.toInt8.toInt32)) (nar .byte (u1.toInt8.toInt32)) sa_82 xb_82 kb_82 j_lj (nar .byte (j_j0.toInt8.toInt32)) (nar .byte (j_j1.toInt8.toInt32)) sa_107 xb_107 kb_107 j_lv (nar .byte (j_v0.toInt8.toInt32)) (nar .byte (j_v1.toInt8.toInt32)) T131.heap n0 F137 P0 F141 F142 F143 F131_0 F131_1 F131_2 F144 F145 F146 F147 F148 F149 F150 F151 F152 F153 F154 F155 F156 F157 F158 F159 hcs ne93 ne115 hli hlu hj_lj hj_lv) hZ (hw _ (List.mem_of_getElem? (i := 44) rfl)) (hw _ (List.mem_of_getElem? (i := 2) rfl)) (by decide) (by decide)) q140a q140c (g := (mkF m 420 #[.val (.int ip), .val (.int iq), .val (.int ir), .val (.int is_), .val (.int im), .val (.int i0), .val (.int i1), .val (.int u0), .val (.int u1), .val (.int li), .val (.int lu), .val (.int j_sc), .val (.int j_sl), .val (.int j_j0), .val (.int j_j1), .val (.int j_lj), .val (.int j_tc), .val (.int j_tl), .val (.int j_v0), .val (.int j_v1), .val (.int j_lv), .val (.int kd), .val (.ref b1), .val (.ref b74), .val (.int (0 : Int32))] [(.ref b74), (.ref b1)])) rfl (by rw [hml]; rfl) (Steps.refl _) (argsL := [(.ref b74)]) (rest := []) (lenOf pd_10 rfl) rfl (by show 2 * 0 + _ ≤ _; exact Nat.le_of_eq rfl) (hb hby at_420) (fun _ _ => ⟨rfl, e136, (by decide : 26 + 0 ≤ _), (by decide : 52 + 0 ≤ _)⟩)
                              dsimp only [Pt.U, Pt.locs, Pt.cells, Pt.slots] at X140 l140 y140 z140 st140 hQ140
                              subst l140 y140 z140
                              obtain ⟨rfl, N140q, e140⟩ := hQ140
                              have N140 := Fr.app N136 N140q
                              refine Go.tr st140 ?_
                              show Go p e below _ (T140.setTop (mkF m 423 #[.val (.int ip), .val (.int iq), .val (.int ir), .val (.int is_), .val (.int im), .val (.int i0), .val (.int i1), .val (.int u0), .val (.int u1), .val (.int li), .val (.int lu), .val (.int j_sc), .val (.int j_sl), .val (.int j_j0), .val (.int j_j1), .val (.int j_lj), .val (.int j_tc), .val (.int j_tl), .val (.int j_v0), .val (.int j_v1), .val (.int j_lv), .val (.int kd), .val (.ref b1), .val (.ref b74), .val (.int (0 : Int32))] [(.int (own_weq (own_lat (nar .byte (i0.toInt8.toInt32)) (nar .byte (i1.toInt8.toInt32)) li (nar .byte (j_j0.toInt8.toInt32)) (nar .byte (j_j1.toInt8.toInt32)) j_lj) (own_lat (nar .byte (u0.toInt8.toInt32)) (nar .byte (u1.toInt8.toInt32)) lu (nar .byte (j_v0.toInt8.toInt32)) (nar .byte (j_v1.toInt8.toInt32)) j_lv)))]))
                              refine Go.by (fun t k => XS.iload X140.here hx rfl (hb hby at_423) rfl k) ?_
                              show Go p e below _ (T140.setTop (mkF m 425 #[.val (.int ip), .val (.int iq), .val (.int ir), .val (.int is_), .val (.int im), .val (.int i0), .val (.int i1), .val (.int u0), .val (.int u1), .val (.int li), .val (.int lu), .val (.int j_sc), .val (.int j_sl), .val (.int j_j0), .val (.int j_j1), .val (.int j_lj), .val (.int j_tc), .val (.int j_tl), .val (.int j_v0), .val (.int j_v1), .val (.int j_lv), .val (.int kd), .val (.ref b1), .val (.ref b74), .val (.int (0 : Int32))] [(.int (0 : Int32)), (.int (own_weq (own_lat (nar .byte (i0.toInt8.toInt32)) (nar .byte (i1.toInt8.toInt32)) li (nar .byte (j_j0.toInt8.toInt32)) (nar .byte (j_j1.toInt8.toInt32)) j_lj) (own_lat (nar .byte (u0.toInt8.toInt32)) (nar .byte (u1.toInt8.toInt32)) lu (nar .byte (j_v0.toInt8.toInt32)) (nar .byte (j_v1.toInt8.toInt32)) j_lv)))]))
                              refine Go.by (fun t k => XS.icmpNo X140.here hx rfl (hb hby at_425) rfl (teq (by rw [own_fin hi0 hj_j0 hi1 hj_j1 hli, own_fin hu0 hj_v0 hu1 hj_v1 hlu]; simp only [own_weq, if_pos hc139])).2 k) ?_
                              show Go p e below _ (T140.setTop (mkF m 428 #[.val (.int ip), .val (.int iq), .val (.int ir), .val (.int is_), .val (.int im), .val (.int i0), .val (.int i1), .val (.int u0), .val (.int u1), .val (.int li), .val (.int lu), .val (.int j_sc), .val (.int j_sl), .val (.int j_j0), .val (.int j_j1), .val (.int j_lj), .val (.int j_tc), .val (.int j_tl), .val (.int j_v0), .val (.int j_v1), .val (.int j_lv), .val (.int kd), .val (.ref b1), .val (.ref b74), .val (.int (0 : Int32))] []))
                              refine Go.by (fun t k => XS.aload X140.here hx rfl (hb hby at_428) rfl rfl k) ?_
                              show Go p e below _ (T140.setTop (mkF m 430 #[.val (.int ip), .val (.int iq), .val (.int ir), .val (.int is_), .val (.int im), .val (.int i0), .val (.int i1), .val (.int u0), .val (.int u1), .val (.int li), .val (.int lu), .val (.int j_sc), .val (.int j_sl), .val (.int j_j0), .val (.int j_j1), .val (.int j_lj), .val (.int j_tc), .val (.int j_tl), .val (.int j_v0), .val (.int j_v1), .val (.int j_lv), .val (.int kd), .val (.ref b1), .val (.ref b74), .val (.int (0 : Int32))] [(.ref b74)]))
                              refine Go.by (fun t k => XS.aload X140.here hx rfl (hb hby at_430) rfl rfl k) ?_
                              show Go p e below _ (T140.setTop (mkF m 432 #[.val (.int ip), .val (.int iq), .val (.int ir), .val (.int is_), .val (.int im), .val (.int i0), .val (.int i1), .val (.int u0), .val (.int u1), .val (.int li), .val (.int lu), .val (.int j_sc), .val (.int j_sl), .val (.int j_j0), .val (.int j_j1), .val (.int j_lj), .val (.int j_tc), .val (.int j_tl), .val (.int j_v0), .val (.int j_v1), .val (.int j_lv), .val (.int kd), .val (.ref b1), .val (.ref b74), .val (.int (0 : Int32))] [(.ref b1), (.ref b74)]))
                              obtain ⟨cq160, kq160, q160a, q160b, q160c⟩ := isOf hZ e140 F131_0
                              obtain ⟨_, _, ⟨T160, L160, k160, n160⟩, -, X160, ⟨Lc160, hQ160, l160, y160, z160⟩, st160⟩ := X140.virtualBack hx (y := (⟨"com/example/tattler/tattler/channel/WatchedResource", "equals", "(Ljava/lang/Object;)Z"⟩ : MethodName)) (z := (⟨"com/example/tattler/tattler/channel/WatchedResource", "equals", "(Ljava/lang/Object;)Z"⟩ : MethodName)) hown (mvT hZ (hw _ (List.mem_of_getElem? (i := 40) rfl))) (mvT hZ (hw _ (List.mem_of_getElem? (i := 41) rfl))) (notFace_of_selects (args := #[]) (mvT hZ (hw _ (List.mem_of_getElem? (i := 43) rfl)))) (mvT hZ (hw _ (List.mem_of_getElem? (i := 43) rfl))) (mvT hZ (hw _ (List.mem_of_getElem? (i := 42) rfl))) (by decide) (backOf (W := 0) (weq l Z a0 hw [] b74 b1 cs sa_82 xb_82 kb_82 j_lj (nar .byte (j_j0.toInt8.toInt32)) (nar .byte (j_j1.toInt8.toInt32)) sa_107 xb_107 kb_107 j_lv (nar .byte (j_v0.toInt8.toInt32)) (nar .byte (j_v1.toInt8.toInt32)) sa_4 xb_4 kb_4 li (nar .byte (i0.toInt8.toInt32)) (nar .byte (i1.toInt8.toInt32)) sa_13 xb_13 kb_13 lu (nar .byte (u0.toInt8.toInt32)) (nar .byte (u1.toInt8.toInt32)) T131.heap n0 F137 P0 F131_0 F131_1 F131_2 F141 F142 F143 F152 F153 F154 F155 F156 F157 F158 F159 F144 F145 F146 F147 F148 F149 F150 F151 hcs (Ne.symm ne93) (Ne.symm ne115) hj_lj hj_lv hli hlu) hZ (hw _ (List.mem_of_getElem? (i := 44) rfl)) (hw _ (List.mem_of_getElem? (i := 2) rfl)) (by decide) (by decide)) q160a q160c (g := (mkF m 432 #[.val (.int ip), .val (.int iq), .val (.int ir), .val (.int is_), .val (.int im), .val (.int i0), .val (.int i1), .val (.int u0), .val (.int u1), .val (.int li), .val (.int lu), .val (.int j_sc), .val (.int j_sl), .val (.int j_j0), .val (.int j_j1), .val (.int j_lj), .val (.int j_tc), .val (.int j_tl), .val (.int j_v0), .val (.int j_v1), .val (.int j_lv), .val (.int kd), .val (.ref b1), .val (.ref b74), .val (.int (0 : Int32))] [(.ref b1), (.ref b74)])) rfl (by rw [hml]; rfl) (Steps.refl _) (argsL := [(.ref b1)]) (rest := []) (lenOf pd_10 rfl) rfl (by show 2 * 0 + _ ≤ _; exact Nat.le_of_eq rfl) (hb hby at_432) (fun _ _ => ⟨rfl, e140, (by decide : 26 + 0 ≤ _), (by decide : 52 + 0 ≤ _)⟩)
                              dsimp only [Pt.U, Pt.locs, Pt.cells, Pt.slots] at X160 l160 y160 z160 st160 hQ160
                              subst l160 y160 z160
                              obtain ⟨rfl, N160q, e160⟩ := hQ160
                              have N160 := Fr.app N140 N160q
                              refine Go.tr st160 ?_
                              show Go p e below _ (T160.setTop (mkF m 435 #[.val (.int ip), .val (.int iq), .val (.int ir), .val (.int is_), .val (.int im), .val (.int i0), .val (.int i1), .val (.int u0), .val (.int u1), .val (.int li), .val (.int lu), .val (.int j_sc), .val (.int j_sl), .val (.int j_j0), .val (.int j_j1), .val (.int j_lj), .val (.int j_tc), .val (.int j_tl), .val (.int j_v0), .val (.int j_v1), .val (.int j_lv), .val (.int kd), .val (.ref b1), .val (.ref b74), .val (.int (0 : Int32))] [(.int (own_weq (own_lat (nar .byte (j_j0.toInt8.toInt32)) (nar .byte (j_j1.toInt8.toInt32)) j_lj (nar .byte (i0.toInt8.toInt32)) (nar .byte (i1.toInt8.toInt32)) li) (own_lat (nar .byte (j_v0.toInt8.toInt32)) (nar .byte (j_v1.toInt8.toInt32)) j_lv (nar .byte (u0.toInt8.toInt32)) (nar .byte (u1.toInt8.toInt32)) lu)))]))
                              refine Go.by (fun t k => XS.iload X160.here hx rfl (hb hby at_435) rfl k) ?_
                              show Go p e below _ (T160.setTop (mkF m 437 #[.val (.int ip), .val (.int iq), .val (.int ir), .val (.int is_), .val (.int im), .val (.int i0), .val (.int i1), .val (.int u0), .val (.int u1), .val (.int li), .val (.int lu), .val (.int j_sc), .val (.int j_sl), .val (.int j_j0), .val (.int j_j1), .val (.int j_lj), .val (.int j_tc), .val (.int j_tl), .val (.int j_v0), .val (.int j_v1), .val (.int j_lv), .val (.int kd), .val (.ref b1), .val (.ref b74), .val (.int (0 : Int32))] [(.int (0 : Int32)), (.int (own_weq (own_lat (nar .byte (j_j0.toInt8.toInt32)) (nar .byte (j_j1.toInt8.toInt32)) j_lj (nar .byte (i0.toInt8.toInt32)) (nar .byte (i1.toInt8.toInt32)) li) (own_lat (nar .byte (j_v0.toInt8.toInt32)) (nar .byte (j_v1.toInt8.toInt32)) j_lv (nar .byte (u0.toInt8.toInt32)) (nar .byte (u1.toInt8.toInt32)) lu)))]))
                              refine Go.by (fun t k => XS.icmpNo X160.here hx rfl (hb hby at_437) rfl (teq (by rw [own_weqc, own_fin hi0 hj_j0 hi1 hj_j1 hli, own_fin hu0 hj_v0 hu1 hj_v1 hlu]; simp only [own_weq, if_pos hc139])).2 k) ?_
                              show Go p e below _ (T160.setTop (mkF m 440 #[.val (.int ip), .val (.int iq), .val (.int ir), .val (.int is_), .val (.int im), .val (.int i0), .val (.int i1), .val (.int u0), .val (.int u1), .val (.int li), .val (.int lu), .val (.int j_sc), .val (.int j_sl), .val (.int j_j0), .val (.int j_j1), .val (.int j_lj), .val (.int j_tc), .val (.int j_tl), .val (.int j_v0), .val (.int j_v1), .val (.int j_lv), .val (.int kd), .val (.ref b1), .val (.ref b74), .val (.int (0 : Int32))] []))
                              refine Go.by (fun t k => XS.iconst X160.here hx rfl (hb hby at_440) k) ?_
                              show Go p e below _ (T160.setTop (mkF m 441 #[.val (.int ip), .val (.int iq), .val (.int ir), .val (.int is_), .val (.int im), .val (.int i0), .val (.int i1), .val (.int u0), .val (.int u1), .val (.int li), .val (.int lu), .val (.int j_sc), .val (.int j_sl), .val (.int j_j0), .val (.int j_j1), .val (.int j_lj), .val (.int j_tc), .val (.int j_tl), .val (.int j_v0), .val (.int j_v1), .val (.int j_lv), .val (.int kd), .val (.ref b1), .val (.ref b74), .val (.int (0 : Int32))] [(.int (1 : Int32))]))
                              refine Go.by (fun t k => XS.goto X160.here hx rfl (pc0 := 441) (pc' := 445) rfl (hb hby at_441) (by decide) (by decide) k) ?_
                              show Go p e below _ (T160.setTop (mkF m 445 #[.val (.int ip), .val (.int iq), .val (.int ir), .val (.int is_), .val (.int im), .val (.int i0), .val (.int i1), .val (.int u0), .val (.int u1), .val (.int li), .val (.int lu), .val (.int j_sc), .val (.int j_sl), .val (.int j_j0), .val (.int j_j1), .val (.int j_lj), .val (.int j_tc), .val (.int j_tl), .val (.int j_v0), .val (.int j_v1), .val (.int j_lv), .val (.int kd), .val (.ref b1), .val (.ref b74), .val (.int (0 : Int32))] [(.int (1 : Int32))]))
                              have hq : Q_law Z ip iq ir is_ im cs h0 n0 (some (.int (nar .boolean (1 : Int32)))) T131.heap _ := ⟨rfl, N160, F138⟩
                              have F161 : CHr Z own_EL s.vm h0 T107.vm T131.heap := (own_chK A107 K131 (sfS (Safe.exa hZ.alike F126 (by decide) (by decide)) sf0))
                              have F162 : T107.heap.size ≤ T131.heap.size := (Nat.le_trans hk107 K131.1)
                              exact Go.retNH hS (by rw [e160]; exact F162) (own_chEnd X160 e160 hZ hEL F161 hh) X160 hx (t := .boolean) Bd.returns (by simp) hlk (hb hby at_445) (by decide) (by decide) (by rw [e160]; exact hq)
                            · skip
                              refine Go.by (fun t k => XS.ifNo X136.here hx rfl (hb hby at_388) rfl ((if0 _ _).trans (feq hc139).1) k) ?_
                              show Go p e below _ (T136.setTop (mkF m 391 #[.val (.int ip), .val (.int iq), .val (.int ir), .val (.int is_), .val (.int im), .val (.int i0), .val (.int i1), .val (.int u0), .val (.int u1), .val (.int li), .val (.int lu), .val (.int j_sc), .val (.int j_sl), .val (.int j_j0), .val (.int j_j1), .val (.int j_lj), .val (.int j_tc), .val (.int j_tl), .val (.int j_v0), .val (.int j_v1), .val (.int j_lv), .val (.int kd), .val (.ref b1), .val (.ref b74), .unset] []))
                              refine Go.by (fun t k => XS.iload X136.here hx rfl (hb hby at_391) rfl k) ?_
                              show Go p e below _ (T136.setTop (mkF m 393 #[.val (.int ip), .val (.int iq), .val (.int ir), .val (.int is_), .val (.int im), .val (.int i0), .val (.int i1), .val (.int u0), .val (.int u1), .val (.int li), .val (.int lu), .val (.int j_sc), .val (.int j_sl), .val (.int j_j0), .val (.int j_j1), .val (.int j_lj), .val (.int j_tc), .val (.int j_tl), .val (.int j_v0), .val (.int j_v1), .val (.int j_lv), .val (.int kd), .val (.ref b1), .val (.ref b74), .unset] [(.int u0)]))
                              refine Go.by (fun t k => XS.iload X136.here hx rfl (hb hby at_393) rfl k) ?_
                              show Go p e below _ (T136.setTop (mkF m 395 #[.val (.int ip), .val (.int iq), .val (.int ir), .val (.int is_), .val (.int im), .val (.int i0), .val (.int i1), .val (.int u0), .val (.int u1), .val (.int li), .val (.int lu), .val (.int j_sc), .val (.int j_sl), .val (.int j_j0), .val (.int j_j1), .val (.int j_lj), .val (.int j_tc), .val (.int j_tl), .val (.int j_v0), .val (.int j_v1), .val (.int j_lv), .val (.int kd), .val (.ref b1), .val (.ref b74), .unset] [(.int u1), (.int u0)]))
                              refine Go.by (fun t k => XS.iload X136.here hx rfl (hb hby at_395) rfl k) ?_
                              show Go p e below _ (T136.setTop (mkF m 397 #[.val (.int ip), .val (.int iq), .val (.int ir), .val (.int is_), .val (.int im), .val (.int i0), .val (.int i1), .val (.int u0), .val (.int u1), .val (.int li), .val (.int lu), .val (.int j_sc), .val (.int j_sl), .val (.int j_j0), .val (.int j_j1), .val (.int j_lj), .val (.int j_tc), .val (.int j_tl), .val (.int j_v0), .val (.int j_v1), .val (.int j_lv), .val (.int kd), .val (.ref b1), .val (.ref b74), .unset] [(.int lu), (.int u1), (.int u0)]))
                              refine Go.by (fun t k => XS.iload X136.here hx rfl (hb hby at_397) rfl k) ?_
                              show Go p e below _ (T136.setTop (mkF m 399 #[.val (.int ip), .val (.int iq), .val (.int ir), .val (.int is_), .val (.int im), .val (.int i0), .val (.int i1), .val (.int u0), .val (.int u1), .val (.int li), .val (.int lu), .val (.int j_sc), .val (.int j_sl), .val (.int j_j0), .val (.int j_j1), .val (.int j_lj), .val (.int j_tc), .val (.int j_tl), .val (.int j_v0), .val (.int j_v1), .val (.int j_lv), .val (.int kd), .val (.ref b1), .val (.ref b74), .unset] [(.int j_v0), (.int lu), (.int u1), (.int u0)]))
                              refine Go.by (fun t k => XS.iload X136.here hx rfl (hb hby at_399) rfl k) ?_
                              show Go p e below _ (T136.setTop (mkF m 401 #[.val (.int ip), .val (.int iq), .val (.int ir), .val (.int is_), .val (.int im), .val (.int i0), .val (.int i1), .val (.int u0), .val (.int u1), .val (.int li), .val (.int lu), .val (.int j_sc), .val (.int j_sl), .val (.int j_j0), .val (.int j_j1), .val (.int j_lj), .val (.int j_tc), .val (.int j_tl), .val (.int j_v0), .val (.int j_v1), .val (.int j_lv), .val (.int kd), .val (.ref b1), .val (.ref b74), .unset] [(.int j_v1), (.int j_v0), (.int lu), (.int u1), (.int u0)]))
                              refine Go.by (fun t k => XS.iload X136.here hx rfl (hb hby at_401) rfl k) ?_
                              show Go p e below _ (T136.setTop (mkF m 403 #[.val (.int ip), .val (.int iq), .val (.int ir), .val (.int is_), .val (.int im), .val (.int i0), .val (.int i1), .val (.int u0), .val (.int u1), .val (.int li), .val (.int lu), .val (.int j_sc), .val (.int j_sl), .val (.int j_j0), .val (.int j_j1), .val (.int j_lj), .val (.int j_tc), .val (.int j_tl), .val (.int j_v0), .val (.int j_v1), .val (.int j_lv), .val (.int kd), .val (.ref b1), .val (.ref b74), .unset] [(.int j_lv), (.int j_v1), (.int j_v0), (.int lu), (.int u1), (.int u0)]))
                              obtain ⟨_, _, ⟨T163, L163, k163, n163⟩, -, X163, ⟨Lc163, hQ163, l163, y163, z163⟩, st163⟩ := Jvm.LawKit.callS X136 hx (y := (⟨"com/example/tattler/tattler/channel/WatchedResourceEqualsPinLaw", "same", "(CCICCI)Z"⟩ : MethodName)) hown (mvT hZ (hw _ (List.mem_of_getElem? (i := 37) rfl))) (mvT hZ (hw _ (List.mem_of_getElem? (i := 38) rfl))) (mvT hZ (hw _ (List.mem_of_getElem? (i := 5) rfl))) (mvT hZ (hw _ (List.mem_of_getElem? (i := 39) rfl))) (by decide) (backOf (W := 0) (same l Z a0 hw [] u0 u1 lu j_v0 j_v1 j_lv T131.heap n0 F137) hZ (hw _ (List.mem_of_getElem? (i := 39) rfl)) (hw _ (List.mem_of_getElem? (i := 5) rfl)) (by decide) (by decide)) (g := (mkF m 403 #[.val (.int ip), .val (.int iq), .val (.int ir), .val (.int is_), .val (.int im), .val (.int i0), .val (.int i1), .val (.int u0), .val (.int u1), .val (.int li), .val (.int lu), .val (.int j_sc), .val (.int j_sl), .val (.int j_j0), .val (.int j_j1), .val (.int j_lj), .val (.int j_tc), .val (.int j_tl), .val (.int j_v0), .val (.int j_v1), .val (.int j_lv), .val (.int kd), .val (.ref b1), .val (.ref b74), .unset] [(.int j_lv), (.int j_v1), (.int j_v0), (.int lu), (.int u1), (.int u0)])) rfl (by rw [hml]; rfl) (argsL := [(.int u0), (.int u1), (.int lu), (.int j_v0), (.int j_v1), (.int j_lv)]) (rest := []) (lenOf pd_13 rfl) rfl (by show 2 * 0 + _ ≤ _; exact Nat.le_of_eq rfl) (hb hby at_403) (fun _ _ => ⟨rfl, e136, (by decide : 26 + 0 ≤ _), (by decide : 52 + 0 ≤ _)⟩)
                              dsimp only [Pt.U, Pt.locs, Pt.cells, Pt.slots] at X163 l163 y163 z163 st163 hQ163
                              subst l163 y163 z163
                              obtain ⟨rfl, N163q, e163⟩ := hQ163
                              have N163 := Fr.app N136 N163q
                              refine Go.by st163 ?_
                              show Go p e below _ (T163.setTop (mkF m 406 #[.val (.int ip), .val (.int iq), .val (.int ir), .val (.int is_), .val (.int im), .val (.int i0), .val (.int i1), .val (.int u0), .val (.int u1), .val (.int li), .val (.int lu), .val (.int j_sc), .val (.int j_sl), .val (.int j_j0), .val (.int j_j1), .val (.int j_lj), .val (.int j_tc), .val (.int j_tl), .val (.int j_v0), .val (.int j_v1), .val (.int j_lv), .val (.int kd), .val (.ref b1), .val (.ref b74), .unset] [(.int (own_same u0 u1 lu j_v0 j_v1 j_lv))]))
                              by_cases hc164 : (own_same u0 u1 lu j_v0 j_v1 j_lv) = (0 : Int32)
                              · skip
                                refine Go.by (fun t k => XS.ifYes X163.here hx rfl (pc0 := 406) (pc' := 413) rfl (hb hby at_406) rfl ((if0 _ _).trans (teq hc164).1) (by decide) (by decide) k) ?_
                                show Go p e below _ (T163.setTop (mkF m 413 #[.val (.int ip), .val (.int iq), .val (.int ir), .val (.int is_), .val (.int im), .val (.int i0), .val (.int i1), .val (.int u0), .val (.int u1), .val (.int li), .val (.int lu), .val (.int j_sc), .val (.int j_sl), .val (.int j_j0), .val (.int j_j1), .val (.int j_lj), .val (.int j_tc), .val (.int j_tl), .val (.int j_v0), .val (.int j_v1), .val (.int j_lv), .val (.int kd), .val (.ref b1), .val (.ref b74), .unset] []))
                                refine Go.by (fun t k => XS.iconst X163.here hx rfl (hb hby at_413) k) ?_
                                show Go p e below _ (T163.setTop (mkF m 414 #[.val (.int ip), .val (.int iq), .val (.int ir), .val (.int is_), .val (.int im), .val (.int i0), .val (.int i1), .val (.int u0), .val (.int u1), .val (.int li), .val (.int lu), .val (.int j_sc), .val (.int j_sl), .val (.int j_j0), .val (.int j_j1), .val (.int j_lj), .val (.int j_tc), .val (.int j_tl), .val (.int j_v0), .val (.int j_v1), .val (.int j_lv), .val (.int kd), .val (.ref b1), .val (.ref b74), .unset] [(.int (0 : Int32))]))
                                refine Go.by (fun t k => XS.istore X163.here hx rfl (hb hby at_414) rfl (l' := #[.val (.int ip), .val (.int iq), .val (.int ir), .val (.int is_), .val (.int im), .val (.int i0), .val (.int i1), .val (.int u0), .val (.int u1), .val (.int li), .val (.int lu), .val (.int j_sc), .val (.int j_sl), .val (.int j_j0), .val (.int j_j1), .val (.int j_lj), .val (.int j_tc), .val (.int j_tl), .val (.int j_v0), .val (.int j_v1), .val (.int j_lv), .val (.int kd), .val (.ref b1), .val (.ref b74), .val (.int (0 : Int32))]) rfl k) ?_
                                show Go p e below _ (T163.setTop (mkF m 416 #[.val (.int ip), .val (.int iq), .val (.int ir), .val (.int is_), .val (.int im), .val (.int i0), .val (.int i1), .val (.int u0), .val (.int u1), .val (.int li), .val (.int lu), .val (.int j_sc), .val (.int j_sl), .val (.int j_j0), .val (.int j_j1), .val (.int j_lj), .val (.int j_tc), .val (.int j_tl), .val (.int j_v0), .val (.int j_v1), .val (.int j_lv), .val (.int kd), .val (.ref b1), .val (.ref b74), .val (.int (0 : Int32))] []))
                                refine Go.by (fun t k => XS.aload X163.here hx rfl (hb hby at_416) rfl rfl k) ?_
                                show Go p e below _ (T163.setTop (mkF m 418 #[.val (.int ip), .val (.int iq), .val (.int ir), .val (.int is_), .val (.int im), .val (.int i0), .val (.int i1), .val (.int u0), .val (.int u1), .val (.int li), .val (.int lu), .val (.int j_sc), .val (.int j_sl), .val (.int j_j0), .val (.int j_j1), .val (.int j_lj), .val (.int j_tc), .val (.int j_tl), .val (.int j_v0), .val (.int j_v1), .val (.int j_lv), .val (.int kd), .val (.ref b1), .val (.ref b74), .val (.int (0 : Int32))] [(.ref b1)]))
                                refine Go.by (fun t k => XS.aload X163.here hx rfl (hb hby at_418) rfl rfl k) ?_
                                show Go p e below _ (T163.setTop (mkF m 420 #[.val (.int ip), .val (.int iq), .val (.int ir), .val (.int is_), .val (.int im), .val (.int i0), .val (.int i1), .val (.int u0), .val (.int u1), .val (.int li), .val (.int lu), .val (.int j_sc), .val (.int j_sl), .val (.int j_j0), .val (.int j_j1), .val (.int j_lj), .val (.int j_tc), .val (.int j_tl), .val (.int j_v0), .val (.int j_v1), .val (.int j_lv), .val (.int kd), .val (.ref b1), .val (.ref b74), .val (.int (0 : Int32))] [(.ref b74), (.ref b1)]))
                                have F166 : Exa Z T131.heap b1 "com/example/tattler/tattler/channel/WatchedResource" := (F120.keep K131)
                                have F167 : Fld Z T131.heap b1 "com/example/tattler/tattler/channel/WatchedResource" "id" "Ljava/lang/String;" (.ref sa_4) := ((((F24_1.ext E74).keep K82 nin0).keep K107 nin0).keep K131 (ninS ne75 nin0))
                                have F168 : Fld Z T131.heap b1 "com/example/tattler/tattler/channel/WatchedResource" "uri" "Ljava/lang/String;" (.ref sa_13) := ((((F24_2.ext E74).keep K82 nin0).keep K107 nin0).keep K131 (ninS ne75 nin0))
                                have F169 : Exa Z T131.heap sa_4 "java/lang/String" := (F122.keep K131)
                                have F170 : Fld Z T131.heap sa_4 "java/lang/String" "coder" "B" (.int (0 : Int32)) := ((((((F4_1.keep K13 nin0).keep K24 (ninS (Ne.symm ne9) nin0)).ext E74).keep K82 nin0).keep K107 nin0).keep K131 (ninS ne76 nin0))
                                have F171 : Fld Z T131.heap sa_4 "java/lang/String" "value" "[B" (.ref xb_4) := ((((((F4_2.keep K13 nin0).keep K24 (ninS (Ne.symm ne9) nin0)).ext E74).keep K82 nin0).keep K107 nin0).keep K131 (ninS ne76 nin0))
                                have F172 : Arv Z T131.heap xb_4 kb_4 .byte li (own_sv (nar .byte (i0.toInt8.toInt32)) (nar .byte (i1.toInt8.toInt32)) li) (.int (0 : Int32)) := ((F109.keep K107 nin0).keep K131 (ninS ne77 nin0))
                                have F173 : Exa Z T131.heap sa_13 "java/lang/String" := (F124.keep K131)
                                have F174 : Fld Z T131.heap sa_13 "java/lang/String" "coder" "B" (.int (0 : Int32)) := (((((F13_1.keep K24 (ninS (Ne.symm ne16) nin0)).ext E74).keep K82 nin0).keep K107 nin0).keep K131 (ninS ne78 nin0))
                                have F175 : Fld Z T131.heap sa_13 "java/lang/String" "value" "[B" (.ref xb_13) := (((((F13_2.keep K24 (ninS (Ne.symm ne16) nin0)).ext E74).keep K82 nin0).keep K107 nin0).keep K131 (ninS ne78 nin0))
                                have F176 : Arv Z T131.heap xb_13 kb_13 .byte lu (own_sv (nar .byte (u0.toInt8.toInt32)) (nar .byte (u1.toInt8.toInt32)) lu) (.int (0 : Int32)) := ((F110.keep K107 nin0).keep K131 (ninS ne79 nin0))
                                have F177 : Exa Z T131.heap sa_82 "java/lang/String" := (F128.keep K131)
                                have F178 : Fld Z T131.heap sa_82 "java/lang/String" "coder" "B" (.int (0 : Int32)) := ((F82_1.keep K107 nin0).keep K131 (ninS (Ne.symm ne97) nin0))
                                have F179 : Fld Z T131.heap sa_82 "java/lang/String" "value" "[B" (.ref xb_82) := ((F82_2.keep K107 nin0).keep K131 (ninS (Ne.symm ne97) nin0))
                                have F180 : Arv Z T131.heap xb_82 kb_82 .byte j_lj (own_sv (nar .byte (j_j0.toInt8.toInt32)) (nar .byte (j_j1.toInt8.toInt32)) j_lj) (.int (0 : Int32)) := ((F82_3.keep K107 nin0).keep K131 (ninS (Ne.symm ne105) nin0))
                                have F181 : Exa Z T131.heap sa_107 "java/lang/String" := (F107_0.keep K131)
                                have F182 : Fld Z T131.heap sa_107 "java/lang/String" "coder" "B" (.int (0 : Int32)) := (F107_1.keep K131 (ninS (Ne.symm ne117) nin0))
                                have F183 : Fld Z T131.heap sa_107 "java/lang/String" "value" "[B" (.ref xb_107) := (F107_2.keep K131 (ninS (Ne.symm ne117) nin0))
                                have F184 : Arv Z T131.heap xb_107 kb_107 .byte j_lv (own_sv (nar .byte (j_v0.toInt8.toInt32)) (nar .byte (j_v1.toInt8.toInt32)) j_lv) (.int (0 : Int32)) := (F107_3.keep K131 (ninS (Ne.symm ne127) nin0))
                                obtain ⟨cq165, kq165, q165a, q165b, q165c⟩ := isOf hZ e163 F166
                                obtain ⟨_, _, ⟨T165, L165, k165, n165⟩, -, X165, ⟨Lc165, hQ165, l165, y165, z165⟩, st165⟩ := X163.virtualBack hx (y := (⟨"com/example/tattler/tattler/channel/WatchedResource", "equals", "(Ljava/lang/Object;)Z"⟩ : MethodName)) (z := (⟨"com/example/tattler/tattler/channel/WatchedResource", "equals", "(Ljava/lang/Object;)Z"⟩ : MethodName)) hown (mvT hZ (hw _ (List.mem_of_getElem? (i := 40) rfl))) (mvT hZ (hw _ (List.mem_of_getElem? (i := 41) rfl))) (notFace_of_selects (args := #[]) (mvT hZ (hw _ (List.mem_of_getElem? (i := 43) rfl)))) (mvT hZ (hw _ (List.mem_of_getElem? (i := 43) rfl))) (mvT hZ (hw _ (List.mem_of_getElem? (i := 42) rfl))) (by decide) (backOf (W := 0) (weq l Z a0 hw [] b1 b74 cs sa_4 xb_4 kb_4 li (nar .byte (i0.toInt8.toInt32)) (nar .byte (i1.toInt8.toInt32)) sa_13 xb_13 kb_13 lu (nar .byte (u0.toInt8.toInt32)) (nar .byte (u1.toInt8.toInt32)) sa_82 xb_82 kb_82 j_lj (nar .byte (j_j0.toInt8.toInt32)) (nar .byte (j_j1.toInt8.toInt32)) sa_107 xb_107 kb_107 j_lv (nar .byte (j_v0.toInt8.toInt32)) (nar .byte (j_v1.toInt8.toInt32)) T131.heap n0 F137 P0 F166 F167 F168 F131_0 F131_1 F131_2 F169 F170 F171 F172 F173 F174 F175 F176 F177 F178 F179 F180 F181 F182 F183 F184 hcs ne93 ne115 hli hlu hj_lj hj_lv) hZ (hw _ (List.mem_of_getElem? (i := 44) rfl)) (hw _ (List.mem_of_getElem? (i := 2) rfl)) (by decide) (by decide)) q165a q165c (g := (mkF m 420 #[.val (.int ip), .val (.int iq), .val (.int ir), .val (.int is_), .val (.int im), .val (.int i0), .val (.int i1), .val (.int u0), .val (.int u1), .val (.int li), .val (.int lu), .val (.int j_sc), .val (.int j_sl), .val (.int j_j0), .val (.int j_j1), .val (.int j_lj), .val (.int j_tc), .val (.int j_tl), .val (.int j_v0), .val (.int j_v1), .val (.int j_lv), .val (.int kd), .val (.ref b1), .val (.ref b74), .val (.int (0 : Int32))] [(.ref b74), (.ref b1)])) rfl (by rw [hml]; rfl) (Steps.refl _) (argsL := [(.ref b74)]) (rest := []) (lenOf pd_10 rfl) rfl (by show 2 * 0 + _ ≤ _; exact Nat.le_of_eq rfl) (hb hby at_420) (fun _ _ => ⟨rfl, e163, (by decide : 26 + 0 ≤ _), (by decide : 52 + 0 ≤ _)⟩)
                                dsimp only [Pt.U, Pt.locs, Pt.cells, Pt.slots] at X165 l165 y165 z165 st165 hQ165
                                subst l165 y165 z165
                                obtain ⟨rfl, N165q, e165⟩ := hQ165
                                have N165 := Fr.app N163 N165q
                                refine Go.tr st165 ?_
                                show Go p e below _ (T165.setTop (mkF m 423 #[.val (.int ip), .val (.int iq), .val (.int ir), .val (.int is_), .val (.int im), .val (.int i0), .val (.int i1), .val (.int u0), .val (.int u1), .val (.int li), .val (.int lu), .val (.int j_sc), .val (.int j_sl), .val (.int j_j0), .val (.int j_j1), .val (.int j_lj), .val (.int j_tc), .val (.int j_tl), .val (.int j_v0), .val (.int j_v1), .val (.int j_lv), .val (.int kd), .val (.ref b1), .val (.ref b74), .val (.int (0 : Int32))] [(.int (own_weq (own_lat (nar .byte (i0.toInt8.toInt32)) (nar .byte (i1.toInt8.toInt32)) li (nar .byte (j_j0.toInt8.toInt32)) (nar .byte (j_j1.toInt8.toInt32)) j_lj) (own_lat (nar .byte (u0.toInt8.toInt32)) (nar .byte (u1.toInt8.toInt32)) lu (nar .byte (j_v0.toInt8.toInt32)) (nar .byte (j_v1.toInt8.toInt32)) j_lv)))]))
                                refine Go.by (fun t k => XS.iload X165.here hx rfl (hb hby at_423) rfl k) ?_
                                show Go p e below _ (T165.setTop (mkF m 425 #[.val (.int ip), .val (.int iq), .val (.int ir), .val (.int is_), .val (.int im), .val (.int i0), .val (.int i1), .val (.int u0), .val (.int u1), .val (.int li), .val (.int lu), .val (.int j_sc), .val (.int j_sl), .val (.int j_j0), .val (.int j_j1), .val (.int j_lj), .val (.int j_tc), .val (.int j_tl), .val (.int j_v0), .val (.int j_v1), .val (.int j_lv), .val (.int kd), .val (.ref b1), .val (.ref b74), .val (.int (0 : Int32))] [(.int (0 : Int32)), (.int (own_weq (own_lat (nar .byte (i0.toInt8.toInt32)) (nar .byte (i1.toInt8.toInt32)) li (nar .byte (j_j0.toInt8.toInt32)) (nar .byte (j_j1.toInt8.toInt32)) j_lj) (own_lat (nar .byte (u0.toInt8.toInt32)) (nar .byte (u1.toInt8.toInt32)) lu (nar .byte (j_v0.toInt8.toInt32)) (nar .byte (j_v1.toInt8.toInt32)) j_lv)))]))
                                refine Go.by (fun t k => XS.icmpNo X165.here hx rfl (hb hby at_425) rfl (teq (by rw [own_fin hi0 hj_j0 hi1 hj_j1 hli, own_fin hu0 hj_v0 hu1 hj_v1 hlu]; simp only [own_weq, if_neg hc139, if_pos hc164])).2 k) ?_
                                show Go p e below _ (T165.setTop (mkF m 428 #[.val (.int ip), .val (.int iq), .val (.int ir), .val (.int is_), .val (.int im), .val (.int i0), .val (.int i1), .val (.int u0), .val (.int u1), .val (.int li), .val (.int lu), .val (.int j_sc), .val (.int j_sl), .val (.int j_j0), .val (.int j_j1), .val (.int j_lj), .val (.int j_tc), .val (.int j_tl), .val (.int j_v0), .val (.int j_v1), .val (.int j_lv), .val (.int kd), .val (.ref b1), .val (.ref b74), .val (.int (0 : Int32))] []))
                                refine Go.by (fun t k => XS.aload X165.here hx rfl (hb hby at_428) rfl rfl k) ?_
                                show Go p e below _ (T165.setTop (mkF m 430 #[.val (.int ip), .val (.int iq), .val (.int ir), .val (.int is_), .val (.int im), .val (.int i0), .val (.int i1), .val (.int u0), .val (.int u1), .val (.int li), .val (.int lu), .val (.int j_sc), .val (.int j_sl), .val (.int j_j0), .val (.int j_j1), .val (.int j_lj), .val (.int j_tc), .val (.int j_tl), .val (.int j_v0), .val (.int j_v1), .val (.int j_lv), .val (.int kd), .val (.ref b1), .val (.ref b74), .val (.int (0 : Int32))] [(.ref b74)]))
                                refine Go.by (fun t k => XS.aload X165.here hx rfl (hb hby at_430) rfl rfl k) ?_
                                show Go p e below _ (T165.setTop (mkF m 432 #[.val (.int ip), .val (.int iq), .val (.int ir), .val (.int is_), .val (.int im), .val (.int i0), .val (.int i1), .val (.int u0), .val (.int u1), .val (.int li), .val (.int lu), .val (.int j_sc), .val (.int j_sl), .val (.int j_j0), .val (.int j_j1), .val (.int j_lj), .val (.int j_tc), .val (.int j_tl), .val (.int j_v0), .val (.int j_v1), .val (.int j_lv), .val (.int kd), .val (.ref b1), .val (.ref b74), .val (.int (0 : Int32))] [(.ref b1), (.ref b74)]))
                                obtain ⟨cq185, kq185, q185a, q185b, q185c⟩ := isOf hZ e165 F131_0
                                obtain ⟨_, _, ⟨T185, L185, k185, n185⟩, -, X185, ⟨Lc185, hQ185, l185, y185, z185⟩, st185⟩ := X165.virtualBack hx (y := (⟨"com/example/tattler/tattler/channel/WatchedResource", "equals", "(Ljava/lang/Object;)Z"⟩ : MethodName)) (z := (⟨"com/example/tattler/tattler/channel/WatchedResource", "equals", "(Ljava/lang/Object;)Z"⟩ : MethodName)) hown (mvT hZ (hw _ (List.mem_of_getElem? (i := 40) rfl))) (mvT hZ (hw _ (List.mem_of_getElem? (i := 41) rfl))) (notFace_of_selects (args := #[]) (mvT hZ (hw _ (List.mem_of_getElem? (i := 43) rfl)))) (mvT hZ (hw _ (List.mem_of_getElem? (i := 43) rfl))) (mvT hZ (hw _ (List.mem_of_getElem? (i := 42) rfl))) (by decide) (backOf (W := 0) (weq l Z a0 hw [] b74 b1 cs sa_82 xb_82 kb_82 j_lj (nar .byte (j_j0.toInt8.toInt32)) (nar .byte (j_j1.toInt8.toInt32)) sa_107 xb_107 kb_107 j_lv (nar .byte (j_v0.toInt8.toInt32)) (nar .byte (j_v1.toInt8.toInt32)) sa_4 xb_4 kb_4 li (nar .byte (i0.toInt8.toInt32)) (nar .byte (i1.toInt8.toInt32)) sa_13 xb_13 kb_13 lu (nar .byte (u0.toInt8.toInt32)) (nar .byte (u1.toInt8.toInt32)) T131.heap n0 F137 P0 F131_0 F131_1 F131_2 F166 F167 F168 F177 F178 F179 F180 F181 F182 F183 F184 F169 F170 F171 F172 F173 F174 F175 F176 hcs (Ne.symm ne93) (Ne.symm ne115) hj_lj hj_lv hli hlu) hZ (hw _ (List.mem_of_getElem? (i := 44) rfl)) (hw _ (List.mem_of_getElem? (i := 2) rfl)) (by decide) (by decide)) q185a q185c (g := (mkF m 432 #[.val (.int ip), .val (.int iq), .val (.int ir), .val (.int is_), .val (.int im), .val (.int i0), .val (.int i1), .val (.int u0), .val (.int u1), .val (.int li), .val (.int lu), .val (.int j_sc), .val (.int j_sl), .val (.int j_j0), .val (.int j_j1), .val (.int j_lj), .val (.int j_tc), .val (.int j_tl), .val (.int j_v0), .val (.int j_v1), .val (.int j_lv), .val (.int kd), .val (.ref b1), .val (.ref b74), .val (.int (0 : Int32))] [(.ref b1), (.ref b74)])) rfl (by rw [hml]; rfl) (Steps.refl _) (argsL := [(.ref b1)]) (rest := []) (lenOf pd_10 rfl) rfl (by show 2 * 0 + _ ≤ _; exact Nat.le_of_eq rfl) (hb hby at_432) (fun _ _ => ⟨rfl, e165, (by decide : 26 + 0 ≤ _), (by decide : 52 + 0 ≤ _)⟩)
                                dsimp only [Pt.U, Pt.locs, Pt.cells, Pt.slots] at X185 l185 y185 z185 st185 hQ185
                                subst l185 y185 z185
                                obtain ⟨rfl, N185q, e185⟩ := hQ185
                                have N185 := Fr.app N165 N185q
                                refine Go.tr st185 ?_
                                show Go p e below _ (T185.setTop (mkF m 435 #[.val (.int ip), .val (.int iq), .val (.int ir), .val (.int is_), .val (.int im), .val (.int i0), .val (.int i1), .val (.int u0), .val (.int u1), .val (.int li), .val (.int lu), .val (.int j_sc), .val (.int j_sl), .val (.int j_j0), .val (.int j_j1), .val (.int j_lj), .val (.int j_tc), .val (.int j_tl), .val (.int j_v0), .val (.int j_v1), .val (.int j_lv), .val (.int kd), .val (.ref b1), .val (.ref b74), .val (.int (0 : Int32))] [(.int (own_weq (own_lat (nar .byte (j_j0.toInt8.toInt32)) (nar .byte (j_j1.toInt8.toInt32)) j_lj (nar .byte (i0.toInt8.toInt32)) (nar .byte (i1.toInt8.toInt32)) li) (own_lat (nar .byte (j_v0.toInt8.toInt32)) (nar .byte (j_v1.toInt8.toInt32)) j_lv (nar .byte (u0.toInt8.toInt32)) (nar .byte (u1.toInt8.toInt32)) lu)))]))
                                refine Go.by (fun t k => XS.iload X185.here hx rfl (hb hby at_435) rfl k) ?_
                                show Go p e below _ (T185.setTop (mkF m 437 #[.val (.int ip), .val (.int iq), .val (.int ir), .val (.int is_), .val (.int im), .val (.int i0), .val (.int i1), .val (.int u0), .val (.int u1), .val (.int li), .val (.int lu), .val (.int j_sc), .val (.int j_sl), .val (.int j_j0), .val (.int j_j1), .val (.int j_lj), .val (.int j_tc), .val (.int j_tl), .val (.int j_v0), .val (.int j_v1), .val (.int j_lv), .val (.int kd), .val (.ref b1), .val (.ref b74), .val (.int (0 : Int32))] [(.int (0 : Int32)), (.int (own_weq (own_lat (nar .byte (j_j0.toInt8.toInt32)) (nar .byte (j_j1.toInt8.toInt32)) j_lj (nar .byte (i0.toInt8.toInt32)) (nar .byte (i1.toInt8.toInt32)) li) (own_lat (nar .byte (j_v0.toInt8.toInt32)) (nar .byte (j_v1.toInt8.toInt32)) j_lv (nar .byte (u0.toInt8.toInt32)) (nar .byte (u1.toInt8.toInt32)) lu)))]))
                                refine Go.by (fun t k => XS.icmpNo X185.here hx rfl (hb hby at_437) rfl (teq (by rw [own_weqc, own_fin hi0 hj_j0 hi1 hj_j1 hli, own_fin hu0 hj_v0 hu1 hj_v1 hlu]; simp only [own_weq, if_neg hc139, if_pos hc164])).2 k) ?_
                                show Go p e below _ (T185.setTop (mkF m 440 #[.val (.int ip), .val (.int iq), .val (.int ir), .val (.int is_), .val (.int im), .val (.int i0), .val (.int i1), .val (.int u0), .val (.int u1), .val (.int li), .val (.int lu), .val (.int j_sc), .val (.int j_sl), .val (.int j_j0), .val (.int j_j1), .val (.int j_lj), .val (.int j_tc), .val (.int j_tl), .val (.int j_v0), .val (.int j_v1), .val (.int j_lv), .val (.int kd), .val (.ref b1), .val (.ref b74), .val (.int (0 : Int32))] []))
                                refine Go.by (fun t k => XS.iconst X185.here hx rfl (hb hby at_440) k) ?_
                                show Go p e below _ (T185.setTop (mkF m 441 #[.val (.int ip), .val (.int iq), .val (.int ir), .val (.int is_), .val (.int im), .val (.int i0), .val (.int i1), .val (.int u0), .val (.int u1), .val (.int li), .val (.int lu), .val (.int j_sc), .val (.int j_sl), .val (.int j_j0), .val (.int j_j1), .val (.int j_lj), .val (.int j_tc), .val (.int j_tl), .val (.int j_v0), .val (.int j_v1), .val (.int j_lv), .val (.int kd), .val (.ref b1), .val (.ref b74), .val (.int (0 : Int32))] [(.int (1 : Int32))]))
                                refine Go.by (fun t k => XS.goto X185.here hx rfl (pc0 := 441) (pc' := 445) rfl (hb hby at_441) (by decide) (by decide) k) ?_
                                show Go p e below _ (T185.setTop (mkF m 445 #[.val (.int ip), .val (.int iq), .val (.int ir), .val (.int is_), .val (.int im), .val (.int i0), .val (.int i1), .val (.int u0), .val (.int u1), .val (.int li), .val (.int lu), .val (.int j_sc), .val (.int j_sl), .val (.int j_j0), .val (.int j_j1), .val (.int j_lj), .val (.int j_tc), .val (.int j_tl), .val (.int j_v0), .val (.int j_v1), .val (.int j_lv), .val (.int kd), .val (.ref b1), .val (.ref b74), .val (.int (0 : Int32))] [(.int (1 : Int32))]))
                                have hq : Q_law Z ip iq ir is_ im cs h0 n0 (some (.int (nar .boolean (1 : Int32)))) T131.heap _ := ⟨rfl, N185, F138⟩
                                have F186 : CHr Z own_EL s.vm h0 T107.vm T131.heap := (own_chK A107 K131 (sfS (Safe.exa hZ.alike F126 (by decide) (by decide)) sf0))
                                have F187 : T107.heap.size ≤ T131.heap.size := (Nat.le_trans hk107 K131.1)
                                exact Go.retNH hS (by rw [e185]; exact F187) (own_chEnd X185 e185 hZ hEL F186 hh) X185 hx (t := .boolean) Bd.returns (by simp) hlk (hb hby at_445) (by decide) (by decide) (by rw [e185]; exact hq)
                              · skip
                                refine Go.by (fun t k => XS.ifNo X163.here hx rfl (hb hby at_406) rfl ((if0 _ _).trans (feq hc164).1) k) ?_
                                show Go p e below _ (T163.setTop (mkF m 409 #[.val (.int ip), .val (.int iq), .val (.int ir), .val (.int is_), .val (.int im), .val (.int i0), .val (.int i1), .val (.int u0), .val (.int u1), .val (.int li), .val (.int lu), .val (.int j_sc), .val (.int j_sl), .val (.int j_j0), .val (.int j_j1), .val (.int j_lj), .val (.int j_tc), .val (.int j_tl), .val (.int j_v0), .val (.int j_v1), .val (.int j_lv), .val (.int kd), .val (.ref b1), .val (.ref b74), .unset] []))
                                refine Go.by (fun t k => XS.iconst X163.here hx rfl (hb hby at_409) k) ?_
                                show Go p e below _ (T163.setTop (mkF m 410 #[.val (.int ip), .val (.int iq), .val (.int ir), .val (.int is_), .val (.int im), .val (.int i0), .val (.int i1), .val (.int u0), .val (.int u1), .val (.int li), .val (.int lu), .val (.int j_sc), .val (.int j_sl), .val (.int j_j0), .val (.int j_j1), .val (.int j_lj), .val (.int j_tc), .val (.int j_tl), .val (.int j_v0), .val (.int j_v1), .val (.int j_lv), .val (.int kd), .val (.ref b1), .val (.ref b74), .unset] [(.int (1 : Int32))]))
                                refine Go.by (fun t k => XS.goto X163.here hx rfl (pc0 := 410) (pc' := 414) rfl (hb hby at_410) (by decide) (by decide) k) ?_
                                show Go p e below _ (T163.setTop (mkF m 414 #[.val (.int ip), .val (.int iq), .val (.int ir), .val (.int is_), .val (.int im), .val (.int i0), .val (.int i1), .val (.int u0), .val (.int u1), .val (.int li), .val (.int lu), .val (.int j_sc), .val (.int j_sl), .val (.int j_j0), .val (.int j_j1), .val (.int j_lj), .val (.int j_tc), .val (.int j_tl), .val (.int j_v0), .val (.int j_v1), .val (.int j_lv), .val (.int kd), .val (.ref b1), .val (.ref b74), .unset] [(.int (1 : Int32))]))
                                refine Go.by (fun t k => XS.istore X163.here hx rfl (hb hby at_414) rfl (l' := #[.val (.int ip), .val (.int iq), .val (.int ir), .val (.int is_), .val (.int im), .val (.int i0), .val (.int i1), .val (.int u0), .val (.int u1), .val (.int li), .val (.int lu), .val (.int j_sc), .val (.int j_sl), .val (.int j_j0), .val (.int j_j1), .val (.int j_lj), .val (.int j_tc), .val (.int j_tl), .val (.int j_v0), .val (.int j_v1), .val (.int j_lv), .val (.int kd), .val (.ref b1), .val (.ref b74), .val (.int (1 : Int32))]) rfl k) ?_
                                show Go p e below _ (T163.setTop (mkF m 416 #[.val (.int ip), .val (.int iq), .val (.int ir), .val (.int is_), .val (.int im), .val (.int i0), .val (.int i1), .val (.int u0), .val (.int u1), .val (.int li), .val (.int lu), .val (.int j_sc), .val (.int j_sl), .val (.int j_j0), .val (.int j_j1), .val (.int j_lj), .val (.int j_tc), .val (.int j_tl), .val (.int j_v0), .val (.int j_v1), .val (.int j_lv), .val (.int kd), .val (.ref b1), .val (.ref b74), .val (.int (1 : Int32))] []))
                                refine Go.by (fun t k => XS.aload X163.here hx rfl (hb hby at_416) rfl rfl k) ?_
                                show Go p e below _ (T163.setTop (mkF m 418 #[.val (.int ip), .val (.int iq), .val (.int ir), .val (.int is_), .val (.int im), .val (.int i0), .val (.int i1), .val (.int u0), .val (.int u1), .val (.int li), .val (.int lu), .val (.int j_sc), .val (.int j_sl), .val (.int j_j0), .val (.int j_j1), .val (.int j_lj), .val (.int j_tc), .val (.int j_tl), .val (.int j_v0), .val (.int j_v1), .val (.int j_lv), .val (.int kd), .val (.ref b1), .val (.ref b74), .val (.int (1 : Int32))] [(.ref b1)]))
                                refine Go.by (fun t k => XS.aload X163.here hx rfl (hb hby at_418) rfl rfl k) ?_
                                show Go p e below _ (T163.setTop (mkF m 420 #[.val (.int ip), .val (.int iq), .val (.int ir), .val (.int is_), .val (.int im), .val (.int i0), .val (.int i1), .val (.int u0), .val (.int u1), .val (.int li), .val (.int lu), .val (.int j_sc), .val (.int j_sl), .val (.int j_j0), .val (.int j_j1), .val (.int j_lj), .val (.int j_tc), .val (.int j_tl), .val (.int j_v0), .val (.int j_v1), .val (.int j_lv), .val (.int kd), .val (.ref b1), .val (.ref b74), .val (.int (1 : Int32))] [(.ref b74), (.ref b1)]))
                                have F189 : Exa Z T131.heap b1 "com/example/tattler/tattler/channel/WatchedResource" := (F120.keep K131)
                                have F190 : Fld Z T131.heap b1 "com/example/tattler/tattler/channel/WatchedResource" "id" "Ljava/lang/String;" (.ref sa_4) := ((((F24_1.ext E74).keep K82 nin0).keep K107 nin0).keep K131 (ninS ne75 nin0))
                                have F191 : Fld Z T131.heap b1 "com/example/tattler/tattler/channel/WatchedResource" "uri" "Ljava/lang/String;" (.ref sa_13) := ((((F24_2.ext E74).keep K82 nin0).keep K107 nin0).keep K131 (ninS ne75 nin0))
                                have F192 : Exa Z T131.heap sa_4 "java/lang/String" := (F122.keep K131)
                                have F193 : Fld Z T131.heap sa_4 "java/lang/String" "coder" "B" (.int (0 : Int32)) := ((((((F4_1.keep K13 nin0).keep K24 (ninS (Ne.symm ne9) nin0)).ext E74).keep K82 nin0).keep K107 nin0).keep K131 (ninS ne76 nin0))
                                have F194 : Fld Z T131.heap sa_4 "java/lang/String" "value" "[B" (.ref xb_4) := ((((((F4_2.keep K13 nin0).keep K24 (ninS (Ne.symm ne9) nin0)).ext E74).keep K82 nin0).keep K107 nin0).keep K131 (ninS ne76 nin0))
                                have F195 : Arv Z T131.heap xb_4 kb_4 .byte li (own_sv (nar .byte (i0.toInt8.toInt32)) (nar .byte (i1.toInt8.toInt32)) li) (.int (0 : Int32)) := ((F109.keep K107 nin0).keep K131 (ninS ne77 nin0))
                                have F196 : Exa Z T131.heap sa_13 "java/lang/String" := (F124.keep K131)
                                have F197 : Fld Z T131.heap sa_13 "java/lang/String" "coder" "B" (.int (0 : Int32)) := (((((F13_1.keep K24 (ninS (Ne.symm ne16) nin0)).ext E74).keep K82 nin0).keep K107 nin0).keep K131 (ninS ne78 nin0))
                                have F198 : Fld Z T131.heap sa_13 "java/lang/String" "value" "[B" (.ref xb_13) := (((((F13_2.keep K24 (ninS (Ne.symm ne16) nin0)).ext E74).keep K82 nin0).keep K107 nin0).keep K131 (ninS ne78 nin0))
                                have F199 : Arv Z T131.heap xb_13 kb_13 .byte lu (own_sv (nar .byte (u0.toInt8.toInt32)) (nar .byte (u1.toInt8.toInt32)) lu) (.int (0 : Int32)) := ((F110.keep K107 nin0).keep K131 (ninS ne79 nin0))
                                have F200 : Exa Z T131.heap sa_82 "java/lang/String" := (F128.keep K131)
                                have F201 : Fld Z T131.heap sa_82 "java/lang/String" "coder" "B" (.int (0 : Int32)) := ((F82_1.keep K107 nin0).keep K131 (ninS (Ne.symm ne97) nin0))
                                have F202 : Fld Z T131.heap sa_82 "java/lang/String" "value" "[B" (.ref xb_82) := ((F82_2.keep K107 nin0).keep K131 (ninS (Ne.symm ne97) nin0))
                                have F203 : Arv Z T131.heap xb_82 kb_82 .byte j_lj (own_sv (nar .byte (j_j0.toInt8.toInt32)) (nar .byte (j_j1.toInt8.toInt32)) j_lj) (.int (0 : Int32)) := ((F82_3.keep K107 nin0).keep K131 (ninS (Ne.symm ne105) nin0))
                                have F204 : Exa Z T131.heap sa_107 "java/lang/String" := (F107_0.keep K131)
                                have F205 : Fld Z T131.heap sa_107 "java/lang/String" "coder" "B" (.int (0 : Int32)) := (F107_1.keep K131 (ninS (Ne.symm ne117) nin0))
                                have F206 : Fld Z T131.heap sa_107 "java/lang/String" "value" "[B" (.ref xb_107) := (F107_2.keep K131 (ninS (Ne.symm ne117) nin0))
                                have F207 : Arv Z T131.heap xb_107 kb_107 .byte j_lv (own_sv (nar .byte (j_v0.toInt8.toInt32)) (nar .byte (j_v1.toInt8.toInt32)) j_lv) (.int (0 : Int32)) := (F107_3.keep K131 (ninS (Ne.symm ne127) nin0))
                                obtain ⟨cq188, kq188, q188a, q188b, q188c⟩ := isOf hZ e163 F189
                                obtain ⟨_, _, ⟨T188, L188, k188, n188⟩, -, X188, ⟨Lc188, hQ188, l188, y188, z188⟩, st188⟩ := X163.virtualBack hx (y := (⟨"com/example/tattler/tattler/channel/WatchedResource", "equals", "(Ljava/lang/Object;)Z"⟩ : MethodName)) (z := (⟨"com/example/tattler/tattler/channel/WatchedResource", "equals", "(Ljava/lang/Object;)Z"⟩ : MethodName)) hown (mvT hZ (hw _ (List.mem_of_getElem? (i := 40) rfl))) (mvT hZ (hw _ (List.mem_of_getElem? (i := 41) rfl))) (notFace_of_selects (args := #[]) (mvT hZ (hw _ (List.mem_of_getElem? (i := 43) rfl)))) (mvT hZ (hw _ (List.mem_of_getElem? (i := 43) rfl))) (mvT hZ (hw _ (List.mem_of_getElem? (i := 42) rfl))) (by decide) (backOf (W := 0) (weq l Z a0 hw [] b1 b74 cs sa_4 xb_4 kb_4 li (nar .byte (i0.toInt8.toInt32)) (nar .byte (i1.toInt8.toInt32)) sa_13 xb_13 kb_13 lu (nar .byte (u0.toInt8.toInt32)) (nar .byte (u1.toInt8.toInt32)) sa_82 xb_82 kb_82 j_lj (nar .byte (j_j0.toInt8.toInt32)) (nar .byte (j_j1.toInt8.toInt32)) sa_107 xb_107 kb_107 j_lv (nar .byte (j_v0.toInt8.toInt32)) (nar .byte (j_v1.toInt8.toInt32)) T131.heap n0 F137 P0 F189 F190 F191 F131_0 F131_1 F131_2 F192 F193 F194 F195 F196 F197 F198 F199 F200 F201 F202 F203 F204 F205 F206 F207 hcs ne93 ne115 hli hlu hj_lj hj_lv) hZ (hw _ (List.mem_of_getElem? (i := 44) rfl)) (hw _ (List.mem_of_getElem? (i := 2) rfl)) (by decide) (by decide)) q188a q188c (g := (mkF m 420 #[.val (.int ip), .val (.int iq), .val (.int ir), .val (.int is_), .val (.int im), .val (.int i0), .val (.int i1), .val (.int u0), .val (.int u1), .val (.int li), .val (.int lu), .val (.int j_sc), .val (.int j_sl), .val (.int j_j0), .val (.int j_j1), .val (.int j_lj), .val (.int j_tc), .val (.int j_tl), .val (.int j_v0), .val (.int j_v1), .val (.int j_lv), .val (.int kd), .val (.ref b1), .val (.ref b74), .val (.int (1 : Int32))] [(.ref b74), (.ref b1)])) rfl (by rw [hml]; rfl) (Steps.refl _) (argsL := [(.ref b74)]) (rest := []) (lenOf pd_10 rfl) rfl (by show 2 * 0 + _ ≤ _; exact Nat.le_of_eq rfl) (hb hby at_420) (fun _ _ => ⟨rfl, e163, (by decide : 26 + 0 ≤ _), (by decide : 52 + 0 ≤ _)⟩)
                                dsimp only [Pt.U, Pt.locs, Pt.cells, Pt.slots] at X188 l188 y188 z188 st188 hQ188
                                subst l188 y188 z188
                                obtain ⟨rfl, N188q, e188⟩ := hQ188
                                have N188 := Fr.app N163 N188q
                                refine Go.tr st188 ?_
                                show Go p e below _ (T188.setTop (mkF m 423 #[.val (.int ip), .val (.int iq), .val (.int ir), .val (.int is_), .val (.int im), .val (.int i0), .val (.int i1), .val (.int u0), .val (.int u1), .val (.int li), .val (.int lu), .val (.int j_sc), .val (.int j_sl), .val (.int j_j0), .val (.int j_j1), .val (.int j_lj), .val (.int j_tc), .val (.int j_tl), .val (.int j_v0), .val (.int j_v1), .val (.int j_lv), .val (.int kd), .val (.ref b1), .val (.ref b74), .val (.int (1 : Int32))] [(.int (own_weq (own_lat (nar .byte (i0.toInt8.toInt32)) (nar .byte (i1.toInt8.toInt32)) li (nar .byte (j_j0.toInt8.toInt32)) (nar .byte (j_j1.toInt8.toInt32)) j_lj) (own_lat (nar .byte (u0.toInt8.toInt32)) (nar .byte (u1.toInt8.toInt32)) lu (nar .byte (j_v0.toInt8.toInt32)) (nar .byte (j_v1.toInt8.toInt32)) j_lv)))]))
                                refine Go.by (fun t k => XS.iload X188.here hx rfl (hb hby at_423) rfl k) ?_
                                show Go p e below _ (T188.setTop (mkF m 425 #[.val (.int ip), .val (.int iq), .val (.int ir), .val (.int is_), .val (.int im), .val (.int i0), .val (.int i1), .val (.int u0), .val (.int u1), .val (.int li), .val (.int lu), .val (.int j_sc), .val (.int j_sl), .val (.int j_j0), .val (.int j_j1), .val (.int j_lj), .val (.int j_tc), .val (.int j_tl), .val (.int j_v0), .val (.int j_v1), .val (.int j_lv), .val (.int kd), .val (.ref b1), .val (.ref b74), .val (.int (1 : Int32))] [(.int (1 : Int32)), (.int (own_weq (own_lat (nar .byte (i0.toInt8.toInt32)) (nar .byte (i1.toInt8.toInt32)) li (nar .byte (j_j0.toInt8.toInt32)) (nar .byte (j_j1.toInt8.toInt32)) j_lj) (own_lat (nar .byte (u0.toInt8.toInt32)) (nar .byte (u1.toInt8.toInt32)) lu (nar .byte (j_v0.toInt8.toInt32)) (nar .byte (j_v1.toInt8.toInt32)) j_lv)))]))
                                refine Go.by (fun t k => XS.icmpNo X188.here hx rfl (hb hby at_425) rfl (teq (by rw [own_fin hi0 hj_j0 hi1 hj_j1 hli, own_fin hu0 hj_v0 hu1 hj_v1 hlu]; simp only [own_weq, if_neg hc139, if_neg hc164])).2 k) ?_
                                show Go p e below _ (T188.setTop (mkF m 428 #[.val (.int ip), .val (.int iq), .val (.int ir), .val (.int is_), .val (.int im), .val (.int i0), .val (.int i1), .val (.int u0), .val (.int u1), .val (.int li), .val (.int lu), .val (.int j_sc), .val (.int j_sl), .val (.int j_j0), .val (.int j_j1), .val (.int j_lj), .val (.int j_tc), .val (.int j_tl), .val (.int j_v0), .val (.int j_v1), .val (.int j_lv), .val (.int kd), .val (.ref b1), .val (.ref b74), .val (.int (1 : Int32))] []))
                                refine Go.by (fun t k => XS.aload X188.here hx rfl (hb hby at_428) rfl rfl k) ?_
                                show Go p e below _ (T188.setTop (mkF m 430 #[.val (.int ip), .val (.int iq), .val (.int ir), .val (.int is_), .val (.int im), .val (.int i0), .val (.int i1), .val (.int u0), .val (.int u1), .val (.int li), .val (.int lu), .val (.int j_sc), .val (.int j_sl), .val (.int j_j0), .val (.int j_j1), .val (.int j_lj), .val (.int j_tc), .val (.int j_tl), .val (.int j_v0), .val (.int j_v1), .val (.int j_lv), .val (.int kd), .val (.ref b1), .val (.ref b74), .val (.int (1 : Int32))] [(.ref b74)]))
                                refine Go.by (fun t k => XS.aload X188.here hx rfl (hb hby at_430) rfl rfl k) ?_
                                show Go p e below _ (T188.setTop (mkF m 432 #[.val (.int ip), .val (.int iq), .val (.int ir), .val (.int is_), .val (.int im), .val (.int i0), .val (.int i1), .val (.int u0), .val (.int u1), .val (.int li), .val (.int lu), .val (.int j_sc), .val (.int j_sl), .val (.int j_j0), .val (.int j_j1), .val (.int j_lj), .val (.int j_tc), .val (.int j_tl), .val (.int j_v0), .val (.int j_v1), .val (.int j_lv), .val (.int kd), .val (.ref b1), .val (.ref b74), .val (.int (1 : Int32))] [(.ref b1), (.ref b74)]))
                                obtain ⟨cq208, kq208, q208a, q208b, q208c⟩ := isOf hZ e188 F131_0
                                obtain ⟨_, _, ⟨T208, L208, k208, n208⟩, -, X208, ⟨Lc208, hQ208, l208, y208, z208⟩, st208⟩ := X188.virtualBack hx (y := (⟨"com/example/tattler/tattler/channel/WatchedResource", "equals", "(Ljava/lang/Object;)Z"⟩ : MethodName)) (z := (⟨"com/example/tattler/tattler/channel/WatchedResource", "equals", "(Ljava/lang/Object;)Z"⟩ : MethodName)) hown (mvT hZ (hw _ (List.mem_of_getElem? (i := 40) rfl))) (mvT hZ (hw _ (List.mem_of_getElem? (i := 41) rfl))) (notFace_of_selects (args := #[]) (mvT hZ (hw _ (List.mem_of_getElem? (i := 43) rfl)))) (mvT hZ (hw _ (List.mem_of_getElem? (i := 43) rfl))) (mvT hZ (hw _ (List.mem_of_getElem? (i := 42) rfl))) (by decide) (backOf (W := 0) (weq l Z a0 hw [] b74 b1 cs sa_82 xb_82 kb_82 j_lj (nar .byte (j_j0.toInt8.toInt32)) (nar .byte (j_j1.toInt8.toInt32)) sa_107 xb_107 kb_107 j_lv (nar .byte (j_v0.toInt8.toInt32)) (nar .byte (j_v1.toInt8.toInt32)) sa_4 xb_4 kb_4 li (nar .byte (i0.toInt8.toInt32)) (nar .byte (i1.toInt8.toInt32)) sa_13 xb_13 kb_13 lu (nar .byte (u0.toInt8.toInt32)) (nar .byte (u1.toInt8.toInt32)) T131.heap n0 F137 P0 F131_0 F131_1 F131_2 F189 F190 F191 F200 F201 F202 F203 F204 F205 F206 F207 F192 F193 F194 F195 F196 F197 F198 F199 hcs (Ne.symm ne93) (Ne.symm ne115) hj_lj hj_lv hli hlu) hZ (hw _ (List.mem_of_getElem? (i := 44) rfl)) (hw _ (List.mem_of_getElem? (i := 2) rfl)) (by decide) (by decide)) q208a q208c (g := (mkF m 432 #[.val (.int ip), .val (.int iq), .val (.int ir), .val (.int is_), .val (.int im), .val (.int i0), .val (.int i1), .val (.int u0), .val (.int u1), .val (.int li), .val (.int lu), .val (.int j_sc), .val (.int j_sl), .val (.int j_j0), .val (.int j_j1), .val (.int j_lj), .val (.int j_tc), .val (.int j_tl), .val (.int j_v0), .val (.int j_v1), .val (.int j_lv), .val (.int kd), .val (.ref b1), .val (.ref b74), .val (.int (1 : Int32))] [(.ref b1), (.ref b74)])) rfl (by rw [hml]; rfl) (Steps.refl _) (argsL := [(.ref b1)]) (rest := []) (lenOf pd_10 rfl) rfl (by show 2 * 0 + _ ≤ _; exact Nat.le_of_eq rfl) (hb hby at_432) (fun _ _ => ⟨rfl, e188, (by decide : 26 + 0 ≤ _), (by decide : 52 + 0 ≤ _)⟩)
                                dsimp only [Pt.U, Pt.locs, Pt.cells, Pt.slots] at X208 l208 y208 z208 st208 hQ208
                                subst l208 y208 z208
                                obtain ⟨rfl, N208q, e208⟩ := hQ208
                                have N208 := Fr.app N188 N208q
                                refine Go.tr st208 ?_
                                show Go p e below _ (T208.setTop (mkF m 435 #[.val (.int ip), .val (.int iq), .val (.int ir), .val (.int is_), .val (.int im), .val (.int i0), .val (.int i1), .val (.int u0), .val (.int u1), .val (.int li), .val (.int lu), .val (.int j_sc), .val (.int j_sl), .val (.int j_j0), .val (.int j_j1), .val (.int j_lj), .val (.int j_tc), .val (.int j_tl), .val (.int j_v0), .val (.int j_v1), .val (.int j_lv), .val (.int kd), .val (.ref b1), .val (.ref b74), .val (.int (1 : Int32))] [(.int (own_weq (own_lat (nar .byte (j_j0.toInt8.toInt32)) (nar .byte (j_j1.toInt8.toInt32)) j_lj (nar .byte (i0.toInt8.toInt32)) (nar .byte (i1.toInt8.toInt32)) li) (own_lat (nar .byte (j_v0.toInt8.toInt32)) (nar .byte (j_v1.toInt8.toInt32)) j_lv (nar .byte (u0.toInt8.toInt32)) (nar .byte (u1.toInt8.toInt32)) lu)))]))
                                refine Go.by (fun t k => XS.iload X208.here hx rfl (hb hby at_435) rfl k) ?_
                                show Go p e below _ (T208.setTop (mkF m 437 #[.val (.int ip), .val (.int iq), .val (.int ir), .val (.int is_), .val (.int im), .val (.int i0), .val (.int i1), .val (.int u0), .val (.int u1), .val (.int li), .val (.int lu), .val (.int j_sc), .val (.int j_sl), .val (.int j_j0), .val (.int j_j1), .val (.int j_lj), .val (.int j_tc), .val (.int j_tl), .val (.int j_v0), .val (.int j_v1), .val (.int j_lv), .val (.int kd), .val (.ref b1), .val (.ref b74), .val (.int (1 : Int32))] [(.int (1 : Int32)), (.int (own_weq (own_lat (nar .byte (j_j0.toInt8.toInt32)) (nar .byte (j_j1.toInt8.toInt32)) j_lj (nar .byte (i0.toInt8.toInt32)) (nar .byte (i1.toInt8.toInt32)) li) (own_lat (nar .byte (j_v0.toInt8.toInt32)) (nar .byte (j_v1.toInt8.toInt32)) j_lv (nar .byte (u0.toInt8.toInt32)) (nar .byte (u1.toInt8.toInt32)) lu)))]))
                                refine Go.by (fun t k => XS.icmpNo X208.here hx rfl (hb hby at_437) rfl (teq (by rw [own_weqc, own_fin hi0 hj_j0 hi1 hj_j1 hli, own_fin hu0 hj_v0 hu1 hj_v1 hlu]; simp only [own_weq, if_neg hc139, if_neg hc164])).2 k) ?_
                                show Go p e below _ (T208.setTop (mkF m 440 #[.val (.int ip), .val (.int iq), .val (.int ir), .val (.int is_), .val (.int im), .val (.int i0), .val (.int i1), .val (.int u0), .val (.int u1), .val (.int li), .val (.int lu), .val (.int j_sc), .val (.int j_sl), .val (.int j_j0), .val (.int j_j1), .val (.int j_lj), .val (.int j_tc), .val (.int j_tl), .val (.int j_v0), .val (.int j_v1), .val (.int j_lv), .val (.int kd), .val (.ref b1), .val (.ref b74), .val (.int (1 : Int32))] []))
                                refine Go.by (fun t k => XS.iconst X208.here hx rfl (hb hby at_440) k) ?_
                                show Go p e below _ (T208.setTop (mkF m 441 #[.val (.int ip), .val (.int iq), .val (.int ir), .val (.int is_), .val (.int im), .val (.int i0), .val (.int i1), .val (.int u0), .val (.int u1), .val (.int li), .val (.int lu), .val (.int j_sc), .val (.int j_sl), .val (.int j_j0), .val (.int j_j1), .val (.int j_lj), .val (.int j_tc), .val (.int j_tl), .val (.int j_v0), .val (.int j_v1), .val (.int j_lv), .val (.int kd), .val (.ref b1), .val (.ref b74), .val (.int (1 : Int32))] [(.int (1 : Int32))]))
                                refine Go.by (fun t k => XS.goto X208.here hx rfl (pc0 := 441) (pc' := 445) rfl (hb hby at_441) (by decide) (by decide) k) ?_
                                show Go p e below _ (T208.setTop (mkF m 445 #[.val (.int ip), .val (.int iq), .val (.int ir), .val (.int is_), .val (.int im), .val (.int i0), .val (.int i1), .val (.int u0), .val (.int u1), .val (.int li), .val (.int lu), .val (.int j_sc), .val (.int j_sl), .val (.int j_j0), .val (.int j_j1), .val (.int j_lj), .val (.int j_tc), .val (.int j_tl), .val (.int j_v0), .val (.int j_v1), .val (.int j_lv), .val (.int kd), .val (.ref b1), .val (.ref b74), .val (.int (1 : Int32))] [(.int (1 : Int32))]))
                                have hq : Q_law Z ip iq ir is_ im cs h0 n0 (some (.int (nar .boolean (1 : Int32)))) T131.heap _ := ⟨rfl, N208, F138⟩
                                have F209 : CHr Z own_EL s.vm h0 T107.vm T131.heap := (own_chK A107 K131 (sfS (Safe.exa hZ.alike F126 (by decide) (by decide)) sf0))
                                have F210 : T107.heap.size ≤ T131.heap.size := (Nat.le_trans hk107 K131.1)
                                exact Go.retNH hS (by rw [e208]; exact F210) (own_chEnd X208 e208 hZ hEL F209 hh) X208 hx (t := .boolean) Bd.returns (by simp) hlk (hb hby at_445) (by decide) (by decide) (by rw [e208]; exact hq)
                    by_cases hc211 : j_tl = (0 : Int32)
                    · skip
                      refine Go.by (fun t k => XS.ifYes X0.here hx rfl (pc0 := 223) (pc' := 231) rfl (hb hby at_223) rfl ((if0 _ _).trans (teq hc211).1) (by decide) (by decide) k) ?_
                      show Go p e below _ (s₁.setTop (mkF m 231 #[.val (.int ip), .val (.int iq), .val (.int ir), .val (.int is_), .val (.int im), .val (.int i0), .val (.int i1), .val (.int u0), .val (.int u1), .val (.int li), .val (.int lu), .val (.int j_sc), .val (.int j_sl), .val (.int j_j0), .val (.int j_j1), .val (.int j_lj), .val (.int j_tc), .val (.int j_tl), .val (.int j_v0), .val (.int j_v1), .unset, .unset, .unset, .unset, .unset] []))
                      refine Go.by (fun t k => XS.iload X0.here hx rfl (hb hby at_231) rfl k) ?_
                      show Go p e below _ (s₁.setTop (mkF m 233 #[.val (.int ip), .val (.int iq), .val (.int ir), .val (.int is_), .val (.int im), .val (.int i0), .val (.int i1), .val (.int u0), .val (.int u1), .val (.int li), .val (.int lu), .val (.int j_sc), .val (.int j_sl), .val (.int j_j0), .val (.int j_j1), .val (.int j_lj), .val (.int j_tc), .val (.int j_tl), .val (.int j_v0), .val (.int j_v1), .unset, .unset, .unset, .unset, .unset] [(.int im)]))
                      refine Go.by (fun t k => XS.bipush X0.here hx rfl (hb hby at_233) k) ?_
                      show Go p e below _ (s₁.setTop (mkF m 235 #[.val (.int ip), .val (.int iq), .val (.int ir), .val (.int is_), .val (.int im), .val (.int i0), .val (.int i1), .val (.int u0), .val (.int u1), .val (.int li), .val (.int lu), .val (.int j_sc), .val (.int j_sl), .val (.int j_j0), .val (.int j_j1), .val (.int j_lj), .val (.int j_tc), .val (.int j_tl), .val (.int j_v0), .val (.int j_v1), .unset, .unset, .unset, .unset, .unset] [(.int (10 : Int32)), (.int im)]))
                      refine Go.by (fun t k => XS.iushr X0.here hx rfl (hb hby at_235) rfl k) ?_
                      show Go p e below _ (s₁.setTop (mkF m 236 #[.val (.int ip), .val (.int iq), .val (.int ir), .val (.int is_), .val (.int im), .val (.int i0), .val (.int i1), .val (.int u0), .val (.int u1), .val (.int li), .val (.int lu), .val (.int j_sc), .val (.int j_sl), .val (.int j_j0), .val (.int j_j1), .val (.int j_lj), .val (.int j_tc), .val (.int j_tl), .val (.int j_v0), .val (.int j_v1), .unset, .unset, .unset, .unset, .unset] [(.int ((im.toUInt32 >>> ((10 : Int32) &&& 31).toUInt32).toInt32))]))
                      refine Go.by (fun t k => XS.iconst X0.here hx rfl (hb hby at_236) k) ?_
                      show Go p e below _ (s₁.setTop (mkF m 237 #[.val (.int ip), .val (.int iq), .val (.int ir), .val (.int is_), .val (.int im), .val (.int i0), .val (.int i1), .val (.int u0), .val (.int u1), .val (.int li), .val (.int lu), .val (.int j_sc), .val (.int j_sl), .val (.int j_j0), .val (.int j_j1), .val (.int j_lj), .val (.int j_tc), .val (.int j_tl), .val (.int j_v0), .val (.int j_v1), .unset, .unset, .unset, .unset, .unset] [(.int (3 : Int32)), (.int ((im.toUInt32 >>> ((10 : Int32) &&& 31).toUInt32).toInt32))]))
                      refine Go.by (fun t k => XS.iand X0.here hx rfl (hb hby at_237) rfl k) ?_
                      show Go p e below _ (s₁.setTop (mkF m 238 #[.val (.int ip), .val (.int iq), .val (.int ir), .val (.int is_), .val (.int im), .val (.int i0), .val (.int i1), .val (.int u0), .val (.int u1), .val (.int li), .val (.int lu), .val (.int j_sc), .val (.int j_sl), .val (.int j_j0), .val (.int j_j1), .val (.int j_lj), .val (.int j_tc), .val (.int j_tl), .val (.int j_v0), .val (.int j_v1), .unset, .unset, .unset, .unset, .unset] [(.int (((im.toUInt32 >>> ((10 : Int32) &&& 31).toUInt32).toInt32) &&& (3 : Int32)))]))
                      refine Go.by (fun t k => XS.iconst X0.here hx rfl (hb hby at_238) k) ?_
                      show Go p e below _ (s₁.setTop (mkF m 239 #[.val (.int ip), .val (.int iq), .val (.int ir), .val (.int is_), .val (.int im), .val (.int i0), .val (.int i1), .val (.int u0), .val (.int u1), .val (.int li), .val (.int lu), .val (.int j_sc), .val (.int j_sl), .val (.int j_j0), .val (.int j_j1), .val (.int j_lj), .val (.int j_tc), .val (.int j_tl), .val (.int j_v0), .val (.int j_v1), .unset, .unset, .unset, .unset, .unset] [(.int (3 : Int32)), (.int (((im.toUInt32 >>> ((10 : Int32) &&& 31).toUInt32).toInt32) &&& (3 : Int32)))]))
                      refine Go.by (fun t k => iremM X0 hx rfl (hb hby at_239) rfl (by decide) k) ?_
                      show Go p e below _ (s₁.setTop (mkF m 240 #[.val (.int ip), .val (.int iq), .val (.int ir), .val (.int is_), .val (.int im), .val (.int i0), .val (.int i1), .val (.int u0), .val (.int u1), .val (.int li), .val (.int lu), .val (.int j_sc), .val (.int j_sl), .val (.int j_j0), .val (.int j_j1), .val (.int j_lj), .val (.int j_tc), .val (.int j_tl), .val (.int j_v0), .val (.int j_v1), .unset, .unset, .unset, .unset, .unset] [(.int ((((im.toUInt32 >>> ((10 : Int32) &&& 31).toUInt32).toInt32) &&& (3 : Int32)) % (3 : Int32)))]))
                      exact J240 _ (own_md3 _)
                    · skip
                      refine Go.by (fun t k => XS.ifNo X0.here hx rfl (hb hby at_223) rfl ((if0 _ _).trans (feq hc211).1) k) ?_
                      show Go p e below _ (s₁.setTop (mkF m 226 #[.val (.int ip), .val (.int iq), .val (.int ir), .val (.int is_), .val (.int im), .val (.int i0), .val (.int i1), .val (.int u0), .val (.int u1), .val (.int li), .val (.int lu), .val (.int j_sc), .val (.int j_sl), .val (.int j_j0), .val (.int j_j1), .val (.int j_lj), .val (.int j_tc), .val (.int j_tl), .val (.int j_v0), .val (.int j_v1), .unset, .unset, .unset, .unset, .unset] []))
                      refine Go.by (fun t k => XS.iload X0.here hx rfl (hb hby at_226) rfl k) ?_
                      show Go p e below _ (s₁.setTop (mkF m 228 #[.val (.int ip), .val (.int iq), .val (.int ir), .val (.int is_), .val (.int im), .val (.int i0), .val (.int i1), .val (.int u0), .val (.int u1), .val (.int li), .val (.int lu), .val (.int j_sc), .val (.int j_sl), .val (.int j_j0), .val (.int j_j1), .val (.int j_lj), .val (.int j_tc), .val (.int j_tl), .val (.int j_v0), .val (.int j_v1), .unset, .unset, .unset, .unset, .unset] [(.int lu)]))
                      refine Go.by (fun t k => XS.goto X0.here hx rfl (pc0 := 228) (pc' := 240) rfl (hb hby at_228) (by decide) (by decide) k) ?_
                      show Go p e below _ (s₁.setTop (mkF m 240 #[.val (.int ip), .val (.int iq), .val (.int ir), .val (.int is_), .val (.int im), .val (.int i0), .val (.int i1), .val (.int u0), .val (.int u1), .val (.int li), .val (.int lu), .val (.int j_sc), .val (.int j_sl), .val (.int j_j0), .val (.int j_j1), .val (.int j_lj), .val (.int j_tc), .val (.int j_tl), .val (.int j_v0), .val (.int j_v1), .unset, .unset, .unset, .unset, .unset] [(.int lu)]))
                      exact J240 _ hlu
                  by_cases hc212 : j_tc = (0 : Int32)
                  · skip
                    refine Go.by (fun t k => XS.ifYes X0.here hx rfl (pc0 := 202) (pc' := 210) rfl (hb hby at_202) rfl ((if0 _ _).trans (teq hc212).1) (by decide) (by decide) k) ?_
                    show Go p e below _ (s₁.setTop (mkF m 210 #[.val (.int ip), .val (.int iq), .val (.int ir), .val (.int is_), .val (.int im), .val (.int i0), .val (.int i1), .val (.int u0), .val (.int u1), .val (.int li), .val (.int lu), .val (.int j_sc), .val (.int j_sl), .val (.int j_j0), .val (.int j_j1), .val (.int j_lj), .val (.int j_tc), .val (.int j_tl), .val (.int j_v0), .unset, .unset, .unset, .unset, .unset, .unset] []))
                    refine Go.by (fun t k => XS.iloadN X0.here hx rfl (hb hby at_210) rfl k) ?_
                    show Go p e below _ (s₁.setTop (mkF m 211 #[.val (.int ip), .val (.int iq), .val (.int ir), .val (.int is_), .val (.int im), .val (.int i0), .val (.int i1), .val (.int u0), .val (.int u1), .val (.int li), .val (.int lu), .val (.int j_sc), .val (.int j_sl), .val (.int j_j0), .val (.int j_j1), .val (.int j_lj), .val (.int j_tc), .val (.int j_tl), .val (.int j_v0), .unset, .unset, .unset, .unset, .unset, .unset] [(.int is_)]))
                    refine Go.by (fun t k => XS.bipush X0.here hx rfl (hb hby at_211) k) ?_
                    show Go p e below _ (s₁.setTop (mkF m 213 #[.val (.int ip), .val (.int iq), .val (.int ir), .val (.int is_), .val (.int im), .val (.int i0), .val (.int i1), .val (.int u0), .val (.int u1), .val (.int li), .val (.int lu), .val (.int j_sc), .val (.int j_sl), .val (.int j_j0), .val (.int j_j1), .val (.int j_lj), .val (.int j_tc), .val (.int j_tl), .val (.int j_v0), .unset, .unset, .unset, .unset, .unset, .unset] [(.int (8 : Int32)), (.int is_)]))
                    refine Go.by (fun t k => XS.iushr X0.here hx rfl (hb hby at_213) rfl k) ?_
                    show Go p e below _ (s₁.setTop (mkF m 214 #[.val (.int ip), .val (.int iq), .val (.int ir), .val (.int is_), .val (.int im), .val (.int i0), .val (.int i1), .val (.int u0), .val (.int u1), .val (.int li), .val (.int lu), .val (.int j_sc), .val (.int j_sl), .val (.int j_j0), .val (.int j_j1), .val (.int j_lj), .val (.int j_tc), .val (.int j_tl), .val (.int j_v0), .unset, .unset, .unset, .unset, .unset, .unset] [(.int ((is_.toUInt32 >>> ((8 : Int32) &&& 31).toUInt32).toInt32))]))
                    refine Go.by (fun t k => XS.sipush X0.here hx rfl (hb hby at_214) k) ?_
                    show Go p e below _ (s₁.setTop (mkF m 217 #[.val (.int ip), .val (.int iq), .val (.int ir), .val (.int is_), .val (.int im), .val (.int i0), .val (.int i1), .val (.int u0), .val (.int u1), .val (.int li), .val (.int lu), .val (.int j_sc), .val (.int j_sl), .val (.int j_j0), .val (.int j_j1), .val (.int j_lj), .val (.int j_tc), .val (.int j_tl), .val (.int j_v0), .unset, .unset, .unset, .unset, .unset, .unset] [(.int (255 : Int32)), (.int ((is_.toUInt32 >>> ((8 : Int32) &&& 31).toUInt32).toInt32))]))
                    refine Go.by (fun t k => XS.iand X0.here hx rfl (hb hby at_217) rfl k) ?_
                    show Go p e below _ (s₁.setTop (mkF m 218 #[.val (.int ip), .val (.int iq), .val (.int ir), .val (.int is_), .val (.int im), .val (.int i0), .val (.int i1), .val (.int u0), .val (.int u1), .val (.int li), .val (.int lu), .val (.int j_sc), .val (.int j_sl), .val (.int j_j0), .val (.int j_j1), .val (.int j_lj), .val (.int j_tc), .val (.int j_tl), .val (.int j_v0), .unset, .unset, .unset, .unset, .unset, .unset] [(.int (((is_.toUInt32 >>> ((8 : Int32) &&& 31).toUInt32).toInt32) &&& (255 : Int32)))]))
                    refine Go.by (fun t k => XS.i2c X0.here hx rfl (hb hby at_218) rfl k) ?_
                    show Go p e below _ (s₁.setTop (mkF m 219 #[.val (.int ip), .val (.int iq), .val (.int ir), .val (.int is_), .val (.int im), .val (.int i0), .val (.int i1), .val (.int u0), .val (.int u1), .val (.int li), .val (.int lu), .val (.int j_sc), .val (.int j_sl), .val (.int j_j0), .val (.int j_j1), .val (.int j_lj), .val (.int j_tc), .val (.int j_tl), .val (.int j_v0), .unset, .unset, .unset, .unset, .unset, .unset] [(.int ((((is_.toUInt32 >>> ((8 : Int32) &&& 31).toUInt32).toInt32) &&& (255 : Int32)).toUInt32.toUInt16.toUInt32.toInt32))]))
                    exact J219 _ (own_chA _)
                  · skip
                    refine Go.by (fun t k => XS.ifNo X0.here hx rfl (hb hby at_202) rfl ((if0 _ _).trans (feq hc212).1) k) ?_
                    show Go p e below _ (s₁.setTop (mkF m 205 #[.val (.int ip), .val (.int iq), .val (.int ir), .val (.int is_), .val (.int im), .val (.int i0), .val (.int i1), .val (.int u0), .val (.int u1), .val (.int li), .val (.int lu), .val (.int j_sc), .val (.int j_sl), .val (.int j_j0), .val (.int j_j1), .val (.int j_lj), .val (.int j_tc), .val (.int j_tl), .val (.int j_v0), .unset, .unset, .unset, .unset, .unset, .unset] []))
                    refine Go.by (fun t k => XS.iload X0.here hx rfl (hb hby at_205) rfl k) ?_
                    show Go p e below _ (s₁.setTop (mkF m 207 #[.val (.int ip), .val (.int iq), .val (.int ir), .val (.int is_), .val (.int im), .val (.int i0), .val (.int i1), .val (.int u0), .val (.int u1), .val (.int li), .val (.int lu), .val (.int j_sc), .val (.int j_sl), .val (.int j_j0), .val (.int j_j1), .val (.int j_lj), .val (.int j_tc), .val (.int j_tl), .val (.int j_v0), .unset, .unset, .unset, .unset, .unset, .unset] [(.int u1)]))
                    refine Go.by (fun t k => XS.goto X0.here hx rfl (pc0 := 207) (pc' := 219) rfl (hb hby at_207) (by decide) (by decide) k) ?_
                    show Go p e below _ (s₁.setTop (mkF m 219 #[.val (.int ip), .val (.int iq), .val (.int ir), .val (.int is_), .val (.int im), .val (.int i0), .val (.int i1), .val (.int u0), .val (.int u1), .val (.int li), .val (.int lu), .val (.int j_sc), .val (.int j_sl), .val (.int j_j0), .val (.int j_j1), .val (.int j_lj), .val (.int j_tc), .val (.int j_tl), .val (.int j_v0), .unset, .unset, .unset, .unset, .unset, .unset] [(.int u1)]))
                    exact J219 _ hu1
                by_cases hc213 : j_tc = (0 : Int32)
                · skip
                  refine Go.by (fun t k => XS.ifYes X0.here hx rfl (pc0 := 184) (pc' := 192) rfl (hb hby at_184) rfl ((if0 _ _).trans (teq hc213).1) (by decide) (by decide) k) ?_
                  show Go p e below _ (s₁.setTop (mkF m 192 #[.val (.int ip), .val (.int iq), .val (.int ir), .val (.int is_), .val (.int im), .val (.int i0), .val (.int i1), .val (.int u0), .val (.int u1), .val (.int li), .val (.int lu), .val (.int j_sc), .val (.int j_sl), .val (.int j_j0), .val (.int j_j1), .val (.int j_lj), .val (.int j_tc), .val (.int j_tl), .unset, .unset, .unset, .unset, .unset, .unset, .unset] []))
                  refine Go.by (fun t k => XS.iloadN X0.here hx rfl (hb hby at_192) rfl k) ?_
                  show Go p e below _ (s₁.setTop (mkF m 193 #[.val (.int ip), .val (.int iq), .val (.int ir), .val (.int is_), .val (.int im), .val (.int i0), .val (.int i1), .val (.int u0), .val (.int u1), .val (.int li), .val (.int lu), .val (.int j_sc), .val (.int j_sl), .val (.int j_j0), .val (.int j_j1), .val (.int j_lj), .val (.int j_tc), .val (.int j_tl), .unset, .unset, .unset, .unset, .unset, .unset, .unset] [(.int is_)]))
                  refine Go.by (fun t k => XS.sipush X0.here hx rfl (hb hby at_193) k) ?_
                  show Go p e below _ (s₁.setTop (mkF m 196 #[.val (.int ip), .val (.int iq), .val (.int ir), .val (.int is_), .val (.int im), .val (.int i0), .val (.int i1), .val (.int u0), .val (.int u1), .val (.int li), .val (.int lu), .val (.int j_sc), .val (.int j_sl), .val (.int j_j0), .val (.int j_j1), .val (.int j_lj), .val (.int j_tc), .val (.int j_tl), .unset, .unset, .unset, .unset, .unset, .unset, .unset] [(.int (255 : Int32)), (.int is_)]))
                  refine Go.by (fun t k => XS.iand X0.here hx rfl (hb hby at_196) rfl k) ?_
                  show Go p e below _ (s₁.setTop (mkF m 197 #[.val (.int ip), .val (.int iq), .val (.int ir), .val (.int is_), .val (.int im), .val (.int i0), .val (.int i1), .val (.int u0), .val (.int u1), .val (.int li), .val (.int lu), .val (.int j_sc), .val (.int j_sl), .val (.int j_j0), .val (.int j_j1), .val (.int j_lj), .val (.int j_tc), .val (.int j_tl), .unset, .unset, .unset, .unset, .unset, .unset, .unset] [(.int (is_ &&& (255 : Int32)))]))
                  refine Go.by (fun t k => XS.i2c X0.here hx rfl (hb hby at_197) rfl k) ?_
                  show Go p e below _ (s₁.setTop (mkF m 198 #[.val (.int ip), .val (.int iq), .val (.int ir), .val (.int is_), .val (.int im), .val (.int i0), .val (.int i1), .val (.int u0), .val (.int u1), .val (.int li), .val (.int lu), .val (.int j_sc), .val (.int j_sl), .val (.int j_j0), .val (.int j_j1), .val (.int j_lj), .val (.int j_tc), .val (.int j_tl), .unset, .unset, .unset, .unset, .unset, .unset, .unset] [(.int ((is_ &&& (255 : Int32)).toUInt32.toUInt16.toUInt32.toInt32))]))
                  exact J198 _ (own_chA _)
                · skip
                  refine Go.by (fun t k => XS.ifNo X0.here hx rfl (hb hby at_184) rfl ((if0 _ _).trans (feq hc213).1) k) ?_
                  show Go p e below _ (s₁.setTop (mkF m 187 #[.val (.int ip), .val (.int iq), .val (.int ir), .val (.int is_), .val (.int im), .val (.int i0), .val (.int i1), .val (.int u0), .val (.int u1), .val (.int li), .val (.int lu), .val (.int j_sc), .val (.int j_sl), .val (.int j_j0), .val (.int j_j1), .val (.int j_lj), .val (.int j_tc), .val (.int j_tl), .unset, .unset, .unset, .unset, .unset, .unset, .unset] []))
                  refine Go.by (fun t k => XS.iload X0.here hx rfl (hb hby at_187) rfl k) ?_
                  show Go p e below _ (s₁.setTop (mkF m 189 #[.val (.int ip), .val (.int iq), .val (.int ir), .val (.int is_), .val (.int im), .val (.int i0), .val (.int i1), .val (.int u0), .val (.int u1), .val (.int li), .val (.int lu), .val (.int j_sc), .val (.int j_sl), .val (.int j_j0), .val (.int j_j1), .val (.int j_lj), .val (.int j_tc), .val (.int j_tl), .unset, .unset, .unset, .unset, .unset, .unset, .unset] [(.int u0)]))
                  refine Go.by (fun t k => XS.goto X0.here hx rfl (pc0 := 189) (pc' := 198) rfl (hb hby at_189) (by decide) (by decide) k) ?_
                  show Go p e below _ (s₁.setTop (mkF m 198 #[.val (.int ip), .val (.int iq), .val (.int ir), .val (.int is_), .val (.int im), .val (.int i0), .val (.int i1), .val (.int u0), .val (.int u1), .val (.int li), .val (.int lu), .val (.int j_sc), .val (.int j_sl), .val (.int j_j0), .val (.int j_j1), .val (.int j_lj), .val (.int j_tc), .val (.int j_tl), .unset, .unset, .unset, .unset, .unset, .unset, .unset] [(.int u0)]))
                  exact J198 _ hu0
              by_cases hc214 : (((im.toUInt32 >>> ((9 : Int32) &&& 31).toUInt32).toInt32) &&& (1 : Int32)) = (0 : Int32)
              · skip
                refine Go.by (fun t k => XS.ifYes X0.here hx rfl (pc0 := 172) (pc' := 179) rfl (hb hby at_172) rfl ((if0 _ _).trans (teq hc214).1) (by decide) (by decide) k) ?_
                show Go p e below _ (s₁.setTop (mkF m 179 #[.val (.int ip), .val (.int iq), .val (.int ir), .val (.int is_), .val (.int im), .val (.int i0), .val (.int i1), .val (.int u0), .val (.int u1), .val (.int li), .val (.int lu), .val (.int j_sc), .val (.int j_sl), .val (.int j_j0), .val (.int j_j1), .val (.int j_lj), .val (.int j_tc), .unset, .unset, .unset, .unset, .unset, .unset, .unset, .unset] []))
                refine Go.by (fun t k => XS.iconst X0.here hx rfl (hb hby at_179) k) ?_
                show Go p e below _ (s₁.setTop (mkF m 180 #[.val (.int ip), .val (.int iq), .val (.int ir), .val (.int is_), .val (.int im), .val (.int i0), .val (.int i1), .val (.int u0), .val (.int u1), .val (.int li), .val (.int lu), .val (.int j_sc), .val (.int j_sl), .val (.int j_j0), .val (.int j_j1), .val (.int j_lj), .val (.int j_tc), .unset, .unset, .unset, .unset, .unset, .unset, .unset, .unset] [(.int (0 : Int32))]))
                exact J180 _ 
              · skip
                refine Go.by (fun t k => XS.ifNo X0.here hx rfl (hb hby at_172) rfl ((if0 _ _).trans (feq hc214).1) k) ?_
                show Go p e below _ (s₁.setTop (mkF m 175 #[.val (.int ip), .val (.int iq), .val (.int ir), .val (.int is_), .val (.int im), .val (.int i0), .val (.int i1), .val (.int u0), .val (.int u1), .val (.int li), .val (.int lu), .val (.int j_sc), .val (.int j_sl), .val (.int j_j0), .val (.int j_j1), .val (.int j_lj), .val (.int j_tc), .unset, .unset, .unset, .unset, .unset, .unset, .unset, .unset] []))
                refine Go.by (fun t k => XS.iconst X0.here hx rfl (hb hby at_175) k) ?_
                show Go p e below _ (s₁.setTop (mkF m 176 #[.val (.int ip), .val (.int iq), .val (.int ir), .val (.int is_), .val (.int im), .val (.int i0), .val (.int i1), .val (.int u0), .val (.int u1), .val (.int li), .val (.int lu), .val (.int j_sc), .val (.int j_sl), .val (.int j_j0), .val (.int j_j1), .val (.int j_lj), .val (.int j_tc), .unset, .unset, .unset, .unset, .unset, .unset, .unset, .unset] [(.int (1 : Int32))]))
                refine Go.by (fun t k => XS.goto X0.here hx rfl (pc0 := 176) (pc' := 180) rfl (hb hby at_176) (by decide) (by decide) k) ?_
                show Go p e below _ (s₁.setTop (mkF m 180 #[.val (.int ip), .val (.int iq), .val (.int ir), .val (.int is_), .val (.int im), .val (.int i0), .val (.int i1), .val (.int u0), .val (.int u1), .val (.int li), .val (.int lu), .val (.int j_sc), .val (.int j_sl), .val (.int j_j0), .val (.int j_j1), .val (.int j_lj), .val (.int j_tc), .unset, .unset, .unset, .unset, .unset, .unset, .unset, .unset] [(.int (1 : Int32))]))
                exact J180 _ 
            by_cases hc215 : (((im.toUInt32 >>> ((8 : Int32) &&& 31).toUInt32).toInt32) &&& (1 : Int32)) = (0 : Int32)
            · skip
              refine Go.by (fun t k => XS.ifYes X0.here hx rfl (pc0 := 155) (pc' := 162) rfl (hb hby at_155) rfl ((if0 _ _).trans (teq hc215).1) (by decide) (by decide) k) ?_
              show Go p e below _ (s₁.setTop (mkF m 162 #[.val (.int ip), .val (.int iq), .val (.int ir), .val (.int is_), .val (.int im), .val (.int i0), .val (.int i1), .val (.int u0), .val (.int u1), .val (.int li), .val (.int lu), .val (.int j_sc), .val (.int j_sl), .val (.int j_j0), .val (.int j_j1), .val (.int j_lj), .unset, .unset, .unset, .unset, .unset, .unset, .unset, .unset, .unset] []))
              refine Go.by (fun t k => XS.iconst X0.here hx rfl (hb hby at_162) k) ?_
              show Go p e below _ (s₁.setTop (mkF m 163 #[.val (.int ip), .val (.int iq), .val (.int ir), .val (.int is_), .val (.int im), .val (.int i0), .val (.int i1), .val (.int u0), .val (.int u1), .val (.int li), .val (.int lu), .val (.int j_sc), .val (.int j_sl), .val (.int j_j0), .val (.int j_j1), .val (.int j_lj), .unset, .unset, .unset, .unset, .unset, .unset, .unset, .unset, .unset] [(.int (0 : Int32))]))
              exact J163 _ 
            · skip
              refine Go.by (fun t k => XS.ifNo X0.here hx rfl (hb hby at_155) rfl ((if0 _ _).trans (feq hc215).1) k) ?_
              show Go p e below _ (s₁.setTop (mkF m 158 #[.val (.int ip), .val (.int iq), .val (.int ir), .val (.int is_), .val (.int im), .val (.int i0), .val (.int i1), .val (.int u0), .val (.int u1), .val (.int li), .val (.int lu), .val (.int j_sc), .val (.int j_sl), .val (.int j_j0), .val (.int j_j1), .val (.int j_lj), .unset, .unset, .unset, .unset, .unset, .unset, .unset, .unset, .unset] []))
              refine Go.by (fun t k => XS.iconst X0.here hx rfl (hb hby at_158) k) ?_
              show Go p e below _ (s₁.setTop (mkF m 159 #[.val (.int ip), .val (.int iq), .val (.int ir), .val (.int is_), .val (.int im), .val (.int i0), .val (.int i1), .val (.int u0), .val (.int u1), .val (.int li), .val (.int lu), .val (.int j_sc), .val (.int j_sl), .val (.int j_j0), .val (.int j_j1), .val (.int j_lj), .unset, .unset, .unset, .unset, .unset, .unset, .unset, .unset, .unset] [(.int (1 : Int32))]))
              refine Go.by (fun t k => XS.goto X0.here hx rfl (pc0 := 159) (pc' := 163) rfl (hb hby at_159) (by decide) (by decide) k) ?_
              show Go p e below _ (s₁.setTop (mkF m 163 #[.val (.int ip), .val (.int iq), .val (.int ir), .val (.int is_), .val (.int im), .val (.int i0), .val (.int i1), .val (.int u0), .val (.int u1), .val (.int li), .val (.int lu), .val (.int j_sc), .val (.int j_sl), .val (.int j_j0), .val (.int j_j1), .val (.int j_lj), .unset, .unset, .unset, .unset, .unset, .unset, .unset, .unset, .unset] [(.int (1 : Int32))]))
              exact J163 _ 
          by_cases hc216 : j_sl = (0 : Int32)
          · skip
            refine Go.by (fun t k => XS.ifYes X0.here hx rfl (pc0 := 129) (pc' := 137) rfl (hb hby at_129) rfl ((if0 _ _).trans (teq hc216).1) (by decide) (by decide) k) ?_
            show Go p e below _ (s₁.setTop (mkF m 137 #[.val (.int ip), .val (.int iq), .val (.int ir), .val (.int is_), .val (.int im), .val (.int i0), .val (.int i1), .val (.int u0), .val (.int u1), .val (.int li), .val (.int lu), .val (.int j_sc), .val (.int j_sl), .val (.int j_j0), .val (.int j_j1), .unset, .unset, .unset, .unset, .unset, .unset, .unset, .unset, .unset, .unset] []))
            refine Go.by (fun t k => XS.iload X0.here hx rfl (hb hby at_137) rfl k) ?_
            show Go p e below _ (s₁.setTop (mkF m 139 #[.val (.int ip), .val (.int iq), .val (.int ir), .val (.int is_), .val (.int im), .val (.int i0), .val (.int i1), .val (.int u0), .val (.int u1), .val (.int li), .val (.int lu), .val (.int j_sc), .val (.int j_sl), .val (.int j_j0), .val (.int j_j1), .unset, .unset, .unset, .unset, .unset, .unset, .unset, .unset, .unset, .unset] [(.int im)]))
            refine Go.by (fun t k => XS.bipush X0.here hx rfl (hb hby at_139) k) ?_
            show Go p e below _ (s₁.setTop (mkF m 141 #[.val (.int ip), .val (.int iq), .val (.int ir), .val (.int is_), .val (.int im), .val (.int i0), .val (.int i1), .val (.int u0), .val (.int u1), .val (.int li), .val (.int lu), .val (.int j_sc), .val (.int j_sl), .val (.int j_j0), .val (.int j_j1), .unset, .unset, .unset, .unset, .unset, .unset, .unset, .unset, .unset, .unset] [(.int (6 : Int32)), (.int im)]))
            refine Go.by (fun t k => XS.iushr X0.here hx rfl (hb hby at_141) rfl k) ?_
            show Go p e below _ (s₁.setTop (mkF m 142 #[.val (.int ip), .val (.int iq), .val (.int ir), .val (.int is_), .val (.int im), .val (.int i0), .val (.int i1), .val (.int u0), .val (.int u1), .val (.int li), .val (.int lu), .val (.int j_sc), .val (.int j_sl), .val (.int j_j0), .val (.int j_j1), .unset, .unset, .unset, .unset, .unset, .unset, .unset, .unset, .unset, .unset] [(.int ((im.toUInt32 >>> ((6 : Int32) &&& 31).toUInt32).toInt32))]))
            refine Go.by (fun t k => XS.iconst X0.here hx rfl (hb hby at_142) k) ?_
            show Go p e below _ (s₁.setTop (mkF m 143 #[.val (.int ip), .val (.int iq), .val (.int ir), .val (.int is_), .val (.int im), .val (.int i0), .val (.int i1), .val (.int u0), .val (.int u1), .val (.int li), .val (.int lu), .val (.int j_sc), .val (.int j_sl), .val (.int j_j0), .val (.int j_j1), .unset, .unset, .unset, .unset, .unset, .unset, .unset, .unset, .unset, .unset] [(.int (3 : Int32)), (.int ((im.toUInt32 >>> ((6 : Int32) &&& 31).toUInt32).toInt32))]))
            refine Go.by (fun t k => XS.iand X0.here hx rfl (hb hby at_143) rfl k) ?_
            show Go p e below _ (s₁.setTop (mkF m 144 #[.val (.int ip), .val (.int iq), .val (.int ir), .val (.int is_), .val (.int im), .val (.int i0), .val (.int i1), .val (.int u0), .val (.int u1), .val (.int li), .val (.int lu), .val (.int j_sc), .val (.int j_sl), .val (.int j_j0), .val (.int j_j1), .unset, .unset, .unset, .unset, .unset, .unset, .unset, .unset, .unset, .unset] [(.int (((im.toUInt32 >>> ((6 : Int32) &&& 31).toUInt32).toInt32) &&& (3 : Int32)))]))
            refine Go.by (fun t k => XS.iconst X0.here hx rfl (hb hby at_144) k) ?_
            show Go p e below _ (s₁.setTop (mkF m 145 #[.val (.int ip), .val (.int iq), .val (.int ir), .val (.int is_), .val (.int im), .val (.int i0), .val (.int i1), .val (.int u0), .val (.int u1), .val (.int li), .val (.int lu), .val (.int j_sc), .val (.int j_sl), .val (.int j_j0), .val (.int j_j1), .unset, .unset, .unset, .unset, .unset, .unset, .unset, .unset, .unset, .unset] [(.int (3 : Int32)), (.int (((im.toUInt32 >>> ((6 : Int32) &&& 31).toUInt32).toInt32) &&& (3 : Int32)))]))
            refine Go.by (fun t k => iremM X0 hx rfl (hb hby at_145) rfl (by decide) k) ?_
            show Go p e below _ (s₁.setTop (mkF m 146 #[.val (.int ip), .val (.int iq), .val (.int ir), .val (.int is_), .val (.int im), .val (.int i0), .val (.int i1), .val (.int u0), .val (.int u1), .val (.int li), .val (.int lu), .val (.int j_sc), .val (.int j_sl), .val (.int j_j0), .val (.int j_j1), .unset, .unset, .unset, .unset, .unset, .unset, .unset, .unset, .unset, .unset] [(.int ((((im.toUInt32 >>> ((6 : Int32) &&& 31).toUInt32).toInt32) &&& (3 : Int32)) % (3 : Int32)))]))
            exact J146 _ (own_md3 _)
          · skip
            refine Go.by (fun t k => XS.ifNo X0.here hx rfl (hb hby at_129) rfl ((if0 _ _).trans (feq hc216).1) k) ?_
            show Go p e below _ (s₁.setTop (mkF m 132 #[.val (.int ip), .val (.int iq), .val (.int ir), .val (.int is_), .val (.int im), .val (.int i0), .val (.int i1), .val (.int u0), .val (.int u1), .val (.int li), .val (.int lu), .val (.int j_sc), .val (.int j_sl), .val (.int j_j0), .val (.int j_j1), .unset, .unset, .unset, .unset, .unset, .unset, .unset, .unset, .unset, .unset] []))
            refine Go.by (fun t k => XS.iload X0.here hx rfl (hb hby at_132) rfl k) ?_
            show Go p e below _ (s₁.setTop (mkF m 134 #[.val (.int ip), .val (.int iq), .val (.int ir), .val (.int is_), .val (.int im), .val (.int i0), .val (.int i1), .val (.int u0), .val (.int u1), .val (.int li), .val (.int lu), .val (.int j_sc), .val (.int j_sl), .val (.int j_j0), .val (.int j_j1), .unset, .unset, .unset, .unset, .unset, .unset, .unset, .unset, .unset, .unset] [(.int li)]))
            refine Go.by (fun t k => XS.goto X0.here hx rfl (pc0 := 134) (pc' := 146) rfl (hb hby at_134) (by decide) (by decide) k) ?_
            show Go p e below _ (s₁.setTop (mkF m 146 #[.val (.int ip), .val (.int iq), .val (.int ir), .val (.int is_), .val (.int im), .val (.int i0), .val (.int i1), .val (.int u0), .val (.int u1), .val (.int li), .val (.int lu), .val (.int j_sc), .val (.int j_sl), .val (.int j_j0), .val (.int j_j1), .unset, .unset, .unset, .unset, .unset, .unset, .unset, .unset, .unset, .unset] [(.int li)]))
            exact J146 _ hli
        by_cases hc217 : j_sc = (0 : Int32)
        · skip
          refine Go.by (fun t k => XS.ifYes X0.here hx rfl (pc0 := 108) (pc' := 116) rfl (hb hby at_108) rfl ((if0 _ _).trans (teq hc217).1) (by decide) (by decide) k) ?_
          show Go p e below _ (s₁.setTop (mkF m 116 #[.val (.int ip), .val (.int iq), .val (.int ir), .val (.int is_), .val (.int im), .val (.int i0), .val (.int i1), .val (.int u0), .val (.int u1), .val (.int li), .val (.int lu), .val (.int j_sc), .val (.int j_sl), .val (.int j_j0), .unset, .unset, .unset, .unset, .unset, .unset, .unset, .unset, .unset, .unset, .unset] []))
          refine Go.by (fun t k => XS.iloadN X0.here hx rfl (hb hby at_116) rfl k) ?_
          show Go p e below _ (s₁.setTop (mkF m 117 #[.val (.int ip), .val (.int iq), .val (.int ir), .val (.int is_), .val (.int im), .val (.int i0), .val (.int i1), .val (.int u0), .val (.int u1), .val (.int li), .val (.int lu), .val (.int j_sc), .val (.int j_sl), .val (.int j_j0), .unset, .unset, .unset, .unset, .unset, .unset, .unset, .unset, .unset, .unset, .unset] [(.int ir)]))
          refine Go.by (fun t k => XS.bipush X0.here hx rfl (hb hby at_117) k) ?_
          show Go p e below _ (s₁.setTop (mkF m 119 #[.val (.int ip), .val (.int iq), .val (.int ir), .val (.int is_), .val (.int im), .val (.int i0), .val (.int i1), .val (.int u0), .val (.int u1), .val (.int li), .val (.int lu), .val (.int j_sc), .val (.int j_sl), .val (.int j_j0), .unset, .unset, .unset, .unset, .unset, .unset, .unset, .unset, .unset, .unset, .unset] [(.int (8 : Int32)), (.int ir)]))
          refine Go.by (fun t k => XS.iushr X0.here hx rfl (hb hby at_119) rfl k) ?_
          show Go p e below _ (s₁.setTop (mkF m 120 #[.val (.int ip), .val (.int iq), .val (.int ir), .val (.int is_), .val (.int im), .val (.int i0), .val (.int i1), .val (.int u0), .val (.int u1), .val (.int li), .val (.int lu), .val (.int j_sc), .val (.int j_sl), .val (.int j_j0), .unset, .unset, .unset, .unset, .unset, .unset, .unset, .unset, .unset, .unset, .unset] [(.int ((ir.toUInt32 >>> ((8 : Int32) &&& 31).toUInt32).toInt32))]))
          refine Go.by (fun t k => XS.sipush X0.here hx rfl (hb hby at_120) k) ?_
          show Go p e below _ (s₁.setTop (mkF m 123 #[.val (.int ip), .val (.int iq), .val (.int ir), .val (.int is_), .val (.int im), .val (.int i0), .val (.int i1), .val (.int u0), .val (.int u1), .val (.int li), .val (.int lu), .val (.int j_sc), .val (.int j_sl), .val (.int j_j0), .unset, .unset, .unset, .unset, .unset, .unset, .unset, .unset, .unset, .unset, .unset] [(.int (255 : Int32)), (.int ((ir.toUInt32 >>> ((8 : Int32) &&& 31).toUInt32).toInt32))]))
          refine Go.by (fun t k => XS.iand X0.here hx rfl (hb hby at_123) rfl k) ?_
          show Go p e below _ (s₁.setTop (mkF m 124 #[.val (.int ip), .val (.int iq), .val (.int ir), .val (.int is_), .val (.int im), .val (.int i0), .val (.int i1), .val (.int u0), .val (.int u1), .val (.int li), .val (.int lu), .val (.int j_sc), .val (.int j_sl), .val (.int j_j0), .unset, .unset, .unset, .unset, .unset, .unset, .unset, .unset, .unset, .unset, .unset] [(.int (((ir.toUInt32 >>> ((8 : Int32) &&& 31).toUInt32).toInt32) &&& (255 : Int32)))]))
          refine Go.by (fun t k => XS.i2c X0.here hx rfl (hb hby at_124) rfl k) ?_
          show Go p e below _ (s₁.setTop (mkF m 125 #[.val (.int ip), .val (.int iq), .val (.int ir), .val (.int is_), .val (.int im), .val (.int i0), .val (.int i1), .val (.int u0), .val (.int u1), .val (.int li), .val (.int lu), .val (.int j_sc), .val (.int j_sl), .val (.int j_j0), .unset, .unset, .unset, .unset, .unset, .unset, .unset, .unset, .unset, .unset, .unset] [(.int ((((ir.toUInt32 >>> ((8 : Int32) &&& 31).toUInt32).toInt32) &&& (255 : Int32)).toUInt32.toUInt16.toUInt32.toInt32))]))
          exact J125 _ (own_chA _)
        · skip
          refine Go.by (fun t k => XS.ifNo X0.here hx rfl (hb hby at_108) rfl ((if0 _ _).trans (feq hc217).1) k) ?_
          show Go p e below _ (s₁.setTop (mkF m 111 #[.val (.int ip), .val (.int iq), .val (.int ir), .val (.int is_), .val (.int im), .val (.int i0), .val (.int i1), .val (.int u0), .val (.int u1), .val (.int li), .val (.int lu), .val (.int j_sc), .val (.int j_sl), .val (.int j_j0), .unset, .unset, .unset, .unset, .unset, .unset, .unset, .unset, .unset, .unset, .unset] []))
          refine Go.by (fun t k => XS.iload X0.here hx rfl (hb hby at_111) rfl k) ?_
          show Go p e below _ (s₁.setTop (mkF m 113 #[.val (.int ip), .val (.int iq), .val (.int ir), .val (.int is_), .val (.int im), .val (.int i0), .val (.int i1), .val (.int u0), .val (.int u1), .val (.int li), .val (.int lu), .val (.int j_sc), .val (.int j_sl), .val (.int j_j0), .unset, .unset, .unset, .unset, .unset, .unset, .unset, .unset, .unset, .unset, .unset] [(.int i1)]))
          refine Go.by (fun t k => XS.goto X0.here hx rfl (pc0 := 113) (pc' := 125) rfl (hb hby at_113) (by decide) (by decide) k) ?_
          show Go p e below _ (s₁.setTop (mkF m 125 #[.val (.int ip), .val (.int iq), .val (.int ir), .val (.int is_), .val (.int im), .val (.int i0), .val (.int i1), .val (.int u0), .val (.int u1), .val (.int li), .val (.int lu), .val (.int j_sc), .val (.int j_sl), .val (.int j_j0), .unset, .unset, .unset, .unset, .unset, .unset, .unset, .unset, .unset, .unset, .unset] [(.int i1)]))
          exact J125 _ hi1
      by_cases hc218 : j_sc = (0 : Int32)
      · skip
        refine Go.by (fun t k => XS.ifYes X0.here hx rfl (pc0 := 90) (pc' := 98) rfl (hb hby at_90) rfl ((if0 _ _).trans (teq hc218).1) (by decide) (by decide) k) ?_
        show Go p e below _ (s₁.setTop (mkF m 98 #[.val (.int ip), .val (.int iq), .val (.int ir), .val (.int is_), .val (.int im), .val (.int i0), .val (.int i1), .val (.int u0), .val (.int u1), .val (.int li), .val (.int lu), .val (.int j_sc), .val (.int j_sl), .unset, .unset, .unset, .unset, .unset, .unset, .unset, .unset, .unset, .unset, .unset, .unset] []))
        refine Go.by (fun t k => XS.iloadN X0.here hx rfl (hb hby at_98) rfl k) ?_
        show Go p e below _ (s₁.setTop (mkF m 99 #[.val (.int ip), .val (.int iq), .val (.int ir), .val (.int is_), .val (.int im), .val (.int i0), .val (.int i1), .val (.int u0), .val (.int u1), .val (.int li), .val (.int lu), .val (.int j_sc), .val (.int j_sl), .unset, .unset, .unset, .unset, .unset, .unset, .unset, .unset, .unset, .unset, .unset, .unset] [(.int ir)]))
        refine Go.by (fun t k => XS.sipush X0.here hx rfl (hb hby at_99) k) ?_
        show Go p e below _ (s₁.setTop (mkF m 102 #[.val (.int ip), .val (.int iq), .val (.int ir), .val (.int is_), .val (.int im), .val (.int i0), .val (.int i1), .val (.int u0), .val (.int u1), .val (.int li), .val (.int lu), .val (.int j_sc), .val (.int j_sl), .unset, .unset, .unset, .unset, .unset, .unset, .unset, .unset, .unset, .unset, .unset, .unset] [(.int (255 : Int32)), (.int ir)]))
        refine Go.by (fun t k => XS.iand X0.here hx rfl (hb hby at_102) rfl k) ?_
        show Go p e below _ (s₁.setTop (mkF m 103 #[.val (.int ip), .val (.int iq), .val (.int ir), .val (.int is_), .val (.int im), .val (.int i0), .val (.int i1), .val (.int u0), .val (.int u1), .val (.int li), .val (.int lu), .val (.int j_sc), .val (.int j_sl), .unset, .unset, .unset, .unset, .unset, .unset, .unset, .unset, .unset, .unset, .unset, .unset] [(.int (ir &&& (255 : Int32)))]))
        refine Go.by (fun t k => XS.i2c X0.here hx rfl (hb hby at_103) rfl k) ?_
        show Go p e below _ (s₁.setTop (mkF m 104 #[.val (.int ip), .val (.int iq), .val (.int ir), .val (.int is_), .val (.int im), .val (.int i0), .val (.int i1), .val (.int u0), .val (.int u1), .val (.int li), .val (.int lu), .val (.int j_sc), .val (.int j_sl), .unset, .unset, .unset, .unset, .unset, .unset, .unset, .unset, .unset, .unset, .unset, .unset] [(.int ((ir &&& (255 : Int32)).toUInt32.toUInt16.toUInt32.toInt32))]))
        exact J104 _ (own_chA _)
      · skip
        refine Go.by (fun t k => XS.ifNo X0.here hx rfl (hb hby at_90) rfl ((if0 _ _).trans (feq hc218).1) k) ?_
        show Go p e below _ (s₁.setTop (mkF m 93 #[.val (.int ip), .val (.int iq), .val (.int ir), .val (.int is_), .val (.int im), .val (.int i0), .val (.int i1), .val (.int u0), .val (.int u1), .val (.int li), .val (.int lu), .val (.int j_sc), .val (.int j_sl), .unset, .unset, .unset, .unset, .unset, .unset, .unset, .unset, .unset, .unset, .unset, .unset] []))
        refine Go.by (fun t k => XS.iload X0.here hx rfl (hb hby at_93) rfl k) ?_
        show Go p e below _ (s₁.setTop (mkF m 95 #[.val (.int ip), .val (.int iq), .val (.int ir), .val (.int is_), .val (.int im), .val (.int i0), .val (.int i1), .val (.int u0), .val (.int u1), .val (.int li), .val (.int lu), .val (.int j_sc), .val (.int j_sl), .unset, .unset, .unset, .unset, .unset, .unset, .unset, .unset, .unset, .unset, .unset, .unset] [(.int i0)]))
        refine Go.by (fun t k => XS.goto X0.here hx rfl (pc0 := 95) (pc' := 104) rfl (hb hby at_95) (by decide) (by decide) k) ?_
        show Go p e below _ (s₁.setTop (mkF m 104 #[.val (.int ip), .val (.int iq), .val (.int ir), .val (.int is_), .val (.int im), .val (.int i0), .val (.int i1), .val (.int u0), .val (.int u1), .val (.int li), .val (.int lu), .val (.int j_sc), .val (.int j_sl), .unset, .unset, .unset, .unset, .unset, .unset, .unset, .unset, .unset, .unset, .unset, .unset] [(.int i0)]))
        exact J104 _ hi0
    by_cases hc219 : (((im.toUInt32 >>> ((5 : Int32) &&& 31).toUInt32).toInt32) &&& (1 : Int32)) = (0 : Int32)
    · skip
      refine Go.by (fun t k => XS.ifYes X0.here hx rfl (pc0 := 78) (pc' := 85) rfl (hb hby at_78) rfl ((if0 _ _).trans (teq hc219).1) (by decide) (by decide) k) ?_
      show Go p e below _ (s₁.setTop (mkF m 85 #[.val (.int ip), .val (.int iq), .val (.int ir), .val (.int is_), .val (.int im), .val (.int i0), .val (.int i1), .val (.int u0), .val (.int u1), .val (.int li), .val (.int lu), .val (.int j_sc), .unset, .unset, .unset, .unset, .unset, .unset, .unset, .unset, .unset, .unset, .unset, .unset, .unset] []))
      refine Go.by (fun t k => XS.iconst X0.here hx rfl (hb hby at_85) k) ?_
      show Go p e below _ (s₁.setTop (mkF m 86 #[.val (.int ip), .val (.int iq), .val (.int ir), .val (.int is_), .val (.int im), .val (.int i0), .val (.int i1), .val (.int u0), .val (.int u1), .val (.int li), .val (.int lu), .val (.int j_sc), .unset, .unset, .unset, .unset, .unset, .unset, .unset, .unset, .unset, .unset, .unset, .unset, .unset] [(.int (0 : Int32))]))
      exact J86 _ 
    · skip
      refine Go.by (fun t k => XS.ifNo X0.here hx rfl (hb hby at_78) rfl ((if0 _ _).trans (feq hc219).1) k) ?_
      show Go p e below _ (s₁.setTop (mkF m 81 #[.val (.int ip), .val (.int iq), .val (.int ir), .val (.int is_), .val (.int im), .val (.int i0), .val (.int i1), .val (.int u0), .val (.int u1), .val (.int li), .val (.int lu), .val (.int j_sc), .unset, .unset, .unset, .unset, .unset, .unset, .unset, .unset, .unset, .unset, .unset, .unset, .unset] []))
      refine Go.by (fun t k => XS.iconst X0.here hx rfl (hb hby at_81) k) ?_
      show Go p e below _ (s₁.setTop (mkF m 82 #[.val (.int ip), .val (.int iq), .val (.int ir), .val (.int is_), .val (.int im), .val (.int i0), .val (.int i1), .val (.int u0), .val (.int u1), .val (.int li), .val (.int lu), .val (.int j_sc), .unset, .unset, .unset, .unset, .unset, .unset, .unset, .unset, .unset, .unset, .unset, .unset, .unset] [(.int (1 : Int32))]))
      refine Go.by (fun t k => XS.goto X0.here hx rfl (pc0 := 82) (pc' := 86) rfl (hb hby at_82) (by decide) (by decide) k) ?_
      show Go p e below _ (s₁.setTop (mkF m 86 #[.val (.int ip), .val (.int iq), .val (.int ir), .val (.int is_), .val (.int im), .val (.int i0), .val (.int i1), .val (.int u0), .val (.int u1), .val (.int li), .val (.int lu), .val (.int j_sc), .unset, .unset, .unset, .unset, .unset, .unset, .unset, .unset, .unset, .unset, .unset, .unset, .unset] [(.int (1 : Int32))]))
      exact J86 _ 
  by_cases hc220 : (((im.toUInt32 >>> ((4 : Int32) &&& 31).toUInt32).toInt32) &&& (1 : Int32)) = (0 : Int32)
  · skip
    refine Go.by (fun t k => XS.ifYes X0.here hx rfl (pc0 := 62) (pc' := 69) rfl (hb hby at_62) rfl ((if0 _ _).trans (teq hc220).1) (by decide) (by decide) k) ?_
    show Go p e below _ (s₁.setTop (mkF m 69 #[.val (.int ip), .val (.int iq), .val (.int ir), .val (.int is_), .val (.int im), .val (.int i0), .val (.int i1), .val (.int u0), .val (.int u1), .val (.int li), .val (.int lu), .unset, .unset, .unset, .unset, .unset, .unset, .unset, .unset, .unset, .unset, .unset, .unset, .unset, .unset] []))
    refine Go.by (fun t k => XS.iconst X0.here hx rfl (hb hby at_69) k) ?_
    show Go p e below _ (s₁.setTop (mkF m 70 #[.val (.int ip), .val (.int iq), .val (.int ir), .val (.int is_), .val (.int im), .val (.int i0), .val (.int i1), .val (.int u0), .val (.int u1), .val (.int li), .val (.int lu), .unset, .unset, .unset, .unset, .unset, .unset, .unset, .unset, .unset, .unset, .unset, .unset, .unset, .unset] [(.int (0 : Int32))]))
    exact J70 _ 
  · skip
    refine Go.by (fun t k => XS.ifNo X0.here hx rfl (hb hby at_62) rfl ((if0 _ _).trans (feq hc220).1) k) ?_
    show Go p e below _ (s₁.setTop (mkF m 65 #[.val (.int ip), .val (.int iq), .val (.int ir), .val (.int is_), .val (.int im), .val (.int i0), .val (.int i1), .val (.int u0), .val (.int u1), .val (.int li), .val (.int lu), .unset, .unset, .unset, .unset, .unset, .unset, .unset, .unset, .unset, .unset, .unset, .unset, .unset, .unset] []))
    refine Go.by (fun t k => XS.iconst X0.here hx rfl (hb hby at_65) k) ?_
    show Go p e below _ (s₁.setTop (mkF m 66 #[.val (.int ip), .val (.int iq), .val (.int ir), .val (.int is_), .val (.int im), .val (.int i0), .val (.int i1), .val (.int u0), .val (.int u1), .val (.int li), .val (.int lu), .unset, .unset, .unset, .unset, .unset, .unset, .unset, .unset, .unset, .unset, .unset, .unset, .unset, .unset] [(.int (1 : Int32))]))
    refine Go.by (fun t k => XS.goto X0.here hx rfl (pc0 := 66) (pc' := 70) rfl (hb hby at_66) (by decide) (by decide) k) ?_
    show Go p e below _ (s₁.setTop (mkF m 70 #[.val (.int ip), .val (.int iq), .val (.int ir), .val (.int is_), .val (.int im), .val (.int i0), .val (.int i1), .val (.int u0), .val (.int u1), .val (.int li), .val (.int lu), .unset, .unset, .unset, .unset, .unset, .unset, .unset, .unset, .unset, .unset, .unset, .unset, .unset, .unset] [(.int (1 : Int32))]))
    exact J70 _ 
set_option maxRecDepth 65536 in
set_option maxHeartbeats 40000000 in
theorem comes_1 {Post : Tables → Env → Array Value → State → Outcome → State → Prop} (hpost : ∀ tb e args s v u, (limb_1_1.after args s (.returned v) u = true ∧ limb_1_2.after args s (.returned v) u = true ∧ True) → ReturnedEndW s (.returned v) u (Jvm.fieldLocs frame_1_writes args s ++ Jvm.arrayLocs frame_1_arrays args s ++ Jvm.staticLocs frame_1_statics s) 40 1216 → Post tb e args s (.returned v) u) :
    ArmFor flags0 classFile x code maxLocals ret World_1 tables_1 room_1 Calls_1 rest_1 Pre_1 Post := by
  intro l hfl _ _ p e ha hc hk s m args below hf hA hF happ hP
  obtain ⟨hcalls, hrest, hpre⟩ := hP
  obtain ⟨-, -, -, hnamed, -, -, -, hat⟩ := (Spec.applies_iff hf).mp happ
  obtain ⟨hg, hn⟩ := and_e (Cond.before_iff.mp (show (Jvm.Cond.and given_1 narrow_1).before args s = true from hpre))
  obtain ⟨hcnt, hr1⟩ := and_e hg
  obtain ⟨hv0, hr2⟩ := and_e hr1
  obtain ⟨hv1, hr3⟩ := and_e hr2
  obtain ⟨hv2, hr4⟩ := and_e hr3
  obtain ⟨hv3, hv4⟩ := and_e hr4
  obtain ⟨w0, w1, w2, w3, w4, rfl⟩ : ∃ w0 w1 w2 w3 w4 : Value, args = #[w0, w1, w2, w3, w4] := by
    have hs : args.size = 5 := by simpa [Cond.value, given_1] using hcnt
    obtain ⟨L⟩ := args
    match L, hs with
    | [w0, w1, w2, w3, w4], _ => exact ⟨w0, w1, w2, w3, w4, rfl⟩
  have hw := fun d (hd : d ∈ tables_1) => atoms_spec (ws := Jvm.Cond.code x code maxLocals ret :: tables_1) hat d (List.mem_cons_of_mem _ hd)
  have hfit : Fit s := fun {y c} hc i hi => by
    obtain ⟨ha, rfl⟩ := Array.getElem?_eq_some_iff.mp hc
    have q := List.all_eq_true.mp ((Array.all_eq_true_iff_forall_mem.mp hF) _ (Array.getElem_mem ha)) i (List.mem_range.mpr hi)
    simpa [Array.getElem?_eq_getElem hi] using q
  obtain ⟨i0, ei0⟩ := is_v hv0
  obtain rfl : w0 = (.int i0) := Option.some.inj ei0
  obtain ⟨i1, ei1⟩ := is_v hv1
  obtain rfl : w1 = (.int i1) := Option.some.inj ei1
  obtain ⟨i2, ei2⟩ := is_v hv2
  obtain rfl : w2 = (.int i2) := Option.some.inj ei2
  obtain ⟨i3, ei3⟩ := is_v hv3
  obtain rfl : w3 = (.int i3) := Option.some.inj ei3
  obtain ⟨i4, ei4⟩ := is_v hv4
  obtain rfl : w4 = (.int i4) := Option.some.inj ei4
  obtain ⟨z1, z2⟩ := and_e (Cond.before_iff.mp (show rest_1_c.before _ s = true from hrest))
  obtain ⟨z3, z4⟩ := and_e z2
  obtain ⟨z5, -⟩ := and_e z4
  obtain ⟨cs, hcs0⟩ := is_v z3
  have SC := Sta.start hcs0 (Or.inl (Cond.before_iff.mpr z1))
  have hcs := own_ne0 hcs0 z5
  have hCH : CHv s own_EL s.vm s.heap := CHv.start (own_EW hw) hcalls.1 (Cond.before_iff.mpr z5) (hw _ (List.mem_of_getElem? (i := 22) rfl)) (hw _ (List.mem_of_getElem? (i := 8) rfl))
  obtain ⟨n, o, h1, h2, h3, _, L, rfl, ⟨rfl, N, -⟩, -, hq⟩ := law l s _ hw tables_1 i0 i1 i2 i3 i4 cs s.heap s.heap.size (Old.start s) SC hcs p e ha hc hk s m _ below hf ((Spec.applies_iff_loose hf).mp happ).1 ⟨rfl, State.Warmed39.refl s, rfl, hCH⟩ trivial
  refine ⟨n, _, h1, h2, h3, hpost _ _ _ _ _ _ ⟨Cond.after_iff.mpr rfl, Cond.after_iff.mpr (eq_i res_at (Term.int_eval (1)) rfl), trivial⟩ ⟨hq.1, hq.2.1, hq.2.2.1, (hq.2.2.2.sift fun y hy => Or.inr (N y hy)).mono (by decide) (by decide)⟩⟩
theorem main_1_1 : Claimed_1_1 := comes_1 fun _ _ _ _ _ _ h hF => ⟨h.1, hF⟩
theorem main_1_2 : Claimed_1_2 := comes_1 fun _ _ _ _ _ _ h hF => ⟨h.2.1, hF⟩
end Jvm.Pilot.@@N@@
namespace Jvm.Pilot.@@N@@
open Jvm Jvm.ClassFile Sem Op Lib Jvm.Free Jvm.Stand Jvm.Pilot.@@N@@.Jvm.D
/-! MADE BY PROGRAM (witnessworld.py) out of the Statement's table words and the real class files: 20 classes; the members and pool entries that the words name. The judged class is class 1, her method 3. -/
namespace start1
open Jvm.ClassFile
def u (s : String) : CpInfo := .utf8 (stringToUtf16 s)
/-- a pool by its gaps: so many unusable entries, then the entry; so many at the end -/
def gap : Nat → List CpInfo → List CpInfo
  | 0, r => r
  | n + 1, r => .unusable :: gap n r
def poolList (es : List (Nat × CpInfo)) (last : Nat) : List CpInfo := es.foldr (fun e r => gap e.1 (e.2 :: r)) (gap last [])
def pool (es : List (Nat × CpInfo)) (last : Nat) : Array CpInfo := ⟨poolList es last⟩
def fileOf (pool : Array CpInfo) (this : Nat) (attrs : Array Attribute := #[]) (ms : Array MethodInfo := #[]) (fl : Nat := 33) (sup : Nat := 0) (ifs : Array Nat := #[]) (fds : Array FieldInfo := #[]) : ClassFile where
  minorVersion := 0
  majorVersion := 65
  constantPool := pool
  accessFlags := fl
  thisClass := this
  superClass := sup
  interfaces := ifs
  fields := fds
  methods := ms
  attributes := attrs
def plain (name : String) (sup : Option ClassId) : Class where
  name := name
  kind := .ordinary
  loader := none
  accessFlags := 33
  super := sup
  interfaces := #[]
  cf := none
  fields := #[]
  methods := #[]
  instanceTypes := #[]
  staticTypes := #[]
  resolved := #[]
  callSites := []
  init := .initialized
  statics := none
  mirror := none

def pool0 : Array CpInfo := pool [(5, u "<init>"), (0, u "()V"), (1, .class_ 10), (1, u "java/lang/Object")] 113

def k0c0 : Code := { maxStack := 0, maxLocals := 1, code := object_method_1_code, exceptionTable := #[], attributes := #[] }
def k0m0 : Method := { name := "<init>", desc := "()V", sig := { parameters := [], returnType := none }, accessFlags := 1, code := some k0c0 }
/-- java/lang/Object -/
def k0 : Class := { plain "java/lang/Object" none with
  accessFlags := 33
  interfaces := #[]
  cf := some (fileOf pool0 8 #[] #[{ accessFlags := 1, nameIndex := 5, descriptorIndex := 6, attributes := #[] }] 33 0 #[] #[])
  fields := #[]
  methods := #[k0m0]
  instanceTypes := #[]
  staticTypes := #[]
  resolved := Array.replicate 124 none
  statics := none }

def pool1 : Array CpInfo := pool [(2, .class_ 4), (1, u "java/lang/Object"), (0, u "<init>"), (0, u "()V"), (0, .class_ 8), (0, u "java/lang/String"), (0, .methodref 7 10), (0, .nameAndType 5 11), (0, u "([C)V"), (0, .methodref 7 13), (0, .nameAndType 14 15), (0, u "valueOf"), (0, u "(C)Ljava/lang/String;"), (0, .class_ 17), (0, u "com/example/tattler/tattler/channel/WatchedResource"), (0, .methodref 19 20), (0, .class_ 21), (0, .nameAndType 22 23), (0, u "com/example/tattler/tattler/channel/WatchedResourceEqualsPinLaw"), (0, u "str"), (0, u "(CCI)Ljava/lang/String;"), (0, .methodref 16 25), (0, .nameAndType 5 26), (0, u "(Ljava/lang/String;Ljava/lang/String;)V"), (0, .methodref 16 28), (0, .nameAndType 29 30), (0, u "equals"), (0, u "(Ljava/lang/Object;)Z"), (0, .methodref 19 32), (0, .nameAndType 33 34), (0, u "same"), (0, u "(CCICCI)Z"), (3, u "law"), (0, u "(IIIII)Z")] 2

def k1m0 : Method := { name := "<init>", desc := "()V", sig := { parameters := [], returnType := none }, accessFlags := 2, code := none }
def k1c1 : Code := { maxStack := 6, maxLocals := 3, code := method_2_code, exceptionTable := #[], attributes := #[] }
def k1m1 : Method := { name := "str", desc := "(CCI)Ljava/lang/String;", sig := { parameters := [.char, .char, .int], returnType := some (.object "java/lang/String") }, accessFlags := 10, code := some k1c1 }
def k1c2 : Code := { maxStack := 2, maxLocals := 6, code := method_3_code, exceptionTable := #[], attributes := #[] }
def k1m2 : Method := { name := "same", desc := "(CCICCI)Z", sig := { parameters := [.char, .char, .int, .char, .char, .int], returnType := some .boolean }, accessFlags := 10, code := some k1c2 }
def k1c3 : Code := { maxStack := 6, maxLocals := 25, code := code, exceptionTable := #[], attributes := #[] }
def k1m3 : Method := { name := "law", desc := "(IIIII)Z", sig := { parameters := [.int, .int, .int, .int, .int], returnType := some .boolean }, accessFlags := 9, code := some k1c3 }
/-- com/example/tattler/tattler/channel/WatchedResourceEqualsPinLaw -/
def k1 : Class := { plain "com/example/tattler/tattler/channel/WatchedResourceEqualsPinLaw" (some 0) with
  accessFlags := 49
  interfaces := #[]
  cf := some (fileOf pool1 19 #[] #[{ accessFlags := 2, nameIndex := 5, descriptorIndex := 6, attributes := #[] }, { accessFlags := 10, nameIndex := 22, descriptorIndex := 23, attributes := #[] }, { accessFlags := 10, nameIndex := 33, descriptorIndex := 34, attributes := #[] }, { accessFlags := 9, nameIndex := 38, descriptorIndex := 39, attributes := #[] }] 49 2 #[] #[])
  fields := #[]
  methods := #[k1m0, k1m1, k1m2, k1m3]
  instanceTypes := #[]
  staticTypes := #[]
  resolved := Array.replicate 42 none
  statics := none }

def pool2 : Array CpInfo := pool [(1, .methodref 2 3), (0, .class_ 4), (0, .nameAndType 5 6), (0, u "java/lang/Object"), (0, u "<init>"), (0, u "()V"), (0, .class_ 8), (0, u "com/example/tattler/tattler/channel/WatchedResource"), (3, .class_ 14), (1, u "java/lang/String"), (34, .fieldref 7 50), (0, .nameAndType 51 52), (0, u "uri"), (0, u "Ljava/lang/String;"), (8, .fieldref 7 62), (0, .nameAndType 63 52), (0, u "id"), (0, .methodref 12 65), (0, .nameAndType 66 67), (0, u "equals"), (0, u "(Ljava/lang/Object;)Z"), (6, u "WATCH_SUFFIX"), (5, u "(Ljava/lang/String;Ljava/lang/String;)V")] 25

def k2c0 : Code := { maxStack := 2, maxLocals := 3, code := prog_8_method_2_code, exceptionTable := #[], attributes := #[] }
def k2m0 : Method := { name := "<init>", desc := "(Ljava/lang/String;Ljava/lang/String;)V", sig := { parameters := [(.object "java/lang/String"), (.object "java/lang/String")], returnType := none }, accessFlags := 0, code := some k2c0 }
def k2c1 : Code := { maxStack := 2, maxLocals := 3, code := prog_8_method_5_code, exceptionTable := #[], attributes := #[] }
def k2m1 : Method := { name := "equals", desc := "(Ljava/lang/Object;)Z", sig := { parameters := [(.object "java/lang/Object")], returnType := some .boolean }, accessFlags := 1, code := some k2c1 }
/-- com/example/tattler/tattler/channel/WatchedResource -/
def k2 : Class := { plain "com/example/tattler/tattler/channel/WatchedResource" (some 0) with
  accessFlags := 49
  interfaces := #[]
  cf := some (fileOf pool2 7 #[] #[{ accessFlags := 0, nameIndex := 5, descriptorIndex := 80, attributes := #[] }, { accessFlags := 1, nameIndex := 66, descriptorIndex := 67, attributes := #[] }] 49 2 #[] #[{ accessFlags := 26, nameIndex := 74, descriptorIndex := 52, attributes := #[] }, { accessFlags := 18, nameIndex := 63, descriptorIndex := 52, attributes := #[] }, { accessFlags := 18, nameIndex := 51, descriptorIndex := 52, attributes := #[] }])
  fields := #[{ name := "WATCH_SUFFIX", type := (.object "java/lang/String"), accessFlags := 26, slot := 0, constantValue := 0 }, { name := "id", type := (.object "java/lang/String"), accessFlags := 18, slot := 0, constantValue := 0 }, { name := "uri", type := (.object "java/lang/String"), accessFlags := 18, slot := 1, constantValue := 0 }]
  methods := #[k2m0, k2m1]
  instanceTypes := #[(.object "java/lang/String"), (.object "java/lang/String")]
  staticTypes := #[(.object "java/lang/String")]
  resolved := Array.replicate 106 none
  statics := none }

def pool3 : Array CpInfo := pool [(1, .class_ 2), (0, u "java/io/Serializable"), (0, .class_ 4), (0, u "java/lang/Object")] 2

/-- java/io/Serializable -/
def k3 : Class := { plain "java/io/Serializable" (some 0) with
  accessFlags := 1537
  interfaces := #[]
  cf := some (fileOf pool3 1 #[] #[] 1537 3 #[] #[])
  fields := #[]
  methods := #[]
  instanceTypes := #[]
  staticTypes := #[]
  resolved := Array.replicate 7 none
  statics := none }

def pool4 : Array CpInfo := pool [(1, .class_ 2), (0, u "java/lang/Comparable"), (0, .class_ 4), (0, u "java/lang/Object")] 7

/-- java/lang/Comparable -/
def k4 : Class := { plain "java/lang/Comparable" (some 0) with
  accessFlags := 1537
  interfaces := #[]
  cf := some (fileOf pool4 1 #[] #[] 1537 3 #[] #[])
  fields := #[]
  methods := #[]
  instanceTypes := #[]
  staticTypes := #[]
  resolved := Array.replicate 12 none
  statics := none }

def pool5 : Array CpInfo := pool [(2, .class_ 4), (1, u "java/lang/CharSequence"), (42, .class_ 48), (0, u "java/lang/CharSequence$1CodePointIterator"), (10, .class_ 60), (0, u "java/lang/CharSequence$1CharIterator"), (5, .class_ 67), (0, u "java/lang/Object")] 63

/-- java/lang/CharSequence -/
def k5 : Class := { plain "java/lang/CharSequence" (some 0) with
  accessFlags := 1537
  interfaces := #[]
  cf := some (fileOf pool5 2 #[.nestMembers #[47, 59]] #[] 1537 66 #[] #[])
  fields := #[]
  methods := #[]
  instanceTypes := #[]
  staticTypes := #[]
  resolved := Array.replicate 131 none
  statics := none }

def pool6 : Array CpInfo := pool [(1, .class_ 2), (0, u "java/lang/constant/Constable"), (0, .class_ 4), (0, u "java/lang/Object")] 6

/-- java/lang/constant/Constable -/
def k6 : Class := { plain "java/lang/constant/Constable" (some 0) with
  accessFlags := 1537
  interfaces := #[]
  cf := some (fileOf pool6 1 #[] #[] 1537 3 #[] #[])
  fields := #[]
  methods := #[]
  instanceTypes := #[]
  staticTypes := #[]
  resolved := Array.replicate 11 none
  statics := none }

def pool7 : Array CpInfo := pool [(1, .class_ 2), (0, u "java/lang/constant/ConstantDesc"), (0, .class_ 4), (0, u "java/lang/Object")] 32

/-- java/lang/constant/ConstantDesc -/
def k7 : Class := { plain "java/lang/constant/ConstantDesc" (some 0) with
  accessFlags := 1537
  interfaces := #[]
  cf := some (fileOf pool7 1 #[] #[] 1537 3 #[] #[])
  fields := #[]
  methods := #[]
  instanceTypes := #[]
  staticTypes := #[]
  resolved := Array.replicate 37 none
  statics := none }

def pool8 : Array CpInfo := pool [(1, .methodref 2 3), (0, .class_ 4), (0, .nameAndType 5 6), (0, u "java/lang/Object"), (0, u "<init>"), (0, u "()V"), (0, .string 8), (0, u ""), (0, .fieldref 10 11), (0, .class_ 12), (0, .nameAndType 13 14), (0, u "java/lang/String"), (0, u "value"), (0, u "[B"), (0, .fieldref 10 16), (0, .nameAndType 17 18), (0, u "coder"), (0, u "B"), (2, u "hash"), (0, u "I"), (2, u "hashIsZero"), (0, u "Z"), (0, .methodref 10 28), (0, .nameAndType 5 29), (0, u "([CIILjava/lang/Void;)V"), (8, .fieldref 10 39), (0, .nameAndType 40 26), (0, u "COMPACT_STRINGS"), (1, .class_ 44), (1, u "java/lang/StringUTF16"), (0, u "compress"), (1, .methodref 42 48), (0, .nameAndType 49 50), (0, u "coderFromArrayLen"), (0, u "([BI)B"), (2, u "toBytes"), (53, .class_ 109), (1, u "java/lang/StringLatin1"), (67, .methodref 42 178), (0, .nameAndType 45 179), (0, u "([CII)[B"), (29, .methodref 10 210), (0, .nameAndType 5 211), (0, u "([BB)V"), (157, u "(C)Z"), (171, .methodref 107 542), (0, .nameAndType 543 544), (0, u "equals"), (0, u "([B[B)Z"), (28, u "(Ljava/lang/Object;)Z"), (1, .class_ 576), (0, u "java/lang/CharSequence"), (22, u "CASE_INSENSITIVE_ORDER"), (0, u "Ljava/util/Comparator;"), (181, u "valueOf"), (0, u "(C)Ljava/lang/String;"), (226, u "([C)V"), (4, .methodref 107 1016), (0, .nameAndType 1017 369), (0, u "canEncode"), (0, .methodref 107 1019), (0, .nameAndType 53 1020), (0, u "(C)[B"), (80, u "serialPersistentFields"), (0, u "[Ljava/io/ObjectStreamField;"), (0, .class_ 1104), (0, u "java/lang/String$CaseInsensitiveComparator"), (1, .class_ 1107), (0, u "java/io/Serializable"), (0, .class_ 1109), (0, u "java/lang/Comparable"), (0, .class_ 1111), (0, u "java/lang/constant/Constable"), (0, .class_ 1113), (0, u "java/lang/constant/ConstantDesc"), (2, u "serialVersionUID"), (0, u "J"), (3, u "REPL"), (0, u "C"), (2, u "LATIN1"), (1, u "UTF16")] 323

def k8m0 : Method := { name := "<init>", desc := "()V", sig := { parameters := [], returnType := none }, accessFlags := 1, code := none }
def k8c1 : Code := { maxStack := 5, maxLocals := 2, code := jdk_42_method_3_code, exceptionTable := #[], attributes := #[] }
def k8m1 : Method := { name := "<init>", desc := "([C)V", sig := { parameters := [(.array .char)], returnType := none }, accessFlags := 1, code := some k8c1 }
def k8c2 : Code := { maxStack := 2, maxLocals := 3, code := jdk_42_method_66_code, exceptionTable := #[], attributes := #[] }
def k8m2 : Method := { name := "equals", desc := "(Ljava/lang/Object;)Z", sig := { parameters := [(.object "java/lang/Object")], returnType := some .boolean }, accessFlags := 1, code := some k8c2 }
def k8c3 : Code := { maxStack := 4, maxLocals := 1, code := jdk_42_method_139_code, exceptionTable := #[], attributes := #[] }
def k8m3 : Method := { name := "valueOf", desc := "(C)Ljava/lang/String;", sig := { parameters := [.char], returnType := some (.object "java/lang/String") }, accessFlags := 9, code := some k8c3 }
def k8c4 : Code := { maxStack := 4, maxLocals := 6, code := jdk_42_method_149_code, exceptionTable := #[], attributes := #[] }
def k8m4 : Method := { name := "<init>", desc := "([CIILjava/lang/Void;)V", sig := { parameters := [(.array .char), .int, .int, (.object "java/lang/Void")], returnType := none }, accessFlags := 2, code := some k8c4 }
def k8c5 : Code := { maxStack := 2, maxLocals := 3, code := jdk_42_method_151_code, exceptionTable := #[], attributes := #[] }
def k8m5 : Method := { name := "<init>", desc := "([BB)V", sig := { parameters := [(.array .byte), .byte], returnType := none }, accessFlags := 0, code := some k8c5 }
/-- java/lang/String -/
def k8 : Class := { plain "java/lang/String" (some 0) with
  accessFlags := 49
  interfaces := #[3, 4, 5, 6, 7]
  cf := some (fileOf pool8 10 #[.nestMembers #[1103]] #[{ accessFlags := 1, nameIndex := 5, descriptorIndex := 6, attributes := #[] }, { accessFlags := 1, nameIndex := 5, descriptorIndex := 1010, attributes := #[] }, { accessFlags := 1, nameIndex := 543, descriptorIndex := 573, attributes := #[] }, { accessFlags := 9, nameIndex := 782, descriptorIndex := 783, attributes := #[] }, { accessFlags := 2, nameIndex := 5, descriptorIndex := 29, attributes := #[] }, { accessFlags := 0, nameIndex := 5, descriptorIndex := 211, attributes := #[] }] 49 2 #[1106, 1108, 575, 1110, 1112] #[{ accessFlags := 18, nameIndex := 13, descriptorIndex := 14, attributes := #[] }, { accessFlags := 18, nameIndex := 17, descriptorIndex := 18, attributes := #[] }, { accessFlags := 2, nameIndex := 21, descriptorIndex := 22, attributes := #[] }, { accessFlags := 2, nameIndex := 25, descriptorIndex := 26, attributes := #[] }, { accessFlags := 26, nameIndex := 1116, descriptorIndex := 1117, attributes := #[] }, { accessFlags := 24, nameIndex := 40, descriptorIndex := 26, attributes := #[] }, { accessFlags := 26, nameIndex := 1101, descriptorIndex := 1102, attributes := #[] }, { accessFlags := 26, nameIndex := 1121, descriptorIndex := 1122, attributes := #[] }, { accessFlags := 25, nameIndex := 599, descriptorIndex := 600, attributes := #[] }, { accessFlags := 24, nameIndex := 1125, descriptorIndex := 18, attributes := #[] }, { accessFlags := 24, nameIndex := 1127, descriptorIndex := 18, attributes := #[] }])
  fields := #[{ name := "value", type := (.array .byte), accessFlags := 18, slot := 0, constantValue := 0 }, { name := "coder", type := .byte, accessFlags := 18, slot := 1, constantValue := 0 }, { name := "hash", type := .int, accessFlags := 2, slot := 2, constantValue := 0 }, { name := "hashIsZero", type := .boolean, accessFlags := 2, slot := 3, constantValue := 0 }, { name := "serialVersionUID", type := .long, accessFlags := 26, slot := 0, constantValue := 0 }, { name := "COMPACT_STRINGS", type := .boolean, accessFlags := 24, slot := 1, constantValue := 0 }, { name := "serialPersistentFields", type := (.array (.object "java/io/ObjectStreamField")), accessFlags := 26, slot := 2, constantValue := 0 }, { name := "REPL", type := .char, accessFlags := 26, slot := 3, constantValue := 0 }, { name := "CASE_INSENSITIVE_ORDER", type := (.object "java/util/Comparator"), accessFlags := 25, slot := 4, constantValue := 0 }, { name := "LATIN1", type := .byte, accessFlags := 24, slot := 5, constantValue := 0 }, { name := "UTF16", type := .byte, accessFlags := 24, slot := 6, constantValue := 0 }]
  methods := #[k8m0, k8m1, k8m2, k8m3, k8m4, k8m5]
  instanceTypes := #[(.array .byte), .byte, .int, .boolean]
  staticTypes := #[.long, .boolean, (.array (.object "java/io/ObjectStreamField")), .char, (.object "java/util/Comparator"), .byte, .byte]
  resolved := Array.replicate 1451 none
  statics := some 0 }

def pool9 : Array CpInfo := pool [(4, .class_ 6), (1, u "java/lang/Object"), (0, u "<init>"), (0, u "()V"), (5, .class_ 16), (1, u "java/lang/StringLatin1"), (73, u "canEncode"), (14, u "(C)Z"), (15, u "$assertionsDisabled"), (0, u "Z"), (98, .class_ 223), (1, u "java/lang/StringLatin1$LinesSpliterator"), (57, u "equals"), (0, u "([B[B)Z"), (97, u "toBytes"), (1, u "(C)[B"), (7, .class_ 391), (0, u "java/lang/StringLatin1$CharsSpliterator")] 3

def k9m0 : Method := { name := "<init>", desc := "()V", sig := { parameters := [], returnType := none }, accessFlags := 0, code := none }
def k9c1 : Code := { maxStack := 2, maxLocals := 1, code := jdk_43_method_3_code, exceptionTable := #[], attributes := #[] }
def k9m1 : Method := { name := "canEncode", desc := "(C)Z", sig := { parameters := [.char], returnType := some .boolean }, accessFlags := 9, code := some k9c1 }
def k9c2 : Code := { maxStack := 3, maxLocals := 3, code := jdk_43_method_13_code, exceptionTable := #[], attributes := #[] }
def k9m2 : Method := { name := "equals", desc := "([B[B)Z", sig := { parameters := [(.array .byte), (.array .byte)], returnType := some .boolean }, accessFlags := 9, code := some k9c2 }
def k9c3 : Code := { maxStack := 4, maxLocals := 1, code := jdk_43_method_46_code, exceptionTable := #[], attributes := #[] }
def k9m3 : Method := { name := "toBytes", desc := "(C)[B", sig := { parameters := [.char], returnType := some (.array .byte) }, accessFlags := 9, code := some k9c3 }
/-- java/lang/StringLatin1 -/
def k9 : Class := { plain "java/lang/StringLatin1" (some 0) with
  accessFlags := 48
  interfaces := #[]
  cf := some (fileOf pool9 14 #[.nestMembers #[390, 221]] #[{ accessFlags := 0, nameIndex := 7, descriptorIndex := 8, attributes := #[] }, { accessFlags := 9, nameIndex := 90, descriptorIndex := 105, attributes := #[] }, { accessFlags := 9, nameIndex := 281, descriptorIndex := 282, attributes := #[] }, { accessFlags := 9, nameIndex := 380, descriptorIndex := 382, attributes := #[] }] 48 4 #[] #[{ accessFlags := 4120, nameIndex := 121, descriptorIndex := 122, attributes := #[] }])
  fields := #[{ name := "$assertionsDisabled", type := .boolean, accessFlags := 4120, slot := 0, constantValue := 0 }]
  methods := #[k9m0, k9m1, k9m2, k9m3]
  instanceTypes := #[]
  staticTypes := #[.boolean]
  resolved := Array.replicate 395 none
  statics := none }

def pool10 : Array CpInfo := pool [(6, .class_ 8), (1, u "java/lang/Object"), (0, u "<init>"), (0, u "()V"), (1, .class_ 14), (1, u "java/lang/StringUTF16"), (31, u "$assertionsDisabled"), (0, u "Z"), (13, u "HI_BYTE_SHIFT"), (0, u "I"), (2, u "LO_BYTE_SHIFT"), (49, .methodref 12 116), (0, .nameAndType 117 118), (0, u "compress"), (0, u "([CI[BII)I"), (3, u "([CII)[B"), (138, u "coderFromArrayLen"), (0, u "([BI)B"), (106, .class_ 371), (1, u "java/lang/StringUTF16$LinesSpliterator"), (58, u "MAX_LENGTH"), (196, .class_ 628), (0, u "java/lang/StringUTF16$CodePointsSpliterator"), (0, .class_ 630), (0, u "java/lang/StringUTF16$CharsSpliterator")] 4

def k10m0 : Method := { name := "<init>", desc := "()V", sig := { parameters := [], returnType := none }, accessFlags := 0, code := none }
def k10c1 : Code := { maxStack := 2, maxLocals := 2, code := jdk_52_method_15_code, exceptionTable := #[], attributes := #[] }
def k10m1 : Method := { name := "coderFromArrayLen", desc := "([BI)B", sig := { parameters := [(.array .byte), .int], returnType := some .byte }, accessFlags := 8, code := some k10c1 }
def k10c2 : Code := { maxStack := 5, maxLocals := 6, code := jdk_52_method_16_code, exceptionTable := #[], attributes := #[] }
def k10m2 : Method := { name := "compress", desc := "([CII)[B", sig := { parameters := [(.array .char), .int, .int], returnType := some (.array .byte) }, accessFlags := 9, code := some k10c2 }
def k10c3 : Code := { maxStack := 3, maxLocals := 7, code := jdk_52_method_21_code, exceptionTable := #[], attributes := #[] }
def k10m3 : Method := { name := "compress", desc := "([CI[BII)I", sig := { parameters := [(.array .char), .int, (.array .byte), .int, .int], returnType := some .int }, accessFlags := 9, code := some k10c3 }
/-- java/lang/StringUTF16 -/
def k10 : Class := { plain "java/lang/StringUTF16" (some 0) with
  accessFlags := 48
  interfaces := #[]
  cf := some (fileOf pool10 12 #[.nestMembers #[627, 629, 369]] #[{ accessFlags := 0, nameIndex := 9, descriptorIndex := 10, attributes := #[] }, { accessFlags := 8, nameIndex := 261, descriptorIndex := 262, attributes := #[] }, { accessFlags := 9, nameIndex := 117, descriptorIndex := 122, attributes := #[] }, { accessFlags := 9, nameIndex := 117, descriptorIndex := 118, attributes := #[] }] 48 6 #[] #[{ accessFlags := 26, nameIndex := 61, descriptorIndex := 62, attributes := #[] }, { accessFlags := 26, nameIndex := 65, descriptorIndex := 62, attributes := #[] }, { accessFlags := 24, nameIndex := 430, descriptorIndex := 62, attributes := #[] }, { accessFlags := 4120, nameIndex := 46, descriptorIndex := 47, attributes := #[] }])
  fields := #[{ name := "HI_BYTE_SHIFT", type := .int, accessFlags := 26, slot := 0, constantValue := 0 }, { name := "LO_BYTE_SHIFT", type := .int, accessFlags := 26, slot := 1, constantValue := 0 }, { name := "MAX_LENGTH", type := .int, accessFlags := 24, slot := 2, constantValue := 0 }, { name := "$assertionsDisabled", type := .boolean, accessFlags := 4120, slot := 3, constantValue := 0 }]
  methods := #[k10m0, k10m1, k10m2, k10m3]
  instanceTypes := #[]
  staticTypes := #[.int, .int, .int, .boolean]
  resolved := Array.replicate 635 none
  statics := none }

def pool11 : Array CpInfo := pool [(2, .class_ 4), (1, u "java/lang/Object"), (0, u "<init>"), (0, u "()V"), (17, .class_ 26), (1, u "jdk/internal/util/Preconditions"), (28, .class_ 56), (0, u "jdk/internal/util/Preconditions$4"), (57, .class_ 115), (0, u "jdk/internal/util/Preconditions$1"), (7, u "SIOOBE_FORMATTER"), (0, u "Ljava/util/function/BiFunction;"), (0, .class_ 126), (0, u "jdk/internal/util/Preconditions$2"), (3, u "AIOOBE_FORMATTER"), (0, .class_ 132), (0, u "jdk/internal/util/Preconditions$3"), (3, u "IOOBE_FORMATTER")] 57

def k11m0 : Method := { name := "<init>", desc := "()V", sig := { parameters := [], returnType := none }, accessFlags := 1, code := none }
/-- jdk/internal/util/Preconditions -/
def k11 : Class := { plain "jdk/internal/util/Preconditions" (some 0) with
  accessFlags := 33
  interfaces := #[]
  cf := some (fileOf pool11 24 #[.nestMembers #[55, 131, 125, 114]] #[{ accessFlags := 1, nameIndex := 5, descriptorIndex := 6, attributes := #[] }] 33 2 #[] #[{ accessFlags := 25, nameIndex := 123, descriptorIndex := 124, attributes := #[] }, { accessFlags := 25, nameIndex := 130, descriptorIndex := 124, attributes := #[] }, { accessFlags := 25, nameIndex := 136, descriptorIndex := 124, attributes := #[] }])
  fields := #[{ name := "SIOOBE_FORMATTER", type := (.object "java/util/function/BiFunction"), accessFlags := 25, slot := 0, constantValue := 0 }, { name := "AIOOBE_FORMATTER", type := (.object "java/util/function/BiFunction"), accessFlags := 25, slot := 1, constantValue := 0 }, { name := "IOOBE_FORMATTER", type := (.object "java/util/function/BiFunction"), accessFlags := 25, slot := 2, constantValue := 0 }]
  methods := #[k11m0]
  instanceTypes := #[]
  staticTypes := #[(.object "java/util/function/BiFunction"), (.object "java/util/function/BiFunction"), (.object "java/util/function/BiFunction")]
  resolved := Array.replicate 194 none
  statics := some 1 }

def pool12 : Array CpInfo := pool [(9, u "<init>"), (6, .class_ 18), (1, u "java/lang/Object"), (0, u "()V"), (1, .class_ 23), (1, u "jdk/internal/util/ArraysSupport"), (0, u "LOG2_ARRAY_LONG_INDEX_SCALE"), (0, u "I"), (2, u "U"), (0, u "Ljdk/internal/misc/Unsafe;"), (8, u "BIG_ENDIAN"), (0, u "Z"), (8, u "LOG2_BYTE_BIT_SIZE"), (4, u "LOG2_ARRAY_INT_INDEX_SCALE"), (54, u "JLA"), (0, u "Ljdk/internal/access/JavaLangAccess;"), (11, u "LOG2_ARRAY_BOOLEAN_INDEX_SCALE"), (9, u "LOG2_ARRAY_BYTE_INDEX_SCALE"), (5, u "LOG2_ARRAY_CHAR_INDEX_SCALE"), (5, u "LOG2_ARRAY_SHORT_INDEX_SCALE"), (18, u "LOG2_ARRAY_FLOAT_INDEX_SCALE"), (24, u "LOG2_ARRAY_DOUBLE_INDEX_SCALE"), (89, u "T_BOOLEAN"), (2, u "T_CHAR"), (1, u "T_FLOAT"), (1, u "T_DOUBLE"), (1, u "T_BYTE"), (1, u "T_SHORT"), (1, u "T_INT"), (1, u "T_LONG"), (1, u "SOFT_MAX_ARRAY_LENGTH")] 83

def k12m0 : Method := { name := "<init>", desc := "()V", sig := { parameters := [], returnType := none }, accessFlags := 2, code := none }
/-- jdk/internal/util/ArraysSupport -/
def k12 : Class := { plain "jdk/internal/util/ArraysSupport" (some 0) with
  accessFlags := 33
  interfaces := #[]
  cf := some (fileOf pool12 21 #[] #[{ accessFlags := 2, nameIndex := 9, descriptorIndex := 19, attributes := #[] }] 33 16 #[] #[{ accessFlags := 24, nameIndex := 28, descriptorIndex := 29, attributes := #[] }, { accessFlags := 26, nameIndex := 38, descriptorIndex := 39, attributes := #[] }, { accessFlags := 25, nameIndex := 121, descriptorIndex := 25, attributes := #[] }, { accessFlags := 25, nameIndex := 131, descriptorIndex := 25, attributes := #[] }, { accessFlags := 25, nameIndex := 137, descriptorIndex := 25, attributes := #[] }, { accessFlags := 25, nameIndex := 143, descriptorIndex := 25, attributes := #[] }, { accessFlags := 25, nameIndex := 53, descriptorIndex := 25, attributes := #[] }, { accessFlags := 25, nameIndex := 24, descriptorIndex := 25, attributes := #[] }, { accessFlags := 25, nameIndex := 162, descriptorIndex := 25, attributes := #[] }, { accessFlags := 25, nameIndex := 187, descriptorIndex := 25, attributes := #[] }, { accessFlags := 26, nameIndex := 48, descriptorIndex := 25, attributes := #[] }, { accessFlags := 25, nameIndex := 277, descriptorIndex := 25, attributes := #[] }, { accessFlags := 25, nameIndex := 280, descriptorIndex := 25, attributes := #[] }, { accessFlags := 25, nameIndex := 282, descriptorIndex := 25, attributes := #[] }, { accessFlags := 25, nameIndex := 284, descriptorIndex := 25, attributes := #[] }, { accessFlags := 25, nameIndex := 286, descriptorIndex := 25, attributes := #[] }, { accessFlags := 25, nameIndex := 288, descriptorIndex := 25, attributes := #[] }, { accessFlags := 25, nameIndex := 290, descriptorIndex := 25, attributes := #[] }, { accessFlags := 25, nameIndex := 292, descriptorIndex := 25, attributes := #[] }, { accessFlags := 26, nameIndex := 108, descriptorIndex := 109, attributes := #[] }, { accessFlags := 25, nameIndex := 294, descriptorIndex := 25, attributes := #[] }])
  fields := #[{ name := "U", type := (.object "jdk/internal/misc/Unsafe"), accessFlags := 24, slot := 0, constantValue := 0 }, { name := "BIG_ENDIAN", type := .boolean, accessFlags := 26, slot := 1, constantValue := 0 }, { name := "LOG2_ARRAY_BOOLEAN_INDEX_SCALE", type := .int, accessFlags := 25, slot := 2, constantValue := 0 }, { name := "LOG2_ARRAY_BYTE_INDEX_SCALE", type := .int, accessFlags := 25, slot := 3, constantValue := 0 }, { name := "LOG2_ARRAY_CHAR_INDEX_SCALE", type := .int, accessFlags := 25, slot := 4, constantValue := 0 }, { name := "LOG2_ARRAY_SHORT_INDEX_SCALE", type := .int, accessFlags := 25, slot := 5, constantValue := 0 }, { name := "LOG2_ARRAY_INT_INDEX_SCALE", type := .int, accessFlags := 25, slot := 6, constantValue := 0 }, { name := "LOG2_ARRAY_LONG_INDEX_SCALE", type := .int, accessFlags := 25, slot := 7, constantValue := 0 }, { name := "LOG2_ARRAY_FLOAT_INDEX_SCALE", type := .int, accessFlags := 25, slot := 8, constantValue := 0 }, { name := "LOG2_ARRAY_DOUBLE_INDEX_SCALE", type := .int, accessFlags := 25, slot := 9, constantValue := 0 }, { name := "LOG2_BYTE_BIT_SIZE", type := .int, accessFlags := 26, slot := 10, constantValue := 0 }, { name := "T_BOOLEAN", type := .int, accessFlags := 25, slot := 11, constantValue := 0 }, { name := "T_CHAR", type := .int, accessFlags := 25, slot := 12, constantValue := 0 }, { name := "T_FLOAT", type := .int, accessFlags := 25, slot := 13, constantValue := 0 }, { name := "T_DOUBLE", type := .int, accessFlags := 25, slot := 14, constantValue := 0 }, { name := "T_BYTE", type := .int, accessFlags := 25, slot := 15, constantValue := 0 }, { name := "T_SHORT", type := .int, accessFlags := 25, slot := 16, constantValue := 0 }, { name := "T_INT", type := .int, accessFlags := 25, slot := 17, constantValue := 0 }, { name := "T_LONG", type := .int, accessFlags := 25, slot := 18, constantValue := 0 }, { name := "JLA", type := (.object "jdk/internal/access/JavaLangAccess"), accessFlags := 26, slot := 19, constantValue := 0 }, { name := "SOFT_MAX_ARRAY_LENGTH", type := .int, accessFlags := 25, slot := 20, constantValue := 0 }]
  methods := #[k12m0]
  instanceTypes := #[]
  staticTypes := #[(.object "jdk/internal/misc/Unsafe"), .boolean, .int, .int, .int, .int, .int, .int, .int, .int, .int, .int, .int, .int, .int, .int, .int, .int, .int, (.object "jdk/internal/access/JavaLangAccess"), .int]
  resolved := Array.replicate 378 none
  statics := none }

def pool13 : Array CpInfo := pool [(1, u "java/lang/Cloneable"), (0, .class_ 1), (0, u "java/lang/Object"), (0, .class_ 3)] 3

/-- java/lang/Cloneable -/
def k13 : Class := { plain "java/lang/Cloneable" (some 0) with
  accessFlags := 1537
  interfaces := #[]
  cf := some (fileOf pool13 2 #[] #[] 1537 4 #[] #[])
  fields := #[]
  methods := #[]
  instanceTypes := #[]
  staticTypes := #[]
  resolved := Array.replicate 8 none
  statics := none }

/-- the primitive byte -/
def k14 : Class := { plain "byte" none with kind := .primitive 'B', accessFlags := 0x411 }
/-- [B -/
def k15 : Class := { plain "[B" (some 0) with kind := .array 14 .byte, interfaces := #[13, 3], accessFlags := 1041 }

/-- the primitive char -/
def k16 : Class := { plain "char" none with kind := .primitive 'C', accessFlags := 0x411 }
/-- [C -/
def k17 : Class := { plain "[C" (some 0) with kind := .array 16 .char, interfaces := #[13, 3], accessFlags := 1041 }

/-- the primitive int -/
def k18 : Class := { plain "int" none with kind := .primitive 'I', accessFlags := 0x411 }
/-- [I -/
def k19 : Class := { plain "[I" (some 0) with kind := .array 18 .int, interfaces := #[13, 3], accessFlags := 1041 }

def heap : Heap := #[{ cls := 8, slots := #[.long 0, .int 1, .null, .int 0, .null, .int 0, .int 0], vm := .statics 8 },
  { cls := 11, slots := #[.null, .null, .null], vm := .statics 11 }]
def classes : Array Class := #[k0, k1, k2, k3, k4, k5, k6, k7, k8, k9, k10, k11, k12, k13, k14, k15, k16, k17, k18, k19]
def interned : List (Array UInt16 × Addr) := []
def slotsUsed : Nat := 10
def theMethod : MethodId := ⟨1, 3⟩
def args0 : Array Value := #[.int 5, .int 6, .int 7, .int 8, .int 9]
def aboutOver (below : List Frame) : State where
  vm := { classes := classes, interned := interned.toArray }
  heap := heap
  slotsUsed := slotsUsed
  threads := #[{ frames := .invoking theMethod args0 :: below }]
def below0 : List Frame := [.native { method := ⟨0, 0⟩, args := #[] }]
def about1 : State := aboutOver below0
def p0 : Program := .bare "" "" ""
def e0 : Env := launch0.env 0 0 0
theorem w_frames : about1.frames = Frame.invoking theMethod args0 :: below0 := rfl
set_option maxRecDepth 65536 in
theorem w_args : argsFit about1.vm theMethod args0 = true := by decide +kernel
set_option maxRecDepth 65536 in
theorem w_heap : heapFits about1 = true := by decide +kernel
set_option maxRecDepth 65536 in
theorem w_runnable : about1.curStatus? = some .runnable := by decide +kernel
set_option maxRecDepth 65536 in
theorem w_alone : about1.alone = true := by decide +kernel
set_option maxRecDepth 65536 in
theorem w_named : about1.methodNamed? x = some theMethod := by decide +kernel
set_option maxRecDepth 65536 in
theorem w_hears : about1.hears theMethod below0 = true := by decide +kernel
set_option maxRecDepth 65536 in
theorem w_ripe : about1.ripe theMethod args0 below0 = true := by decide +kernel
theorem w_running : about1.status = .running := rfl
set_option maxRecDepth 65536 in
theorem w_room : about1.hasRoom e0.platform room_1 = true :=
  launch0.hasRoom_least _ room_1 (by decide +kernel) (by decide +kernel) (by decide +kernel) (by decide +kernel) (by decide +kernel) (by decide +kernel)
theorem allAtoms_all (ts : List Jvm.Cond) (a : Array Jvm.Value) (st : Jvm.State) : (allAtoms ts).before a st = ts.all (fun c => c.before a st) := by
  induction ts with
  | nil => rfl
  | cons c t ih =>
    show (Jvm.Cond.and c (allAtoms t)).before a st = _
    rw [Jvm.Cond.before_and, ih, List.all_cons]
def words1 : List Jvm.Cond := Jvm.Cond.code x code maxLocals ret :: tables_1
/-- a 'code' word, met by the world's own term for the bytes: nothing is compared byte by byte -/
theorem code_word {y : MethodName} {bytes : ByteArray} {mx : Nat} {rt : Option FieldType} {a : Array Value} {s : State} {m : MethodId} {meth : Method} {c : Code} (h1 : s.methodNamed? y = some m) (h2 : s.vm.method? m = some meth) (h3 : meth.code = some c) (h4 : c.code = bytes)
    (h5 : (c.maxLocals == mx && c.exceptionTable.isEmpty && decide (c.maxStack ≤ mostOperands) && decide (meth.sig.returnType = rt) && !meth.locks && decide (parseMethodDescriptor y.desc = some meth.sig)) = true) : (Jvm.Cond.code y bytes mx rt).before a s = true := by
  simp only [Bool.and_eq_true, beq_iff_eq, Bool.not_eq_true', decide_eq_true_eq] at h5
  obtain ⟨⟨⟨⟨⟨g1, g2⟩, g3⟩, g4⟩, g5⟩, g6⟩ := h5
  simp [Cond.before, Cond.holds, Cond.value, h1, h2, h3, h4, g1, g2, g3, g4, g5, g6]
def isCode : Jvm.Cond → Bool
  | .code _ _ _ _ => true
  | _ => false
theorem all_split {L : List Jvm.Cond} {P : Jvm.Cond → Bool} (h1 : L.all (fun c => isCode c || P c) = true) (h2 : ∀ c ∈ L.filter isCode, P c = true) : L.all P = true := by
  refine List.all_eq_true.mpr fun c hc => ?_
  have h := List.all_eq_true.mp h1 c hc
  rcases Bool.eq_false_or_eq_true (isCode c) with hi | hi
  · exact h2 c (List.mem_filter.mpr ⟨hc, hi⟩)
  · simpa [hi] using h
set_option maxRecDepth 65536 in
theorem w_c0 : (Jvm.Cond.code x code maxLocals ret).before args0 about1 = true := code_word (m := ⟨1, 3⟩) (meth := k1m3) (c := k1c3) (by decide +kernel) rfl rfl rfl (by decide +kernel)
set_option maxRecDepth 65536 in
theorem w_c1 : (Jvm.Cond.code ({ cls := "com/example/tattler/tattler/channel/WatchedResourceEqualsPinLaw", name := "str", desc := "(CCI)Ljava/lang/String;" } : Jvm.MethodName) method_2_code (3 : Nat) (Option.some (Jvm.ClassFile.FieldType.object "java/lang/String"))).before args0 about1 = true := code_word (m := ⟨1, 1⟩) (meth := k1m1) (c := k1c1) (by decide +kernel) rfl rfl rfl (by decide +kernel)
set_option maxRecDepth 65536 in
theorem w_c2 : (Jvm.Cond.code ({ cls := "java/lang/String", name := "<init>", desc := "([C)V" } : Jvm.MethodName) jdk_42_method_3_code (2 : Nat) (Option.none : Option Jvm.ClassFile.FieldType)).before args0 about1 = true := code_word (m := ⟨8, 1⟩) (meth := k8m1) (c := k8c1) (by decide +kernel) rfl rfl rfl (by decide +kernel)
set_option maxRecDepth 65536 in
theorem w_c3 : (Jvm.Cond.code ({ cls := "java/lang/String", name := "<init>", desc := "([CIILjava/lang/Void;)V" } : Jvm.MethodName) jdk_42_method_149_code (6 : Nat) (Option.none : Option Jvm.ClassFile.FieldType)).before args0 about1 = true := code_word (m := ⟨8, 4⟩) (meth := k8m4) (c := k8c4) (by decide +kernel) rfl rfl rfl (by decide +kernel)
set_option maxRecDepth 65536 in
theorem w_c4 : (Jvm.Cond.code ({ cls := "java/lang/Object", name := "<init>", desc := "()V" } : Jvm.MethodName) object_method_1_code (1 : Nat) (Option.none : Option Jvm.ClassFile.FieldType)).before args0 about1 = true := code_word (m := ⟨0, 0⟩) (meth := k0m0) (c := k0c0) (by decide +kernel) rfl rfl rfl (by decide +kernel)
set_option maxRecDepth 65536 in
theorem w_c5 : (Jvm.Cond.code ({ cls := "com/example/tattler/tattler/channel/WatchedResource", name := "<init>", desc := "(Ljava/lang/String;Ljava/lang/String;)V" } : Jvm.MethodName) prog_8_method_2_code (3 : Nat) (Option.none : Option Jvm.ClassFile.FieldType)).before args0 about1 = true := code_word (m := ⟨2, 0⟩) (meth := k2m0) (c := k2c0) (by decide +kernel) rfl rfl rfl (by decide +kernel)
set_option maxRecDepth 65536 in
theorem w_c6 : (Jvm.Cond.code ({ cls := "com/example/tattler/tattler/channel/WatchedResourceEqualsPinLaw", name := "same", desc := "(CCICCI)Z" } : Jvm.MethodName) method_3_code (6 : Nat) (Option.some Jvm.ClassFile.FieldType.boolean)).before args0 about1 = true := code_word (m := ⟨1, 2⟩) (meth := k1m2) (c := k1c2) (by decide +kernel) rfl rfl rfl (by decide +kernel)
set_option maxRecDepth 65536 in
theorem w_c7 : (Jvm.Cond.code ({ cls := "com/example/tattler/tattler/channel/WatchedResource", name := "equals", desc := "(Ljava/lang/Object;)Z" } : Jvm.MethodName) prog_8_method_5_code (3 : Nat) (Option.some Jvm.ClassFile.FieldType.boolean)).before args0 about1 = true := code_word (m := ⟨2, 1⟩) (meth := k2m1) (c := k2c1) (by decide +kernel) rfl rfl rfl (by decide +kernel)
set_option maxRecDepth 65536 in
theorem w_c8 : (Jvm.Cond.code ({ cls := "java/lang/String", name := "equals", desc := "(Ljava/lang/Object;)Z" } : Jvm.MethodName) jdk_42_method_66_code (3 : Nat) (Option.some Jvm.ClassFile.FieldType.boolean)).before args0 about1 = true := code_word (m := ⟨8, 2⟩) (meth := k8m2) (c := k8c2) (by decide +kernel) rfl rfl rfl (by decide +kernel)
set_option maxRecDepth 65536 in
theorem w_c9 : (Jvm.Cond.code ({ cls := "java/lang/StringLatin1", name := "equals", desc := "([B[B)Z" } : Jvm.MethodName) jdk_43_method_13_code (3 : Nat) (Option.some Jvm.ClassFile.FieldType.boolean)).before args0 about1 = true := code_word (m := ⟨9, 2⟩) (meth := k9m2) (c := k9c2) (by decide +kernel) rfl rfl rfl (by decide +kernel)
set_option maxRecDepth 65536 in
theorem w_c10 : (Jvm.Cond.code ({ cls := "java/lang/String", name := "valueOf", desc := "(C)Ljava/lang/String;" } : Jvm.MethodName) jdk_42_method_139_code (1 : Nat) (Option.some (Jvm.ClassFile.FieldType.object "java/lang/String"))).before args0 about1 = true := code_word (m := ⟨8, 3⟩) (meth := k8m3) (c := k8c3) (by decide +kernel) rfl rfl rfl (by decide +kernel)
set_option maxRecDepth 65536 in
theorem w_c11 : (Jvm.Cond.code ({ cls := "java/lang/StringLatin1", name := "canEncode", desc := "(C)Z" } : Jvm.MethodName) jdk_43_method_3_code (1 : Nat) (Option.some Jvm.ClassFile.FieldType.boolean)).before args0 about1 = true := code_word (m := ⟨9, 1⟩) (meth := k9m1) (c := k9c1) (by decide +kernel) rfl rfl rfl (by decide +kernel)
set_option maxRecDepth 65536 in
theorem w_c12 : (Jvm.Cond.code ({ cls := "java/lang/StringLatin1", name := "toBytes", desc := "(C)[B" } : Jvm.MethodName) jdk_43_method_46_code (1 : Nat) (Option.some (Jvm.ClassFile.FieldType.array Jvm.ClassFile.FieldType.byte))).before args0 about1 = true := code_word (m := ⟨9, 3⟩) (meth := k9m3) (c := k9c3) (by decide +kernel) rfl rfl rfl (by decide +kernel)
set_option maxRecDepth 65536 in
theorem w_c13 : (Jvm.Cond.code ({ cls := "java/lang/String", name := "<init>", desc := "([BB)V" } : Jvm.MethodName) jdk_42_method_151_code (3 : Nat) (Option.none : Option Jvm.ClassFile.FieldType)).before args0 about1 = true := code_word (m := ⟨8, 5⟩) (meth := k8m5) (c := k8c5) (by decide +kernel) rfl rfl rfl (by decide +kernel)
set_option maxRecDepth 65536 in
theorem w_c14 : (Jvm.Cond.code ({ cls := "java/lang/StringUTF16", name := "compress", desc := "([CII)[B" } : Jvm.MethodName) jdk_52_method_16_code (6 : Nat) (Option.some (Jvm.ClassFile.FieldType.array Jvm.ClassFile.FieldType.byte))).before args0 about1 = true := code_word (m := ⟨10, 2⟩) (meth := k10m2) (c := k10c2) (by decide +kernel) rfl rfl rfl (by decide +kernel)
set_option maxRecDepth 65536 in
theorem w_c15 : (Jvm.Cond.code ({ cls := "java/lang/StringUTF16", name := "compress", desc := "([CI[BII)I" } : Jvm.MethodName) jdk_52_method_21_code (7 : Nat) (Option.some Jvm.ClassFile.FieldType.int)).before args0 about1 = true := code_word (m := ⟨10, 3⟩) (meth := k10m3) (c := k10c3) (by decide +kernel) rfl rfl rfl (by decide +kernel)
set_option maxRecDepth 65536 in
theorem w_c16 : (Jvm.Cond.code ({ cls := "java/lang/StringUTF16", name := "coderFromArrayLen", desc := "([BI)B" } : Jvm.MethodName) jdk_52_method_15_code (2 : Nat) (Option.some Jvm.ClassFile.FieldType.byte)).before args0 about1 = true := code_word (m := ⟨10, 1⟩) (meth := k10m1) (c := k10c1) (by decide +kernel) rfl rfl rfl (by decide +kernel)
def codes1 : List Jvm.Cond := [Jvm.Cond.code x code maxLocals ret, Jvm.Cond.code ({ cls := "com/example/tattler/tattler/channel/WatchedResourceEqualsPinLaw", name := "str", desc := "(CCI)Ljava/lang/String;" } : Jvm.MethodName) method_2_code (3 : Nat) (Option.some (Jvm.ClassFile.FieldType.object "java/lang/String")), Jvm.Cond.code ({ cls := "java/lang/String", name := "<init>", desc := "([C)V" } : Jvm.MethodName) jdk_42_method_3_code (2 : Nat) (Option.none : Option Jvm.ClassFile.FieldType), Jvm.Cond.code ({ cls := "java/lang/String", name := "<init>", desc := "([CIILjava/lang/Void;)V" } : Jvm.MethodName) jdk_42_method_149_code (6 : Nat) (Option.none : Option Jvm.ClassFile.FieldType), Jvm.Cond.code ({ cls := "java/lang/Object", name := "<init>", desc := "()V" } : Jvm.MethodName) object_method_1_code (1 : Nat) (Option.none : Option Jvm.ClassFile.FieldType), Jvm.Cond.code ({ cls := "com/example/tattler/tattler/channel/WatchedResource", name := "<init>", desc := "(Ljava/lang/String;Ljava/lang/String;)V" } : Jvm.MethodName) prog_8_method_2_code (3 : Nat) (Option.none : Option Jvm.ClassFile.FieldType), Jvm.Cond.code ({ cls := "com/example/tattler/tattler/channel/WatchedResourceEqualsPinLaw", name := "same", desc := "(CCICCI)Z" } : Jvm.MethodName) method_3_code (6 : Nat) (Option.some Jvm.ClassFile.FieldType.boolean), Jvm.Cond.code ({ cls := "com/example/tattler/tattler/channel/WatchedResource", name := "equals", desc := "(Ljava/lang/Object;)Z" } : Jvm.MethodName) prog_8_method_5_code (3 : Nat) (Option.some Jvm.ClassFile.FieldType.boolean), Jvm.Cond.code ({ cls := "java/lang/String", name := "equals", desc := "(Ljava/lang/Object;)Z" } : Jvm.MethodName) jdk_42_method_66_code (3 : Nat) (Option.some Jvm.ClassFile.FieldType.boolean), Jvm.Cond.code ({ cls := "java/lang/StringLatin1", name := "equals", desc := "([B[B)Z" } : Jvm.MethodName) jdk_43_method_13_code (3 : Nat) (Option.some Jvm.ClassFile.FieldType.boolean), Jvm.Cond.code ({ cls := "java/lang/String", name := "valueOf", desc := "(C)Ljava/lang/String;" } : Jvm.MethodName) jdk_42_method_139_code (1 : Nat) (Option.some (Jvm.ClassFile.FieldType.object "java/lang/String")), Jvm.Cond.code ({ cls := "java/lang/StringLatin1", name := "canEncode", desc := "(C)Z" } : Jvm.MethodName) jdk_43_method_3_code (1 : Nat) (Option.some Jvm.ClassFile.FieldType.boolean), Jvm.Cond.code ({ cls := "java/lang/StringLatin1", name := "toBytes", desc := "(C)[B" } : Jvm.MethodName) jdk_43_method_46_code (1 : Nat) (Option.some (Jvm.ClassFile.FieldType.array Jvm.ClassFile.FieldType.byte)), Jvm.Cond.code ({ cls := "java/lang/String", name := "<init>", desc := "([BB)V" } : Jvm.MethodName) jdk_42_method_151_code (3 : Nat) (Option.none : Option Jvm.ClassFile.FieldType), Jvm.Cond.code ({ cls := "java/lang/StringUTF16", name := "compress", desc := "([CII)[B" } : Jvm.MethodName) jdk_52_method_16_code (6 : Nat) (Option.some (Jvm.ClassFile.FieldType.array Jvm.ClassFile.FieldType.byte)), Jvm.Cond.code ({ cls := "java/lang/StringUTF16", name := "compress", desc := "([CI[BII)I" } : Jvm.MethodName) jdk_52_method_21_code (7 : Nat) (Option.some Jvm.ClassFile.FieldType.int), Jvm.Cond.code ({ cls := "java/lang/StringUTF16", name := "coderFromArrayLen", desc := "([BI)B" } : Jvm.MethodName) jdk_52_method_15_code (2 : Nat) (Option.some Jvm.ClassFile.FieldType.byte)]
set_option maxRecDepth 65536 in
theorem codes_eq : words1.filter isCode = codes1 := rfl
theorem w_codes : ∀ c ∈ words1.filter isCode, c.before args0 about1 = true := by
  rw [codes_eq]
  intro c hc
  simp only [codes1, List.mem_cons, List.not_mem_nil, or_false] at hc
  rcases hc with rfl | rfl | rfl | rfl | rfl | rfl | rfl | rfl | rfl | rfl | rfl | rfl | rfl | rfl | rfl | rfl | rfl
  · exact w_c0
  · exact w_c1
  · exact w_c2
  · exact w_c3
  · exact w_c4
  · exact w_c5
  · exact w_c6
  · exact w_c7
  · exact w_c8
  · exact w_c9
  · exact w_c10
  · exact w_c11
  · exact w_c12
  · exact w_c13
  · exact w_c14
  · exact w_c15
  · exact w_c16
set_option maxRecDepth 65536 in
theorem w_t1 : (words1.take 24).all (fun c => isCode c || c.before args0 about1) = true := by decide +kernel
set_option maxRecDepth 65536 in
theorem w_t2 : ((words1.drop 24).take 24).all (fun c => isCode c || c.before args0 about1) = true := by decide +kernel
set_option maxRecDepth 65536 in
theorem w_t3 : (((words1.drop 24).drop 24).take 24).all (fun c => isCode c || c.before args0 about1) = true := by decide +kernel
set_option maxRecDepth 65536 in
theorem w_t4 : (((words1.drop 24).drop 24).drop 24).all (fun c => isCode c || c.before args0 about1) = true := by decide +kernel
theorem w_tables : (allAtoms (Jvm.Cond.code x code maxLocals ret :: tables_1)).before args0 about1 = true := by
  rw [allAtoms_all]
  show words1.all (fun c => c.before args0 about1) = true
  refine all_split ?_ w_codes
  rw [← List.take_append_drop 24 words1, List.all_append, w_t1, ← List.take_append_drop 24 (words1.drop 24), List.all_append, w_t2, ← List.take_append_drop 24 ((words1.drop 24).drop 24), List.all_append, w_t3, w_t4]
  rfl
set_option maxRecDepth 65536 in
theorem w_rest : rest_1_c.before args0 about1 = true := by decide +kernel
set_option maxRecDepth 65536 in
theorem w_case : (Jvm.Cond.and given_1 narrow_1).before args0 about1 = true := by decide +kernel
set_option maxRecDepth 65536 in
theorem w_consts : constsHeld consts_1 about1 := Jvm.Lit.constsHeldB_iff.mp (by decide +kernel)
theorem w_applies : (headSpec (Jvm.Cond.code x code maxLocals ret :: tables_1) room_1).applies x e0.platform about1 = true :=
  (Spec.applies_iff w_frames).mpr ⟨w_running, w_runnable, w_alone, w_named, w_hears, w_ripe, w_room, w_tables⟩
theorem atStart : AtStart classFile x code maxLocals ret World_1 tables_1 room_1 Calls_1 rest_1 Pre_1 launch0 p0 e0 about1 theMethod args0 below0 :=
  ⟨lists_1, trivial, launch0.admits_env _ _ _, launch0.least_env, fairChoices_fair.cas, fairChoices_fair.clock, w_frames, w_args, w_heap, w_applies, ⟨w_consts, trivial⟩, w_rest, w_case⟩
end start1
theorem witness_1 : WitnessClaimed_1 := ⟨start1.p0, start1.e0, start1.about1, start1.theMethod, start1.args0, start1.below0, start1.atStart⟩
end Jvm.Pilot.@@N@@
