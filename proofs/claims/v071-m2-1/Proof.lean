import JvmDerived
import JvmDerived.Pilot.@@N@@Statement
import JvmDerived.Pilot.@@N@@Code
set_option linter.unusedVariables false
set_option linter.unusedSimpArgs false
namespace Jvm.RoadKit
open Sem ClassFile Op Lib Jvm.Stand Jvm.Free Jvm.LawKit
section New
variable {p : Program} {l : Launch} {e : Env} {R : Room} {s : State} {m : MethodId} {args : Array Value} {below : List Frame} {meth : Method} {c : Code} {T : State} {locs : List Loc} {cells slots : Nat}
theorem retI (X : Stand p l e R s m args below meth c T locs cells slots) (hx : p.tables.exec = Jvm.exec) {pc : Nat} {Ls : Array Slot} {z : Int32} {rest : List Value} (hret : meth.sig.returnType = some .int) (hd : decode c.code pc = .ok (.ireturn, 1)) {fs : List Frame}
    (hl : ∀ (f : JFrame) (acts : List Action), f.method = m → f.locked = none → f.entered = [] → (doReturn e (T.setTop f) acts (some (.int z))).1 = T.setFrames fs) : Steps p.tables e below (T.setTop (mkF m pc Ls (.int z :: rest))) (T.setFrames fs) := by
  have hm' : T.vm.method? m = some meth := X.method'
  have hn : narrow .int (.int z) = .int z := rfl
  show Steps p.tables e below (T.setTop { method := m, pc := pc, locals := Ls, stack := _ :: rest, locked := none }) _
  jvm_step X.here [X.here.top, hx, hd, hm', hret, hn]
  first | (intro acts; rw [hl _ acts rfl rfl rfl]) | rw [hl _ _ rfl rfl rfl]
  exact Steps.refl _
theorem own_retL (X : Stand p l e R s m args below meth c T locs cells slots) (hx : p.tables.exec = Jvm.exec) {pc : Nat} {Ls : Array Slot} {z : Int64} {rest : List Value} (hret : meth.sig.returnType = some .long) (hd : decode c.code pc = .ok (.lreturn, 1)) {fs : List Frame}
    (hl : ∀ (f : JFrame) (acts : List Action), f.method = m → f.locked = none → f.entered = [] → (doReturn e (T.setTop f) acts (some (.long z))).1 = T.setFrames fs) : Steps p.tables e below (T.setTop (mkF m pc Ls (.long z :: rest))) (T.setFrames fs) := by
  have hm' : T.vm.method? m = some meth := X.method'
  show Steps p.tables e below (T.setTop { method := m, pc := pc, locals := Ls, stack := _ :: rest, locked := none }) _
  jvm_step X.here [X.here.top, hx, hd, hm', hret, narrow]
  first | (intro acts; rw [hl _ acts rfl rfl rfl]) | rw [hl _ _ rfl rfl rfl]
  exact Steps.refl _
theorem own_retA (X : Stand p l e R s m args below meth c T locs cells slots) (hx : p.tables.exec = Jvm.exec) {pc : Nat} {Ls : Array Slot} {v : Value} {t : FieldType} {rest : List Value} (hret : meth.sig.returnType = some t) (ht : t.isReference = true) (hv : v.isRef = true) (hd : decode c.code pc = .ok (.areturn, 1)) {fs : List Frame}
    (hl : ∀ (f : JFrame) (acts : List Action), f.method = m → f.locked = none → f.entered = [] → (doReturn e (T.setTop f) acts (some v)).1 = T.setFrames fs) : Steps p.tables e below (T.setTop (mkF m pc Ls (v :: rest))) (T.setFrames fs) := by
  have hm' : T.vm.method? m = some meth := X.method'
  show Steps p.tables e below (T.setTop { method := m, pc := pc, locals := Ls, stack := v :: rest, locked := none }) _
  rcases ref_cases hv with rfl | ⟨a, rfl⟩
  all_goals
    jvm_step X.here [X.here.top, hx, hd, hm', hret, ht, Value.isRef]
    first | (intro acts; rw [hl _ acts rfl rfl rfl]) | rw [hl _ _ rfl rfl rfl]
    exact Steps.refl _
def Go (p : Program) (e : Env) (below : List Frame) (P : Outcome → State → Prop) (S : State) : Prop := ∃ s₂ o, Steps p.tables e below S s₂ ∧ s₂.status = .running ∧ Ended s₂ below o ∧ P o s₂
variable {P : Outcome → State → Prop}
theorem Go.by {A B : State} (st : ∀ t, Steps p.tables e below B t → Steps p.tables e below A t) (g : Go p e below P B) : Go p e below P A := by
  obtain ⟨u, o, h1, h2⟩ := g; exact ⟨u, o, st _ h1, h2⟩
theorem Go.tr {A B : State} (st : Steps p.tables e below A B) (g : Go p e below P B) : Go p e below P A := by
  obtain ⟨u, o, h1, h2⟩ := g; exact ⟨u, o, st.trans h1, h2⟩
theorem Go.start {f g : JFrame} (q : f = g) (h : Go p e below P (T.setTop g)) : ∃ s₂ o, Steps p.tables e below (T.setTop f) s₂ ∧ s₂.status = .running ∧ Ended s₂ below o ∧ P o s₂ := q ▸ h
variable {Q : Option Value → Heap → List Loc → Prop} {rc rs : Nat}
theorem Go.retI (X : Stand p l e R s m args below meth c T locs cells slots) (hx : p.tables.exec = Jvm.exec) {pc : Nat} {Ls : Array Slot} {z : Int32} {rest : List Value} (hret : meth.sig.returnType = some .int) (hlk : meth.locks = false) (hd : decode c.code pc = .ok (.ireturn, 1)) (hc : cells ≤ rc) (hs : slots ≤ rs) (hq : Q (some (.int z)) T.heap locs) :
    Go p e below (fun o U' => ∃ v L, o = .returned v ∧ Q v U'.heap L ∧ FrameEnd s o U' L rc rs) (T.setTop (mkF m pc Ls (.int z :: rest))) := by
  obtain ⟨fs, hr, hrun, hended, hW, hsame⟩ := X.leave (v := some (.int z)) (fun h => by rw [hret] at h; cases h) hlk
  exact ⟨_, _, RoadKit.retI X hx hret hd hr, hrun, hended, _, _, rfl, hq, ⟨_, rfl⟩, hW, hsame.mono hc hs⟩
theorem Go.retN (X : Stand p l e R s m args below meth c T locs cells slots) (hx : p.tables.exec = Jvm.exec) {pc : Nat} {Ls : Array Slot} {z : Int32} {t : FieldType} {rest : List Value} (hret : meth.sig.returnType = some t) (ht : t = .boolean ∨ t = .byte ∨ t = .char ∨ t = .short) (hlk : meth.locks = false) (hd : decode c.code pc = .ok (.ireturn, 1)) (hc : cells ≤ rc) (hs : slots ≤ rs) (hq : Q (some (.int (nar t z))) T.heap locs) :
    Go p e below (fun o U' => ∃ v L, o = .returned v ∧ Q v U'.heap L ∧ FrameEnd s o U' L rc rs) (T.setTop (mkF m pc Ls (.int z :: rest))) := by
  obtain ⟨fs, hr, hrun, hended, hW, hsame⟩ := X.leave (v := some (.int (nar t z))) (fun h => by rw [hret] at h; cases h) hlk
  exact ⟨_, _, RoadKit.retN X hx hret ht hd hr, hrun, hended, _, _, rfl, hq, ⟨_, rfl⟩, hW, hsame.mono hc hs⟩
theorem Go.retL (X : Stand p l e R s m args below meth c T locs cells slots) (hx : p.tables.exec = Jvm.exec) {pc : Nat} {Ls : Array Slot} {z : Int64} {rest : List Value} (hret : meth.sig.returnType = some .long) (hlk : meth.locks = false) (hd : decode c.code pc = .ok (.lreturn, 1)) (hc : cells ≤ rc) (hs : slots ≤ rs) (hq : Q (some (.long z)) T.heap locs) :
    Go p e below (fun o U' => ∃ v L, o = .returned v ∧ Q v U'.heap L ∧ FrameEnd s o U' L rc rs) (T.setTop (mkF m pc Ls (.long z :: rest))) := by
  obtain ⟨fs, hr, hrun, hended, hW, hsame⟩ := X.leave (v := some (.long z)) (fun h => by rw [hret] at h; cases h) hlk
  exact ⟨_, _, own_retL X hx hret hd hr, hrun, hended, _, _, rfl, hq, ⟨_, rfl⟩, hW, hsame.mono hc hs⟩
theorem Go.retA (X : Stand p l e R s m args below meth c T locs cells slots) (hx : p.tables.exec = Jvm.exec) {pc : Nat} {Ls : Array Slot} {v : Value} {t : FieldType} {rest : List Value} (hret : meth.sig.returnType = some t) (ht : t.isReference = true) (hv : v.isRef = true) (hlk : meth.locks = false) (hd : decode c.code pc = .ok (.areturn, 1)) (hc : cells ≤ rc) (hs : slots ≤ rs) (hq : Q (some v) T.heap locs) :
    Go p e below (fun o U' => ∃ v L, o = .returned v ∧ Q v U'.heap L ∧ FrameEnd s o U' L rc rs) (T.setTop (mkF m pc Ls (v :: rest))) := by
  obtain ⟨fs, hr, hrun, hended, hW, hsame⟩ := X.leave (v := some v) (fun h => by rw [hret] at h; cases h) hlk
  exact ⟨_, _, own_retA X hx hret ht hv hd hr, hrun, hended, _, _, rfl, hq, ⟨_, rfl⟩, hW, hsame.mono hc hs⟩
theorem Go.ret0 (X : Stand p l e R s m args below meth c T locs cells slots) (hx : p.tables.exec = Jvm.exec) {pc : Nat} {Ls : Array Slot} (hret : meth.sig.returnType = none) (hlk : meth.locks = false) (hd : decode c.code pc = .ok (.return_, 1)) (hc : cells ≤ rc) (hs : slots ≤ rs) (hq : Q none T.heap locs) :
    Go p e below (fun o U' => ∃ v L, o = .returned v ∧ Q v U'.heap L ∧ FrameEnd s o U' L rc rs) (T.setTop (mkF m pc Ls [])) := by
  obtain ⟨fs, hr, hrun, hended, hW, hsame⟩ := X.leave (v := none) (fun _ => rfl) hlk
  exact ⟨_, _, X.returnOut hx hret hd hr, hrun, hended, _, _, rfl, hq, ⟨_, rfl⟩, hW, hsame.mono hc hs⟩
section Wide
variable {vm₁ : Vm} {kS : Nat}
theorem Go.retIW (hS : s.Since vm₁ kS) (hn : kS ≤ T.heap.size) (X : Stand p l e R (s.setVm vm₁) m args below meth c T locs cells slots) (hx : p.tables.exec = Jvm.exec) {pc : Nat} {Ls : Array Slot} {z : Int32} {rest : List Value} (hret : meth.sig.returnType = some .int) (hlk : meth.locks = false) (hd : decode c.code pc = .ok (.ireturn, 1)) (hc : cells ≤ rc) (hs : slots ≤ rs) (hq : Q (some (.int z)) T.heap locs) :
    Go p e below (fun o U' => ∃ v L, o = .returned v ∧ Q v U'.heap L ∧ ReturnedEndW s o U' L rc rs) (T.setTop (mkF m pc Ls (.int z :: rest))) := by
  obtain ⟨fs, hr, hrun, hended, w1, w2, w3, w4⟩ := X.leaveW hS hn (v := some (.int z)) (fun h => by rw [hret] at h; cases h) hlk
  exact ⟨_, _, RoadKit.retI X hx hret hd hr, hrun, hended, _, _, rfl, hq, w1, w2, w3, w4.mono hc hs⟩
theorem Go.retNW (hS : s.Since vm₁ kS) (hn : kS ≤ T.heap.size) (X : Stand p l e R (s.setVm vm₁) m args below meth c T locs cells slots) (hx : p.tables.exec = Jvm.exec) {pc : Nat} {Ls : Array Slot} {z : Int32} {t : FieldType} {rest : List Value} (hret : meth.sig.returnType = some t) (ht : t = .boolean ∨ t = .byte ∨ t = .char ∨ t = .short) (hlk : meth.locks = false) (hd : decode c.code pc = .ok (.ireturn, 1)) (hc : cells ≤ rc) (hs : slots ≤ rs) (hq : Q (some (.int (nar t z))) T.heap locs) :
    Go p e below (fun o U' => ∃ v L, o = .returned v ∧ Q v U'.heap L ∧ ReturnedEndW s o U' L rc rs) (T.setTop (mkF m pc Ls (.int z :: rest))) := by
  obtain ⟨fs, hr, hrun, hended, w1, w2, w3, w4⟩ := X.leaveW hS hn (v := some (.int (nar t z))) (fun h => by rw [hret] at h; cases h) hlk
  exact ⟨_, _, RoadKit.retN X hx hret ht hd hr, hrun, hended, _, _, rfl, hq, w1, w2, w3, w4.mono hc hs⟩
theorem Go.retAW (hS : s.Since vm₁ kS) (hn : kS ≤ T.heap.size) (X : Stand p l e R (s.setVm vm₁) m args below meth c T locs cells slots) (hx : p.tables.exec = Jvm.exec) {pc : Nat} {Ls : Array Slot} {v : Value} {t : FieldType} {rest : List Value} (hret : meth.sig.returnType = some t) (ht : t.isReference = true) (hv : v.isRef = true) (hlk : meth.locks = false) (hd : decode c.code pc = .ok (.areturn, 1)) (hc : cells ≤ rc) (hs : slots ≤ rs) (hq : Q (some v) T.heap locs) :
    Go p e below (fun o U' => ∃ v L, o = .returned v ∧ Q v U'.heap L ∧ ReturnedEndW s o U' L rc rs) (T.setTop (mkF m pc Ls (v :: rest))) := by
  obtain ⟨fs, hr, hrun, hended, w1, w2, w3, w4⟩ := X.leaveW hS hn (v := some v) (fun h => by rw [hret] at h; cases h) hlk
  exact ⟨_, _, own_retA X hx hret ht hv hd hr, hrun, hended, _, _, rfl, hq, w1, w2, w3, w4.mono hc hs⟩
theorem Go.ret0W (hS : s.Since vm₁ kS) (hn : kS ≤ T.heap.size) (X : Stand p l e R (s.setVm vm₁) m args below meth c T locs cells slots) (hx : p.tables.exec = Jvm.exec) {pc : Nat} {Ls : Array Slot} (hret : meth.sig.returnType = none) (hlk : meth.locks = false) (hd : decode c.code pc = .ok (.return_, 1)) (hc : cells ≤ rc) (hs : slots ≤ rs) (hq : Q none T.heap locs) :
    Go p e below (fun o U' => ∃ v L, o = .returned v ∧ Q v U'.heap L ∧ ReturnedEndW s o U' L rc rs) (T.setTop (mkF m pc Ls [])) := by
  obtain ⟨fs, hr, hrun, hended, w1, w2, w3, w4⟩ := X.leaveW hS hn (v := none) (fun _ => rfl) hlk
  exact ⟨_, _, X.returnOut hx hret hd hr, hrun, hended, _, _, rfl, hq, w1, w2, w3, w4.mono hc hs⟩
end Wide
section Held
variable {vm₁ : Vm} {kS : Nat} {Z : State} {a0 : Array Value} {EL : List (String × Nat)} {h0 h h' : Heap} {vm0 : Vm}
theorem own_chE (A : CHr Z EL vm₁ h0 vm0 h) (E : Ext h h') : CHr Z EL vm₁ h0 vm0 h' := A.trans (CHr.ext E A.1)
theorem own_chW {a : Addr} {sl : Nat} {v : Value} (A : CHr Z EL vm₁ h0 vm0 h) (W : Wr h h' a sl v) (S : Safe Z EL vm0 h a) : CHr Z EL vm₁ h0 vm0 h' := A.trans (CHr.wr W S A.1)
theorem own_chK {ws : List Addr} (A : CHr Z EL vm₁ h0 vm0 h) (K : Keep h h' ws) (S : ∀ x ∈ ws, Safe Z EL vm0 h x) : CHr Z EL vm₁ h0 vm0 h' := A.trans (CHr.keep K S A.1)
theorem own_chEnd (X : Stand p l e R (s.setVm vm₁) m args below meth c T locs cells slots) (eT : T.heap = h) (hZ : Z.Warmed39 vm₁) (hEL : EW Z a0 EL) (A : CHr Z EL s.vm h0 vm₁ h) (hh : s.heap = h0) : CHr Z EL s.vm s.heap T.vm T.heap := by
  rw [eT, hh]; exact A.trans (CHv.at X hZ hEL A.1)
theorem Go.retNH (hS : s.Since vm₁ kS) (hn : kS ≤ T.heap.size) (hC : CHr Z EL s.vm s.heap T.vm T.heap) (X : Stand p l e R (s.setVm vm₁) m args below meth c T locs cells slots) (hx : p.tables.exec = Jvm.exec) {pc : Nat} {Ls : Array Slot} {z : Int32} {t : FieldType} {rest : List Value} (hret : meth.sig.returnType = some t) (ht : t = .boolean ∨ t = .byte ∨ t = .char ∨ t = .short) (hlk : meth.locks = false) (hd : decode c.code pc = .ok (.ireturn, 1)) (hc : cells ≤ rc) (hs : slots ≤ rs) (hq : Q (some (.int (nar t z))) T.heap locs) :
    Go p e below (fun o U' => ∃ v L, o = .returned v ∧ Q v U'.heap L ∧ CHr Z EL s.vm s.heap U'.vm U'.heap ∧ ReturnedEndW s o U' L rc rs) (T.setTop (mkF m pc Ls (.int z :: rest))) := by
  obtain ⟨fs, hr, hrun, hended, w1, w2, w3, w4⟩ := X.leaveW hS hn (v := some (.int (nar t z))) (fun h => by rw [hret] at h; cases h) hlk
  exact ⟨_, _, RoadKit.retN X hx hret ht hd hr, hrun, hended, _, _, rfl, hq, hC, w1, w2, w3, w4.mono hc hs⟩
theorem Go.retAH (hS : s.Since vm₁ kS) (hn : kS ≤ T.heap.size) (hC : CHr Z EL s.vm s.heap T.vm T.heap) (X : Stand p l e R (s.setVm vm₁) m args below meth c T locs cells slots) (hx : p.tables.exec = Jvm.exec) {pc : Nat} {Ls : Array Slot} {v : Value} {t : FieldType} {rest : List Value} (hret : meth.sig.returnType = some t) (ht : t.isReference = true) (hv : v.isRef = true) (hlk : meth.locks = false) (hd : decode c.code pc = .ok (.areturn, 1)) (hc : cells ≤ rc) (hs : slots ≤ rs) (hq : Q (some v) T.heap locs) :
    Go p e below (fun o U' => ∃ v L, o = .returned v ∧ Q v U'.heap L ∧ CHr Z EL s.vm s.heap U'.vm U'.heap ∧ ReturnedEndW s o U' L rc rs) (T.setTop (mkF m pc Ls (v :: rest))) := by
  obtain ⟨fs, hr, hrun, hended, w1, w2, w3, w4⟩ := X.leaveW hS hn (v := some v) (fun h => by rw [hret] at h; cases h) hlk
  exact ⟨_, _, own_retA X hx hret ht hv hd hr, hrun, hended, _, _, rfl, hq, hC, w1, w2, w3, w4.mono hc hs⟩
theorem Go.ret0H (hS : s.Since vm₁ kS) (hn : kS ≤ T.heap.size) (hC : CHr Z EL s.vm s.heap T.vm T.heap) (X : Stand p l e R (s.setVm vm₁) m args below meth c T locs cells slots) (hx : p.tables.exec = Jvm.exec) {pc : Nat} {Ls : Array Slot} (hret : meth.sig.returnType = none) (hlk : meth.locks = false) (hd : decode c.code pc = .ok (.return_, 1)) (hc : cells ≤ rc) (hs : slots ≤ rs) (hq : Q none T.heap locs) :
    Go p e below (fun o U' => ∃ v L, o = .returned v ∧ Q v U'.heap L ∧ CHr Z EL s.vm s.heap U'.vm U'.heap ∧ ReturnedEndW s o U' L rc rs) (T.setTop (mkF m pc Ls [])) := by
  obtain ⟨fs, hr, hrun, hended, w1, w2, w3, w4⟩ := X.leaveW hS hn (v := none) (fun _ => rfl) hlk
  exact ⟨_, _, X.returnOut hx hret hd hr, hrun, hended, _, _, rfl, hq, hC, w1, w2, w3, w4.mono hc hs⟩
end Held
theorem own_selP {Z : State} {a0 : Array Value} {y : MethodName} {n : Nat} (hZ : Z.Warmed39 s.vm) (wi : (Cond.instantiable y.cls n).before a0 Z = true) (wp : (Cond.privateMethod y).before a0 Z = true) (wm : (Cond.instanceMethod y).before a0 Z = true) (hy : y.cls ≠ "java/lang/invoke/MethodHandle" ∧ y.cls ≠ "java/lang/invoke/VarHandle") : (Cond.selects y.cls y y).before args s = true := by
  obtain ⟨c, k, h1, h2, h3, h4, -⟩ := Cond.instantiable_spec (show (Cond.instantiable y.cls n).before args s = true from mv hZ wi)
  refine selects_self_of_private h1 h2 ?_ (Cond.privateMethod_at (mvP (args := args) hZ wp)) (mvT hZ wm) hy
  simp only [Bool.or_eq_false_iff] at h4; exact h4.1
theorem own_NSroot {Z : State} {a0 : Array Value} {O K : String} {n : Nat} (w : (Cond.noSuperclass O).before a0 Z = true) (wk : (Cond.instantiable K n).before a0 Z = true) (hn : O ≠ K) : NS Z O K := by
  obtain ⟨c, k, h1, h2, h3, -, -⟩ := Cond.noSuperclass_spec w
  obtain ⟨t, -, g1, -⟩ := Cond.instantiable_spec wk
  have ne := ids_ne h1 g1 hn
  refine ⟨c, t, h1, g1, fun fuel => ?_⟩
  cases fuel with
  | zero => rfl
  | succ f => simp [Vm.isSubclassAux, ne, h2, h3]
theorem own_NSno {Z : State} {a0 : Array Value} {C S K : String} {n : Nat} (w : (Cond.superclass C S).before a0 Z = true) (wk : (Cond.instantiable K n).before a0 Z = true) (ns : NS Z C K) (hn : C ≠ K) : ∃ c t, Z.vm.findClass C = some c ∧ Z.vm.findClass K = some t ∧ Z.vm.assignable c t = false := by
  obtain ⟨c, t, h0, g0, n3⟩ := ns
  obtain ⟨p, k, kp, h1, h2, h3, h4, h5, -, h7⟩ := Cond.superclass_spec h0 w
  obtain ⟨t', kt, g1, g2, g3, g4, -⟩ := Cond.instantiable_spec wk
  cases g0.symm.trans g1
  simp only [Bool.or_eq_false_iff] at g4
  have ne := ids_ne h0 g0 hn
  refine ⟨c, t, h0, g0, ?_⟩
  show Z.vm.assignableAux (255 + 1) c t = false
  simp [Vm.assignableAux, ne, h2, g2, h5, g3, g4.1, Vm.isSubclass, n3]
theorem own_old_size {Z : State} {n0 : Nat} {h : Heap} (O : Old Z n0 h) : n0 ≤ h.size := by rw [← O.1]; exact O.2.1
theorem own_cat1 {v : Value} (h : v.isRef = true) : v.category = 1 := by rcases ref_cases h with rfl | ⟨_, rfl⟩ <;> rfl
end New
end Jvm.RoadKit
namespace Jvm.RoadKit
open Sem ClassFile Op Lib Jvm.Stand Jvm.Free Jvm.LawKit
def own_By (Z : State) (h : Heap) (a : Addr) (z : Int32) : Prop := ∃ k vs, Arv Z h a k .byte z vs (.int (0 : Int32)) ∧ vs.length = z.toNatClampNeg
theorem own_By.lt {Z : State} {h : Heap} {a : Addr} {z : Int32} (F : own_By Z h a z) : a < h.size := by obtain ⟨_, _, A, _⟩ := F; exact A.lt
theorem own_By.ext {Z : State} {h h' : Heap} {a : Addr} {z : Int32} (F : own_By Z h a z) (E : Ext h h') : own_By Z h' a z := by obtain ⟨k, vs, A, q⟩ := F; exact ⟨k, vs, A.ext E, q⟩
theorem own_By.other {Z : State} {h h' : Heap} {a b : Addr} {z : Int32} {sl : Nat} {v : Value} (F : own_By Z h a z) (W : Wr h h' b sl v) (n : a ≠ b) : own_By Z h' a z := by obtain ⟨k, vs, A, q⟩ := F; exact ⟨k, vs, A.other W n, q⟩
theorem own_By.keep {Z : State} {h h' : Heap} {a : Addr} {z : Int32} {ws : List Addr} (F : own_By Z h a z) (K : Keep h h' ws) (n : a ∉ ws) : own_By Z h' a z := by obtain ⟨k, vs, A, q⟩ := F; exact ⟨k, vs, A.keep K n, q⟩
theorem own_By.new {Z : State} {h : Heap} {a : Addr} {z : Int32} {k : ClassId} (A : Arr Z h a (newA k .byte z) .byte) (q : ¬ z < 0) : own_By Z h a z :=
  ⟨k, _, (Arv.new A q).pad (pad_rep [] (.int (0 : Int32)) z.toNatClampNeg), by simp⟩
theorem own_By.copied {Z : State} {h : Heap} {a : Addr} {z sp dp nn : Int32} {k : ClassId} {vd vs : List Value} {dv : Value} (V : Arv Z h a k .byte z (vd.take dp.toNatClampNeg ++ ((List.range nn.toNatClampNeg).map fun i => vs.getD (sp.toNatClampNeg + i) dv) ++ vd.drop (dp.toNatClampNeg + nn.toNatClampNeg)) (.int (0 : Int32))) (l : vd.length = z.toNatClampNeg) (q : dp.toNatClampNeg + nn.toNatClampNeg ≤ z.toNatClampNeg) : own_By Z h a z :=
  ⟨k, _, V, by simp only [List.length_append, List.length_take, List.length_map, List.length_range, List.length_drop]; omega⟩
end Jvm.RoadKit
namespace Jvm.Pilot.@@N@@
open Jvm Jvm.ClassFile Sem Op Lib Jvm.Free Jvm.Stand Jvm.LawKit Jvm.RoadKit Bundle Jvm.Pilot.@@N@@.Jvm.D
def own_sz (v : Int32) : Int32 := if v = 8 then 0 else v
def own_ex (t : Int32) : Int32 := if t = 0 then 0 else 8 + t
def own_mx (x y : Int32) : Int32 := if x < y then y else x
theorem own_sz8 : own_sz (8 : Int32) = (0 : Int32) := by decide
theorem own_cmp (t : Int32) : own_sz ((8 : Int32) + t) = own_ex t := by
  by_cases h : t = 0
  · subst h; decide
  · have g : ¬ (8 + t = (8 : Int32)) := fun q => h (by
      have e := congrArg Int32.toInt q
      have c := c_iadd 8 t
      have r := rng32 t
      have e8 : (8 : Int32).toInt = 8 := rfl
      exact Int32.toInt_inj.mp (by have : (0 : Int32).toInt = 0 := rfl; omega))
    simp [own_sz, own_ex, h, g]
theorem own_mask (x : Int32) : 0 ≤ (x &&& (511 : Int32)).toInt ∧ (x &&& (511 : Int32)).toInt ≤ 511 := by
  have e := c_mask x 511 9 (by decide) (by decide)
  omega
theorem own_mod4 (x : Int32) : (x &&& (3 : Int32)) = (0 : Int32) ∨ (x &&& (3 : Int32)) = (1 : Int32) ∨ (x &&& (3 : Int32)) = (2 : Int32) ∨ (x &&& (3 : Int32)) = (3 : Int32) := by
  have e := c_mask x 3 2 (by decide) (by decide)
  simp only [← Int32.toInt_inj, Int32.reduceToInt]
  omega
theorem own_nn {x : Int32} (h : 0 ≤ x.toInt) : ¬ x < 0 := by rw [Int32.lt_iff_toInt_lt]; have : (0 : Int32).toInt = 0 := rfl; omega
theorem own_nat {x : Int32} (h : 0 ≤ x.toInt) : (x.toNatClampNeg : Int) = x.toInt := by simp only [Int32.toNatClampNeg]; omega
theorem own_add {x y : Int32} (h1 : 0 ≤ x.toInt + y.toInt) (h2 : x.toInt + y.toInt < 4000) : (x + y).toInt = x.toInt + y.toInt := by
  have c := c_iadd x y
  have r := rng32 (x + y)
  omega
theorem own_two {x : Int32} (h1 : 0 ≤ x.toInt) (h2 : x.toInt < 2000) : ((2 : Int32) * x).toInt = 2 * x.toInt := by
  have c := c_imul 2 x
  have r := rng32 (2 * x)
  have e2 : (2 : Int32).toInt = 2 := rfl
  rw [e2] at c
  omega
theorem own_mx_int (x y : Int32) : (own_mx x y).toInt = if x.toInt < y.toInt then y.toInt else x.toInt := by
  unfold own_mx
  by_cases h : x < y
  · rw [if_pos h, if_pos (Int32.lt_iff_toInt_lt.mp h)]
  · rw [if_neg h, if_neg (fun q => h (Int32.lt_iff_toInt_lt.mpr q))]
theorem pn_0 : plainName "java/util/AbstractCollection" = true := by first | (simp [plainName, overriddenIn]; done) | decide +kernel
theorem d5_0 : decode jdk_22_method_1_code 0 = .ok (.aload_n 0, 1) := by decide +kernel
theorem d5_1 : decode jdk_22_method_1_code 1 = .ok (.invokespecial 1, 3) := by decide +kernel
theorem d5_4 : decode jdk_22_method_1_code 4 = .ok (.return_, 1) := by decide +kernel
theorem ef_abc_init (m : MethodId) (ob : Addr) : entryFrame m #[(.ref ob)] 1 = mkF m 0 #[.val (.ref ob)] [] := by first | (simp [entryFrame, mkF, argsToLocals, Value.category]; done) | rfl
def Q_abc_init (Z : State) (ob : Addr) (h0 : Heap) (n0 : Nat) (v : Option Value) (h : Heap) (L : List Loc) : Prop := v = none ∧ Fr n0 L ∧ h = h0
set_option maxRecDepth 65536 in
set_option maxHeartbeats 40000000 in
theorem abc_init (l : Launch) (Z : State) (a0 : Array Value) (hw : ∀ d ∈ tables_1, d.before a0 Z = true) (ws : List Jvm.Cond) (ob : Addr) (h0 : Heap) (n0 : Nat) (O0 : Old Z n0 h0) :
    MetFree l (⟨"java/util/AbstractCollection", "<init>", "()V"⟩ : MethodName) (head1 (Jvm.Cond.code (⟨"java/util/AbstractCollection", "<init>", "()V"⟩ : MethodName) jdk_22_method_1_code 1 none :: ws) ({ frames := 1, cells := 0, slots := 0, locals := 12 } : Room)) (fun a U => a = #[(.ref ob)] ∧ Z.Warmed39 U.vm ∧ U.heap = h0) (fun _ _ _ _ _ => True) (fun _ U o U' => ∃ v L, o = .returned v ∧ Q_abc_init Z ob h0 n0 v U'.heap L ∧ FrameEnd U o U' L ({ frames := 1, cells := 0, slots := 0, locals := 12 } : Room).cells ({ frames := 1, cells := 0, slots := 0, locals := 12 } : Room).slots) := by
  refine MetFree.of_bodySF (plainFor_of_name pn_0) hisR ?_
  intro p e s m args below meth c s₁ Bd hml0 hP hK
  obtain ⟨rfl, hZ, hh⟩ := hP
  have hx := Bd.exec
  have hby := Bd.bytes
  have hml : c.maxLocals = 1 := hml0
  have hown : s.vm.findClass "java/util/AbstractCollection" = some m.cls := findClass_of_methodNamed Bd.named
  have hnm := (name_of_methodNamed Bd.named Bd.method).1
  have hlk := BodyLoose.notSynchronized Bd
  have X0 : Stand p l e ({ frames := 1, cells := 0, slots := 0, locals := 12 } : Room) s m #[(.ref ob)] below meth c s₁ [] 0 0 := Stand.of_body Bd
  have e0 : s₁.heap = h0 := by rw [← hh, Bd.state]; rfl
  have N0 := Fr.nil n0
  refine Go.start (P := fun o U' => ∃ v L, o = .returned v ∧ Q_abc_init Z ob h0 n0 v U'.heap L ∧ FrameEnd s o U' L ({ frames := 1, cells := 0, slots := 0, locals := 12 } : Room).cells ({ frames := 1, cells := 0, slots := 0, locals := 12 } : Room).slots) (ef_abc_init m ob) ?_
  show Go p e below _ (s₁.setTop (mkF m 0 #[.val (.ref ob)] []))
  refine Go.by (fun t k => XS.aloadN X0.here hx rfl (hb hby d5_0) rfl rfl k) ?_
  show Go p e below _ (s₁.setTop (mkF m 1 #[.val (.ref ob)] [(.ref ob)]))
  obtain ⟨T1, X1, e1, st1⟩ := initO X0 hx hZ hown (hw _ (List.mem_of_getElem? (i := 28) rfl)) (hw _ (List.mem_of_getElem? (i := 8) rfl)) (hw _ (List.mem_of_getElem? (i := 9) rfl)) e0 (g := (mkF m 1 #[.val (.ref ob)] [(.ref ob)])) rfl (by rw [hml]; rfl) rfl (hb hby d5_1) (by decide) (W := 0) (by show 2 * 0 + _ ≤ _; exact Nat.le_of_eq rfl) (by decide)
  refine Go.by st1 ?_
  show Go p e below _ (T1.setTop (mkF m 4 #[.val (.ref ob)] []))
  have hq : Q_abc_init Z ob h0 n0 none h0 _ := ⟨rfl, N0, rfl⟩
  exact Go.ret0 X1 hx Bd.returns hlk (hb hby d5_4) (by decide) (by decide) (by rw [e1]; exact hq)
theorem pn_1 : plainName "java/util/AbstractList" = true := by first | (simp [plainName, overriddenIn]; done) | decide +kernel
theorem d4_0 : decode jdk_39_method_1_code 0 = .ok (.aload_n 0, 1) := by decide +kernel
theorem d4_1 : decode jdk_39_method_1_code 1 = .ok (.invokespecial 1, 3) := by decide +kernel
theorem pd_0 : parseMethodDescriptor "()V" = some ⟨[], none⟩ := by decide +kernel
theorem d4_4 : decode jdk_39_method_1_code 4 = .ok (.aload_n 0, 1) := by decide +kernel
theorem d4_5 : decode jdk_39_method_1_code 5 = .ok (.iconst 0, 1) := by decide +kernel
theorem d4_6 : decode jdk_39_method_1_code 6 = .ok (.putfield 7, 3) := by decide +kernel
theorem d4_9 : decode jdk_39_method_1_code 9 = .ok (.return_, 1) := by decide +kernel
theorem ef_abl_init (m : MethodId) (ob : Addr) : entryFrame m #[(.ref ob)] 1 = mkF m 0 #[.val (.ref ob)] [] := by first | (simp [entryFrame, mkF, argsToLocals, Value.category]; done) | rfl
def Q_abl_init (Z : State) (ob : Addr) (h0 : Heap) (n0 : Nat) (v : Option Value) (h : Heap) (L : List Loc) : Prop := v = none ∧ Fr n0 L ∧ Keep h0 h [ob] ∧ Exa Z h ob "java/util/ArrayList" ∧ Fld Z h ob "java/util/AbstractList" "modCount" "I" (.int (0 : Int32)) ∧ Fld Z h ob "java/util/ArrayList" "elementData" "[Ljava/lang/Object;" .null
set_option maxRecDepth 65536 in
set_option maxHeartbeats 40000000 in
theorem abl_init (l : Launch) (Z : State) (a0 : Array Value) (hw : ∀ d ∈ tables_1, d.before a0 Z = true) (ws : List Jvm.Cond) (ob : Addr) (h0 : Heap) (n0 : Nat) (O0 : Old Z n0 h0) (P0 : Exa Z h0 ob "java/util/ArrayList") (P1 : Fld Z h0 ob "java/util/AbstractList" "modCount" "I" (.int (0 : Int32))) (P2 : Fld Z h0 ob "java/util/ArrayList" "elementData" "[Ljava/lang/Object;" .null) (gob : n0 ≤ ob) :
    MetFree l (⟨"java/util/AbstractList", "<init>", "()V"⟩ : MethodName) (head1 (Jvm.Cond.code (⟨"java/util/AbstractList", "<init>", "()V"⟩ : MethodName) jdk_39_method_1_code 1 none :: ws) ({ frames := 2, cells := 0, slots := 0, locals := 24 } : Room)) (fun a U => a = #[(.ref ob)] ∧ Z.Warmed39 U.vm ∧ U.heap = h0) (fun _ _ _ _ _ => True) (fun _ U o U' => ∃ v L, o = .returned v ∧ Q_abl_init Z ob h0 n0 v U'.heap L ∧ FrameEnd U o U' L ({ frames := 2, cells := 0, slots := 0, locals := 24 } : Room).cells ({ frames := 2, cells := 0, slots := 0, locals := 24 } : Room).slots) := by
  refine MetFree.of_bodySF (plainFor_of_name pn_1) hisR ?_
  intro p e s m args below meth c s₁ Bd hml0 hP hK
  obtain ⟨rfl, hZ, hh⟩ := hP
  have hx := Bd.exec
  have hby := Bd.bytes
  have hml : c.maxLocals = 1 := hml0
  have hown : s.vm.findClass "java/util/AbstractList" = some m.cls := findClass_of_methodNamed Bd.named
  have hnm := (name_of_methodNamed Bd.named Bd.method).1
  have hlk := BodyLoose.notSynchronized Bd
  have X0 : Stand p l e ({ frames := 2, cells := 0, slots := 0, locals := 24 } : Room) s m #[(.ref ob)] below meth c s₁ [] 0 0 := Stand.of_body Bd
  have e0 : s₁.heap = h0 := by rw [← hh, Bd.state]; rfl
  have N0 := Fr.nil n0
  refine Go.start (P := fun o U' => ∃ v L, o = .returned v ∧ Q_abl_init Z ob h0 n0 v U'.heap L ∧ FrameEnd s o U' L ({ frames := 2, cells := 0, slots := 0, locals := 24 } : Room).cells ({ frames := 2, cells := 0, slots := 0, locals := 24 } : Room).slots) (ef_abl_init m ob) ?_
  show Go p e below _ (s₁.setTop (mkF m 0 #[.val (.ref ob)] []))
  refine Go.by (fun t k => XS.aloadN X0.here hx rfl (hb hby d4_0) rfl rfl k) ?_
  show Go p e below _ (s₁.setTop (mkF m 1 #[.val (.ref ob)] [(.ref ob)]))
  obtain ⟨_, _, ⟨T1, L1, k1, n1⟩, -, X1, ⟨Lc1, hQ1, l1, y1, z1⟩, st1⟩ := X0.specialBack hx (y := (⟨"java/util/AbstractCollection", "<init>", "()V"⟩ : MethodName)) rfl hown (mvT hZ (hw _ (List.mem_of_getElem? (i := 22) rfl))) (mvT hZ (hw _ (List.mem_of_getElem? (i := 23) rfl))) (mvT hZ (hw _ (List.mem_of_getElem? (i := 27) rfl))) (by decide) (backOf (W := 0) (abc_init l Z a0 hw [] ob h0 n0 O0) hZ (hw _ (List.mem_of_getElem? (i := 27) rfl)) (hw _ (List.mem_of_getElem? (i := 26) rfl)) (by decide) (by decide)) (g := (mkF m 1 #[.val (.ref ob)] [(.ref ob)])) rfl (by rw [hml]; rfl) (Steps.refl _) (a := ob) (argsL := []) (rest := []) (lenOf pd_0 rfl) rfl (by show 2 * 0 + _ ≤ _; exact Nat.le_of_eq rfl) (hb hby d4_1) (fun _ _ => ⟨rfl, e0, (by decide : 0 + 0 ≤ _), (by decide : 0 + 0 ≤ _)⟩)
  dsimp only [Pt.U, Pt.locs, Pt.cells, Pt.slots] at X1 l1 y1 z1 st1 hQ1
  subst l1 y1 z1
  obtain ⟨rfl, N1q, e1⟩ := hQ1
  have N1 := Fr.app N0 N1q
  refine Go.tr st1 ?_
  show Go p e below _ (T1.setTop (mkF m 4 #[.val (.ref ob)] []))
  refine Go.by (fun t k => XS.aloadN X1.here hx rfl (hb hby d4_4) rfl rfl k) ?_
  show Go p e below _ (T1.setTop (mkF m 5 #[.val (.ref ob)] [(.ref ob)]))
  refine Go.by (fun t k => XS.iconst X1.here hx rfl (hb hby d4_5) k) ?_
  show Go p e below _ (T1.setTop (mkF m 6 #[.val (.ref ob)] [(.int (0 : Int32)), (.ref ob)]))
  obtain ⟨T2, h2, X2, e2, W2, st2⟩ := putF X1 hx hZ hown (host := "") (Or.inl (hw _ (List.mem_of_getElem? (i := 29) rfl))) Via.refl e1 P1 P0 (Or.inl (hw _ (List.mem_of_getElem? (i := 30) rfl))) (hw _ (List.mem_of_getElem? (i := 11) rfl)) (ty := .int) (by decide) rfl rfl (g := (mkF m 6 #[.val (.ref ob)] [(.int (0 : Int32)), (.ref ob)])) rfl rfl (hb hby d4_6)
  have N2 := Fr.snoc X2 N1 gob
  have F3 : Fld Z h2 ob "java/util/AbstractList" "modCount" "I" (.int (0 : Int32)) := P1.same W2
  refine Go.by st2 ?_
  show Go p e below _ (T2.setTop (mkF m 9 #[.val (.ref ob)] []))
  have F4 : Keep h0 h2 [ob] := ((Keep.refl h0 [ob]).wr W2 (Or.inl (List.mem_of_getElem? (i := 0) rfl)))
  have F5 : Exa Z h2 ob "java/util/ArrayList" := (P0.wr W2)
  have F6 : Fld Z h2 ob "java/util/ArrayList" "elementData" "[Ljava/lang/Object;" .null := (P2.other W2 (Or.inr (slot_ne (Or.inl (hw _ (List.mem_of_getElem? (i := 33) rfl))) (Or.inl (hw _ (List.mem_of_getElem? (i := 30) rfl))) (by decide) (t := (.array (.object "java/lang/Object"))) (t' := .int) (by decide) (by decide))))
  have hq : Q_abl_init Z ob h0 n0 none h2 _ := ⟨rfl, N2, F4, F5, F3, F6⟩
  exact Go.ret0 X2 hx Bd.returns hlk (hb hby d4_9) (by decide) (by decide) (by rw [e2]; exact hq)
theorem pn_2 : plainName "java/util/ArrayList" = true := by first | (simp [plainName, overriddenIn]; done) | decide +kernel
theorem d3_0 : decode jdk_38_method_2_code 0 = .ok (.aload_n 0, 1) := by decide +kernel
theorem d3_1 : decode jdk_38_method_2_code 1 = .ok (.invokespecial 1, 3) := by decide +kernel
theorem d3_4 : decode jdk_38_method_2_code 4 = .ok (.aload_n 0, 1) := by decide +kernel
theorem d3_5 : decode jdk_38_method_2_code 5 = .ok (.getstatic 39, 3) := by decide +kernel
theorem d3_8 : decode jdk_38_method_2_code 8 = .ok (.putfield 9, 3) := by decide +kernel
theorem d3_11 : decode jdk_38_method_2_code 11 = .ok (.return_, 1) := by decide +kernel
theorem ef_al_init (m : MethodId) (ob : Addr) : entryFrame m #[(.ref ob)] 1 = mkF m 0 #[.val (.ref ob)] [] := by first | (simp [entryFrame, mkF, argsToLocals, Value.category]; done) | rfl
def Q_al_init (Z : State) (ob : Addr) (em : Addr) (h0 : Heap) (n0 : Nat) (v : Option Value) (h : Heap) (L : List Loc) : Prop := v = none ∧ Fr n0 L ∧ Keep h0 h [ob] ∧ Exa Z h ob "java/util/ArrayList"
set_option maxRecDepth 65536 in
set_option maxHeartbeats 40000000 in
theorem al_init (l : Launch) (Z : State) (a0 : Array Value) (hw : ∀ d ∈ tables_1, d.before a0 Z = true) (ws : List Jvm.Cond) (ob : Addr) (em : Addr) (h0 : Heap) (n0 : Nat) (O0 : Old Z n0 h0) (P0 : Sta Z Z.heap "java/util/ArrayList" "DEFAULTCAPACITY_EMPTY_ELEMENTDATA" "[Ljava/lang/Object;" (.ref em)) (P1 : Exa Z h0 ob "java/util/ArrayList") (P2 : Fld Z h0 ob "java/util/AbstractList" "modCount" "I" (.int (0 : Int32))) (P3 : Fld Z h0 ob "java/util/ArrayList" "elementData" "[Ljava/lang/Object;" .null) (gob : n0 ≤ ob) :
    MetFree l (⟨"java/util/ArrayList", "<init>", "()V"⟩ : MethodName) (head1 (Jvm.Cond.code (⟨"java/util/ArrayList", "<init>", "()V"⟩ : MethodName) jdk_38_method_2_code 1 none :: ws) ({ frames := 3, cells := 0, slots := 0, locals := 36 } : Room)) (fun a U => a = #[(.ref ob)] ∧ Z.Warmed39 U.vm ∧ U.heap = h0) (fun _ _ _ _ _ => True) (fun _ U o U' => ∃ v L, o = .returned v ∧ Q_al_init Z ob em h0 n0 v U'.heap L ∧ FrameEnd U o U' L ({ frames := 3, cells := 0, slots := 0, locals := 36 } : Room).cells ({ frames := 3, cells := 0, slots := 0, locals := 36 } : Room).slots) := by
  refine MetFree.of_bodySF (plainFor_of_name pn_2) hisR ?_
  intro p e s m args below meth c s₁ Bd hml0 hP hK
  obtain ⟨rfl, hZ, hh⟩ := hP
  have hx := Bd.exec
  have hby := Bd.bytes
  have hml : c.maxLocals = 1 := hml0
  have hown : s.vm.findClass "java/util/ArrayList" = some m.cls := findClass_of_methodNamed Bd.named
  have hnm := (name_of_methodNamed Bd.named Bd.method).1
  have hlk := BodyLoose.notSynchronized Bd
  have X0 : Stand p l e ({ frames := 3, cells := 0, slots := 0, locals := 36 } : Room) s m #[(.ref ob)] below meth c s₁ [] 0 0 := Stand.of_body Bd
  have e0 : s₁.heap = h0 := by rw [← hh, Bd.state]; rfl
  have N0 := Fr.nil n0
  refine Go.start (P := fun o U' => ∃ v L, o = .returned v ∧ Q_al_init Z ob em h0 n0 v U'.heap L ∧ FrameEnd s o U' L ({ frames := 3, cells := 0, slots := 0, locals := 36 } : Room).cells ({ frames := 3, cells := 0, slots := 0, locals := 36 } : Room).slots) (ef_al_init m ob) ?_
  show Go p e below _ (s₁.setTop (mkF m 0 #[.val (.ref ob)] []))
  refine Go.by (fun t k => XS.aloadN X0.here hx rfl (hb hby d3_0) rfl rfl k) ?_
  show Go p e below _ (s₁.setTop (mkF m 1 #[.val (.ref ob)] [(.ref ob)]))
  obtain ⟨_, _, ⟨T1, L1, k1, n1⟩, -, X1, ⟨Lc1, hQ1, l1, y1, z1⟩, st1⟩ := X0.specialBack hx (y := (⟨"java/util/AbstractList", "<init>", "()V"⟩ : MethodName)) rfl hown (mvT hZ (hw _ (List.mem_of_getElem? (i := 16) rfl))) (mvT hZ (hw _ (List.mem_of_getElem? (i := 17) rfl))) (mvT hZ (hw _ (List.mem_of_getElem? (i := 21) rfl))) (by decide) (backOf (W := 0) (abl_init l Z a0 hw [] ob h0 n0 O0 P1 P2 P3 gob) hZ (hw _ (List.mem_of_getElem? (i := 21) rfl)) (hw _ (List.mem_of_getElem? (i := 20) rfl)) (by decide) (by decide)) (g := (mkF m 1 #[.val (.ref ob)] [(.ref ob)])) rfl (by rw [hml]; rfl) (Steps.refl _) (a := ob) (argsL := []) (rest := []) (lenOf pd_0 rfl) rfl (by show 2 * 0 + _ ≤ _; exact Nat.le_of_eq rfl) (hb hby d3_1) (fun _ _ => ⟨rfl, e0, (by decide : 0 + 0 ≤ _), (by decide : 0 + 0 ≤ _)⟩)
  dsimp only [Pt.U, Pt.locs, Pt.cells, Pt.slots] at X1 l1 y1 z1 st1 hQ1
  subst l1 y1 z1
  obtain ⟨rfl, N1q, K1, F1_0, F1_1, F1_2⟩ := hQ1
  have N1 := Fr.app N0 N1q
  refine Go.tr st1 ?_
  show Go p e below _ (T1.setTop (mkF m 4 #[.val (.ref ob)] []))
  refine Go.by (fun t k => XS.aloadN X1.here hx rfl (hb hby d3_4) rfl rfl k) ?_
  show Go p e below _ (T1.setTop (mkF m 5 #[.val (.ref ob)] [(.ref ob)]))
  have F3 : Old Z n0 T1.heap := (O0.keep K1 (allS gob all0))
  have F2 : Sta Z T1.heap "java/util/ArrayList" "DEFAULTCAPACITY_EMPTY_ELEMENTDATA" "[Ljava/lang/Object;" (.ref em) := P0.ext F3.2
  obtain ⟨T4, X4, e4, st4⟩ := getS2 X1 hx hZ hown (host := "") (Or.inl (hw _ (List.mem_of_getElem? (i := 31) rfl))) Via.refl rfl F2 (g := (mkF m 5 #[.val (.ref ob)] [(.ref ob)])) rfl (hb hby d3_5)
  refine Go.by st4 ?_
  show Go p e below _ (T4.setTop (mkF m 8 #[.val (.ref ob)] [(.ref em), (.ref ob)]))
  obtain ⟨T5, h5, X5, e5, W5, st5⟩ := putF X4 hx hZ hown (host := "") (Or.inl (hw _ (List.mem_of_getElem? (i := 32) rfl))) Via.refl e4 F1_2 F1_0 (Or.inl (hw _ (List.mem_of_getElem? (i := 33) rfl))) (hw _ (List.mem_of_getElem? (i := 11) rfl)) (ty := (.array (.object "java/lang/Object"))) (by decide) rfl rfl (g := (mkF m 8 #[.val (.ref ob)] [(.ref em), (.ref ob)])) rfl rfl (hb hby d3_8)
  have N5 := Fr.snoc X5 N1 gob
  have F6 : Fld Z h5 ob "java/util/ArrayList" "elementData" "[Ljava/lang/Object;" (.ref em) := F1_2.same W5
  refine Go.by st5 ?_
  show Go p e below _ (T5.setTop (mkF m 11 #[.val (.ref ob)] []))
  have F7 : Keep h0 h5 [ob] := (((Keep.refl h0 [ob]).trans K1 (allS (Or.inl (List.mem_of_getElem? (i := 0) rfl)) all0)).wr W5 (Or.inl (List.mem_of_getElem? (i := 0) rfl)))
  have F8 : Exa Z h5 ob "java/util/ArrayList" := (F1_0.wr W5)
  have hq : Q_al_init Z ob em h0 n0 none h5 _ := ⟨rfl, N5, F7, F8⟩
  exact Go.ret0 X5 hx Bd.returns hlk (hb hby d3_11) (by decide) (by decide) (by rw [e5]; exact hq)
theorem pn_3 : plainName "java/util/AbstractMap" = true := by first | (simp [plainName, overriddenIn]; done) | decide +kernel
theorem d7_0 : decode jdk_71_method_1_code 0 = .ok (.aload_n 0, 1) := by decide +kernel
theorem d7_1 : decode jdk_71_method_1_code 1 = .ok (.invokespecial 1, 3) := by decide +kernel
theorem d7_4 : decode jdk_71_method_1_code 4 = .ok (.return_, 1) := by decide +kernel
theorem ef_am_init (m : MethodId) (ob : Addr) : entryFrame m #[(.ref ob)] 1 = mkF m 0 #[.val (.ref ob)] [] := by first | (simp [entryFrame, mkF, argsToLocals, Value.category]; done) | rfl
def Q_am_init (Z : State) (ob : Addr) (h0 : Heap) (n0 : Nat) (v : Option Value) (h : Heap) (L : List Loc) : Prop := v = none ∧ Fr n0 L ∧ h = h0
set_option maxRecDepth 65536 in
set_option maxHeartbeats 40000000 in
theorem am_init (l : Launch) (Z : State) (a0 : Array Value) (hw : ∀ d ∈ tables_1, d.before a0 Z = true) (ws : List Jvm.Cond) (ob : Addr) (h0 : Heap) (n0 : Nat) (O0 : Old Z n0 h0) :
    MetFree l (⟨"java/util/AbstractMap", "<init>", "()V"⟩ : MethodName) (head1 (Jvm.Cond.code (⟨"java/util/AbstractMap", "<init>", "()V"⟩ : MethodName) jdk_71_method_1_code 1 none :: ws) ({ frames := 1, cells := 0, slots := 0, locals := 12 } : Room)) (fun a U => a = #[(.ref ob)] ∧ Z.Warmed39 U.vm ∧ U.heap = h0) (fun _ _ _ _ _ => True) (fun _ U o U' => ∃ v L, o = .returned v ∧ Q_am_init Z ob h0 n0 v U'.heap L ∧ FrameEnd U o U' L ({ frames := 1, cells := 0, slots := 0, locals := 12 } : Room).cells ({ frames := 1, cells := 0, slots := 0, locals := 12 } : Room).slots) := by
  refine MetFree.of_bodySF (plainFor_of_name pn_3) hisR ?_
  intro p e s m args below meth c s₁ Bd hml0 hP hK
  obtain ⟨rfl, hZ, hh⟩ := hP
  have hx := Bd.exec
  have hby := Bd.bytes
  have hml : c.maxLocals = 1 := hml0
  have hown : s.vm.findClass "java/util/AbstractMap" = some m.cls := findClass_of_methodNamed Bd.named
  have hnm := (name_of_methodNamed Bd.named Bd.method).1
  have hlk := BodyLoose.notSynchronized Bd
  have X0 : Stand p l e ({ frames := 1, cells := 0, slots := 0, locals := 12 } : Room) s m #[(.ref ob)] below meth c s₁ [] 0 0 := Stand.of_body Bd
  have e0 : s₁.heap = h0 := by rw [← hh, Bd.state]; rfl
  have N0 := Fr.nil n0
  refine Go.start (P := fun o U' => ∃ v L, o = .returned v ∧ Q_am_init Z ob h0 n0 v U'.heap L ∧ FrameEnd s o U' L ({ frames := 1, cells := 0, slots := 0, locals := 12 } : Room).cells ({ frames := 1, cells := 0, slots := 0, locals := 12 } : Room).slots) (ef_am_init m ob) ?_
  show Go p e below _ (s₁.setTop (mkF m 0 #[.val (.ref ob)] []))
  refine Go.by (fun t k => XS.aloadN X0.here hx rfl (hb hby d7_0) rfl rfl k) ?_
  show Go p e below _ (s₁.setTop (mkF m 1 #[.val (.ref ob)] [(.ref ob)]))
  obtain ⟨T1, X1, e1, st1⟩ := initO X0 hx hZ hown (hw _ (List.mem_of_getElem? (i := 48) rfl)) (hw _ (List.mem_of_getElem? (i := 8) rfl)) (hw _ (List.mem_of_getElem? (i := 9) rfl)) e0 (g := (mkF m 1 #[.val (.ref ob)] [(.ref ob)])) rfl (by rw [hml]; rfl) rfl (hb hby d7_1) (by decide) (W := 0) (by show 2 * 0 + _ ≤ _; exact Nat.le_of_eq rfl) (by decide)
  refine Go.by st1 ?_
  show Go p e below _ (T1.setTop (mkF m 4 #[.val (.ref ob)] []))
  have hq : Q_am_init Z ob h0 n0 none h0 _ := ⟨rfl, N0, rfl⟩
  exact Go.ret0 X1 hx Bd.returns hlk (hb hby d7_4) (by decide) (by decide) (by rw [e1]; exact hq)
theorem pn_4 : plainName "java/util/HashMap" = true := by first | (simp [plainName, overriddenIn]; done) | decide +kernel
theorem d6_0 : decode jdk_69_method_7_code 0 = .ok (.aload_n 0, 1) := by decide +kernel
theorem d6_1 : decode jdk_69_method_7_code 1 = .ok (.invokespecial 43, 3) := by decide +kernel
theorem d6_4 : decode jdk_69_method_7_code 4 = .ok (.aload_n 0, 1) := by decide +kernel
theorem d6_5 : decode jdk_69_method_7_code 5 = .ok (.ldc 92, 2) := by decide +kernel
theorem d6_7 : decode jdk_69_method_7_code 7 = .ok (.putfield 81, 3) := by decide +kernel
theorem d6_10 : decode jdk_69_method_7_code 10 = .ok (.return_, 1) := by decide +kernel
theorem ef_hm_init (m : MethodId) (ob : Addr) : entryFrame m #[(.ref ob)] 1 = mkF m 0 #[.val (.ref ob)] [] := by first | (simp [entryFrame, mkF, argsToLocals, Value.category]; done) | rfl
def Q_hm_init (Z : State) (ob : Addr) (h0 : Heap) (n0 : Nat) (v : Option Value) (h : Heap) (L : List Loc) : Prop := v = none ∧ Fr n0 L ∧ Keep h0 h [ob] ∧ Exa Z h ob "java/util/HashMap"
set_option maxRecDepth 65536 in
set_option maxHeartbeats 40000000 in
theorem hm_init (l : Launch) (Z : State) (a0 : Array Value) (hw : ∀ d ∈ tables_1, d.before a0 Z = true) (ws : List Jvm.Cond) (ob : Addr) (h0 : Heap) (n0 : Nat) (O0 : Old Z n0 h0) (P0 : Exa Z h0 ob "java/util/HashMap") (P1 : Fld Z h0 ob "java/util/HashMap" "loadFactor" "F" (.float (0 : UInt32))) (gob : n0 ≤ ob) :
    MetFree l (⟨"java/util/HashMap", "<init>", "()V"⟩ : MethodName) (head1 (Jvm.Cond.code (⟨"java/util/HashMap", "<init>", "()V"⟩ : MethodName) jdk_69_method_7_code 1 none :: ws) ({ frames := 2, cells := 0, slots := 0, locals := 24 } : Room)) (fun a U => a = #[(.ref ob)] ∧ Z.Warmed39 U.vm ∧ U.heap = h0) (fun _ _ _ _ _ => True) (fun _ U o U' => ∃ v L, o = .returned v ∧ Q_hm_init Z ob h0 n0 v U'.heap L ∧ FrameEnd U o U' L ({ frames := 2, cells := 0, slots := 0, locals := 24 } : Room).cells ({ frames := 2, cells := 0, slots := 0, locals := 24 } : Room).slots) := by
  refine MetFree.of_bodySF (plainFor_of_name pn_4) hisR ?_
  intro p e s m args below meth c s₁ Bd hml0 hP hK
  obtain ⟨rfl, hZ, hh⟩ := hP
  have hx := Bd.exec
  have hby := Bd.bytes
  have hml : c.maxLocals = 1 := hml0
  have hown : s.vm.findClass "java/util/HashMap" = some m.cls := findClass_of_methodNamed Bd.named
  have hnm := (name_of_methodNamed Bd.named Bd.method).1
  have hlk := BodyLoose.notSynchronized Bd
  have X0 : Stand p l e ({ frames := 2, cells := 0, slots := 0, locals := 24 } : Room) s m #[(.ref ob)] below meth c s₁ [] 0 0 := Stand.of_body Bd
  have e0 : s₁.heap = h0 := by rw [← hh, Bd.state]; rfl
  have N0 := Fr.nil n0
  refine Go.start (P := fun o U' => ∃ v L, o = .returned v ∧ Q_hm_init Z ob h0 n0 v U'.heap L ∧ FrameEnd s o U' L ({ frames := 2, cells := 0, slots := 0, locals := 24 } : Room).cells ({ frames := 2, cells := 0, slots := 0, locals := 24 } : Room).slots) (ef_hm_init m ob) ?_
  show Go p e below _ (s₁.setTop (mkF m 0 #[.val (.ref ob)] []))
  refine Go.by (fun t k => XS.aloadN X0.here hx rfl (hb hby d6_0) rfl rfl k) ?_
  show Go p e below _ (s₁.setTop (mkF m 1 #[.val (.ref ob)] [(.ref ob)]))
  obtain ⟨_, _, ⟨T1, L1, k1, n1⟩, -, X1, ⟨Lc1, hQ1, l1, y1, z1⟩, st1⟩ := X0.specialBack hx (y := (⟨"java/util/AbstractMap", "<init>", "()V"⟩ : MethodName)) rfl hown (mvT hZ (hw _ (List.mem_of_getElem? (i := 42) rfl))) (mvT hZ (hw _ (List.mem_of_getElem? (i := 43) rfl))) (mvT hZ (hw _ (List.mem_of_getElem? (i := 47) rfl))) (by decide) (backOf (W := 0) (am_init l Z a0 hw [] ob h0 n0 O0) hZ (hw _ (List.mem_of_getElem? (i := 47) rfl)) (hw _ (List.mem_of_getElem? (i := 46) rfl)) (by decide) (by decide)) (g := (mkF m 1 #[.val (.ref ob)] [(.ref ob)])) rfl (by rw [hml]; rfl) (Steps.refl _) (a := ob) (argsL := []) (rest := []) (lenOf pd_0 rfl) rfl (by show 2 * 0 + _ ≤ _; exact Nat.le_of_eq rfl) (hb hby d6_1) (fun _ _ => ⟨rfl, e0, (by decide : 0 + 0 ≤ _), (by decide : 0 + 0 ≤ _)⟩)
  dsimp only [Pt.U, Pt.locs, Pt.cells, Pt.slots] at X1 l1 y1 z1 st1 hQ1
  subst l1 y1 z1
  obtain ⟨rfl, N1q, e1⟩ := hQ1
  have N1 := Fr.app N0 N1q
  refine Go.tr st1 ?_
  show Go p e below _ (T1.setTop (mkF m 4 #[.val (.ref ob)] []))
  refine Go.by (fun t k => XS.aloadN X1.here hx rfl (hb hby d6_4) rfl rfl k) ?_
  show Go p e below _ (T1.setTop (mkF m 5 #[.val (.ref ob)] [(.ref ob)]))
  refine Go.by (fun t k => X1.ldcFloatC hx hown (mvT hZ (hw _ (List.mem_of_getElem? (i := 49) rfl))) (g := (mkF m 5 #[.val (.ref ob)] [(.ref ob)])) rfl (hb hby d6_5) t k) ?_
  show Go p e below _ (T1.setTop (mkF m 7 #[.val (.ref ob)] [(.float (1061158912 : UInt32)), (.ref ob)]))
  obtain ⟨T2, h2, X2, e2, W2, st2⟩ := putF X1 hx hZ hown (host := "") (Or.inl (hw _ (List.mem_of_getElem? (i := 50) rfl))) Via.refl e1 P1 P0 (Or.inr ⟨(hw _ (List.mem_of_getElem? (i := 51) rfl)), rfl, hnm⟩) (hw _ (List.mem_of_getElem? (i := 37) rfl)) (ty := .float) (by decide) rfl rfl (g := (mkF m 7 #[.val (.ref ob)] [(.float (1061158912 : UInt32)), (.ref ob)])) rfl rfl (hb hby d6_7)
  have N2 := Fr.snoc X2 N1 gob
  have F3 : Fld Z h2 ob "java/util/HashMap" "loadFactor" "F" (.float (1061158912 : UInt32)) := P1.same W2
  refine Go.by st2 ?_
  show Go p e below _ (T2.setTop (mkF m 10 #[.val (.ref ob)] []))
  have F4 : Keep h0 h2 [ob] := ((Keep.refl h0 [ob]).wr W2 (Or.inl (List.mem_of_getElem? (i := 0) rfl)))
  have F5 : Exa Z h2 ob "java/util/HashMap" := (P0.wr W2)
  have hq : Q_hm_init Z ob h0 n0 none h2 _ := ⟨rfl, N2, F4, F5⟩
  exact Go.ret0 X2 hx Bd.returns hlk (hb hby d6_10) (by decide) (by decide) (by rw [e2]; exact hq)
theorem pn_5 : plainName "com/example/whole_commit/wholecommit/Batch" = true := by first | (simp [plainName, overriddenIn]; done) | decide +kernel
theorem d1_0 : decode prog_1_method_1_code 0 = .ok (.aload_n 0, 1) := by decide +kernel
theorem d1_1 : decode prog_1_method_1_code 1 = .ok (.invokespecial 1, 3) := by decide +kernel
theorem d1_4 : decode prog_1_method_1_code 4 = .ok (.aload_n 0, 1) := by decide +kernel
theorem d1_5 : decode prog_1_method_1_code 5 = .ok (.new 7, 3) := by decide +kernel
theorem d1_8 : decode prog_1_method_1_code 8 = .ok (.dup, 1) := by decide +kernel
theorem d1_9 : decode prog_1_method_1_code 9 = .ok (.invokespecial 9, 3) := by decide +kernel
theorem d1_12 : decode prog_1_method_1_code 12 = .ok (.putfield 10, 3) := by decide +kernel
theorem d1_15 : decode prog_1_method_1_code 15 = .ok (.aload_n 0, 1) := by decide +kernel
theorem d1_16 : decode prog_1_method_1_code 16 = .ok (.new 16, 3) := by decide +kernel
theorem d1_19 : decode prog_1_method_1_code 19 = .ok (.dup, 1) := by decide +kernel
theorem d1_20 : decode prog_1_method_1_code 20 = .ok (.invokespecial 18, 3) := by decide +kernel
theorem d1_23 : decode prog_1_method_1_code 23 = .ok (.putfield 19, 3) := by decide +kernel
theorem d1_26 : decode prog_1_method_1_code 26 = .ok (.aload_n 0, 1) := by decide +kernel
theorem d1_27 : decode prog_1_method_1_code 27 = .ok (.sipush 256, 3) := by decide +kernel
theorem d1_30 : decode prog_1_method_1_code 30 = .ok (.newarray .byte, 2) := by decide +kernel
theorem d1_32 : decode prog_1_method_1_code 32 = .ok (.putfield 23, 3) := by decide +kernel
theorem d1_35 : decode prog_1_method_1_code 35 = .ok (.aload_n 0, 1) := by decide +kernel
theorem d1_36 : decode prog_1_method_1_code 36 = .ok (.bipush 8, 2) := by decide +kernel
theorem d1_38 : decode prog_1_method_1_code 38 = .ok (.putfield 29, 3) := by decide +kernel
theorem d1_41 : decode prog_1_method_1_code 41 = .ok (.return_, 1) := by decide +kernel
theorem ef_b_init (m : MethodId) (ob : Addr) : entryFrame m #[(.ref ob)] 1 = mkF m 0 #[.val (.ref ob)] [] := by first | (simp [entryFrame, mkF, argsToLocals, Value.category]; done) | rfl
def Q_b_init (Z : State) (ob : Addr) (em : Addr) (h0 : Heap) (n0 : Nat) (v : Option Value) (h : Heap) (L : List Loc) : Prop := ∃ bya : Addr, v = none ∧ Fr n0 L ∧ Keep h0 h [ob] ∧ h0.size ≤ bya ∧ Exa Z h ob "com/example/whole_commit/wholecommit/Batch" ∧ Fld Z h ob "com/example/whole_commit/wholecommit/Batch" "bytes" "[B" (.ref bya) ∧ Fld Z h ob "com/example/whole_commit/wholecommit/Batch" "size" "I" (.int (8 : Int32)) ∧ own_By Z h bya (256 : Int32)
set_option maxRecDepth 65536 in
set_option maxHeartbeats 40000000 in
theorem b_init (l : Launch) (Z : State) (a0 : Array Value) (hw : ∀ d ∈ tables_1, d.before a0 Z = true) (ws : List Jvm.Cond) (ob : Addr) (em : Addr) (h0 : Heap) (n0 : Nat) (O0 : Old Z n0 h0) (P0 : Sta Z Z.heap "java/util/ArrayList" "DEFAULTCAPACITY_EMPTY_ELEMENTDATA" "[Ljava/lang/Object;" (.ref em)) (P1 : Exa Z h0 ob "com/example/whole_commit/wholecommit/Batch") (P2 : Fld Z h0 ob "com/example/whole_commit/wholecommit/Batch" "waiting" "Ljava/util/List;" .null) (P3 : Fld Z h0 ob "com/example/whole_commit/wholecommit/Batch" "decisions" "Ljava/util/Map;" .null) (P4 : Fld Z h0 ob "com/example/whole_commit/wholecommit/Batch" "bytes" "[B" .null) (P5 : Fld Z h0 ob "com/example/whole_commit/wholecommit/Batch" "size" "I" (.int (0 : Int32))) (gob : n0 ≤ ob) :
    MetFree l (⟨"com/example/whole_commit/wholecommit/Batch", "<init>", "()V"⟩ : MethodName) (head1 (Jvm.Cond.code (⟨"com/example/whole_commit/wholecommit/Batch", "<init>", "()V"⟩ : MethodName) prog_1_method_1_code 1 none :: ws) ({ frames := 4, cells := 3, slots := 267, locals := 50 } : Room)) (fun a U => a = #[(.ref ob)] ∧ Z.Warmed39 U.vm ∧ U.heap = h0) (fun _ _ _ _ _ => True) (fun _ U o U' => ∃ v L, o = .returned v ∧ Q_b_init Z ob em h0 n0 v U'.heap L ∧ FrameEnd U o U' L ({ frames := 4, cells := 3, slots := 267, locals := 50 } : Room).cells ({ frames := 4, cells := 3, slots := 267, locals := 50 } : Room).slots) := by
  refine MetFree.of_bodySF (plainFor_of_name pn_5) hisR ?_
  intro p e s m args below meth c s₁ Bd hml0 hP hK
  obtain ⟨rfl, hZ, hh⟩ := hP
  have hx := Bd.exec
  have hby := Bd.bytes
  have hml : c.maxLocals = 1 := hml0
  have hown : s.vm.findClass "com/example/whole_commit/wholecommit/Batch" = some m.cls := findClass_of_methodNamed Bd.named
  have hnm := (name_of_methodNamed Bd.named Bd.method).1
  have hlk := BodyLoose.notSynchronized Bd
  have X0 : Stand p l e ({ frames := 4, cells := 3, slots := 267, locals := 50 } : Room) s m #[(.ref ob)] below meth c s₁ [] 0 0 := Stand.of_body Bd
  have e0 : s₁.heap = h0 := by rw [← hh, Bd.state]; rfl
  have N0 := Fr.nil n0
  refine Go.start (P := fun o U' => ∃ v L, o = .returned v ∧ Q_b_init Z ob em h0 n0 v U'.heap L ∧ FrameEnd s o U' L ({ frames := 4, cells := 3, slots := 267, locals := 50 } : Room).cells ({ frames := 4, cells := 3, slots := 267, locals := 50 } : Room).slots) (ef_b_init m ob) ?_
  show Go p e below _ (s₁.setTop (mkF m 0 #[.val (.ref ob)] []))
  refine Go.by (fun t k => XS.aloadN X0.here hx rfl (hb hby d1_0) rfl rfl k) ?_
  show Go p e below _ (s₁.setTop (mkF m 1 #[.val (.ref ob)] [(.ref ob)]))
  obtain ⟨T1, X1, e1, st1⟩ := initO X0 hx hZ hown (hw _ (List.mem_of_getElem? (i := 7) rfl)) (hw _ (List.mem_of_getElem? (i := 8) rfl)) (hw _ (List.mem_of_getElem? (i := 9) rfl)) e0 (g := (mkF m 1 #[.val (.ref ob)] [(.ref ob)])) rfl (by rw [hml]; rfl) rfl (hb hby d1_1) (by decide) (W := 0) (by show 2 * 0 + _ ≤ _; exact Nat.le_of_eq rfl) (by decide)
  refine Go.by st1 ?_
  show Go p e below _ (T1.setTop (mkF m 4 #[.val (.ref ob)] []))
  refine Go.by (fun t k => XS.aloadN X1.here hx rfl (hb hby d1_4) rfl rfl k) ?_
  show Go p e below _ (T1.setTop (mkF m 5 #[.val (.ref ob)] [(.ref ob)]))
  obtain ⟨T2, h2, X2, e2, E2, A2, D2, -, st2⟩ := newO X1 hx hZ hown (hw _ (List.mem_of_getElem? (i := 10) rfl)) (hw _ (List.mem_of_getElem? (i := 11) rfl)) (hw _ (List.mem_of_getElem? (i := 12) rfl)) e1 (g := (mkF m 5 #[.val (.ref ob)] [(.ref ob)])) rfl (hb hby d1_5) (by decide) (by decide)
  obtain ⟨b2, g2⟩ : ∃ z, z = h0.size := ⟨_, rfl⟩
  rw [← g2] at A2 D2 st2
  have gl2 : h0.size ≤ b2 := Nat.le_of_eq g2.symm
  have ge2 : n0 ≤ b2 := Nat.le_trans (own_old_size O0) gl2
  have sz2 : h0.size ≤ b2 := Nat.le_trans (Keep.refl h0 [ob]).1 gl2
  have ne3 : ob ≠ b2 := Nat.ne_of_lt (Nat.lt_of_lt_of_le P1.lt gl2)
  have F4 : Fld Z h2 b2 "java/util/AbstractList" "modCount" "I" (.int (0 : Int32)) := D2 (Or.inl (hw _ (List.mem_of_getElem? (i := 30) rfl))) (ty := .int) (by decide)
  have F5 : Fld Z h2 b2 "java/util/ArrayList" "elementData" "[Ljava/lang/Object;" .null := D2 (Or.inl (hw _ (List.mem_of_getElem? (i := 33) rfl))) (ty := (.array (.object "java/lang/Object"))) (by decide)
  refine Go.by st2 ?_
  show Go p e below _ (T2.setTop (mkF m 8 #[.val (.ref ob)] [(.ref b2), (.ref ob)]))
  refine Go.by (fun t k => XS.dup X2.here hx rfl (hb hby d1_8) rfl rfl k) ?_
  show Go p e below _ (T2.setTop (mkF m 9 #[.val (.ref ob)] [(.ref b2), (.ref b2), (.ref ob)]))
  have F7 : Old Z n0 h2 := (O0.ext E2)
  have F8 : Keep h0 h2 [ob] := ((Keep.refl h0 [ob]).ext E2)
  obtain ⟨_, _, ⟨T6, L6, k6, n6⟩, -, X6, ⟨Lc6, hQ6, l6, y6, z6⟩, st6⟩ := X2.specialBack hx (y := (⟨"java/util/ArrayList", "<init>", "()V"⟩ : MethodName)) rfl hown (mvT hZ (hw _ (List.mem_of_getElem? (i := 13) rfl))) (mvT hZ (hw _ (List.mem_of_getElem? (i := 14) rfl))) (mvT hZ (hw _ (List.mem_of_getElem? (i := 15) rfl))) (by decide) (backOf (W := 2) (al_init l Z a0 hw [] b2 em h2 n0 F7 P0 A2 F4 F5 ge2) hZ (hw _ (List.mem_of_getElem? (i := 15) rfl)) (hw _ (List.mem_of_getElem? (i := 12) rfl)) (by decide) (by decide)) (g := (mkF m 9 #[.val (.ref ob)] [(.ref b2), (.ref b2), (.ref ob)])) rfl (by rw [hml]; rfl) (Steps.refl _) (a := b2) (argsL := []) (rest := [(.ref b2), (.ref ob)]) (lenOf pd_0 rfl) rfl (by show 2 * 0 + _ ≤ _; exact Nat.le_of_eq rfl) (hb hby d1_9) (fun _ _ => ⟨rfl, e2, (by decide : 1 + 0 ≤ _), (by decide : 3 + 0 ≤ _)⟩)
  dsimp only [Pt.U, Pt.locs, Pt.cells, Pt.slots] at X6 l6 y6 z6 st6 hQ6
  subst l6 y6 z6
  obtain ⟨rfl, N6q, K6, F6_0⟩ := hQ6
  have N6 := Fr.app N0 N6q
  refine Go.tr st6 ?_
  show Go p e below _ (T6.setTop (mkF m 12 #[.val (.ref ob)] [(.ref b2), (.ref ob)]))
  have F9 : Fld Z T6.heap ob "com/example/whole_commit/wholecommit/Batch" "waiting" "Ljava/util/List;" .null := ((P2.ext E2).keep K6 (ninS ne3 nin0))
  have F10 : Exa Z T6.heap ob "com/example/whole_commit/wholecommit/Batch" := ((P1.ext E2).keep K6)
  obtain ⟨T11, h11, X11, e11, W11, st11⟩ := putF X6 hx hZ hown (host := "") (Or.inl (hw _ (List.mem_of_getElem? (i := 34) rfl))) Via.refl rfl F9 F10 (Or.inr ⟨(hw _ (List.mem_of_getElem? (i := 35) rfl)), rfl, hnm⟩) (hw _ (List.mem_of_getElem? (i := 2) rfl)) (ty := (.object "java/util/List")) (by decide) rfl rfl (g := (mkF m 12 #[.val (.ref ob)] [(.ref b2), (.ref ob)])) rfl rfl (hb hby d1_12)
  have N11 := Fr.snoc X11 N6 gob
  have F12 : Fld Z h11 ob "com/example/whole_commit/wholecommit/Batch" "waiting" "Ljava/util/List;" (.ref b2) := F9.same W11
  refine Go.by st11 ?_
  show Go p e below _ (T11.setTop (mkF m 15 #[.val (.ref ob)] []))
  refine Go.by (fun t k => XS.aloadN X11.here hx rfl (hb hby d1_15) rfl rfl k) ?_
  show Go p e below _ (T11.setTop (mkF m 16 #[.val (.ref ob)] [(.ref ob)]))
  have F13 : Exa Z h11 ob "com/example/whole_commit/wholecommit/Batch" := (F10.wr W11)
  have F14 : Exa Z h11 b2 "java/util/ArrayList" := (F6_0.wr W11)
  have F15 : Old Z n0 h11 := ((F7.keep K6 (allS ge2 all0)).wr W11 gob)
  have F16 : Keep h0 h11 [ob] := ((F8.trans K6 (allS (Or.inr sz2) all0)).wr W11 (Or.inl (List.mem_of_getElem? (i := 0) rfl)))
  obtain ⟨T17, h17, X17, e17, E17, A17, D17, -, st17⟩ := newO X11 hx hZ hown (hw _ (List.mem_of_getElem? (i := 36) rfl)) (hw _ (List.mem_of_getElem? (i := 37) rfl)) (hw _ (List.mem_of_getElem? (i := 38) rfl)) e11 (g := (mkF m 16 #[.val (.ref ob)] [(.ref ob)])) rfl (hb hby d1_16) (by decide) (by decide)
  obtain ⟨b17, g17⟩ : ∃ z, z = h11.size := ⟨_, rfl⟩
  rw [← g17] at A17 D17 st17
  have gl17 : h11.size ≤ b17 := Nat.le_of_eq g17.symm
  have ge17 : n0 ≤ b17 := Nat.le_trans (own_old_size F15) gl17
  have sz17 : h0.size ≤ b17 := Nat.le_trans F16.1 gl17
  have ne18 : ob ≠ b17 := Nat.ne_of_lt (Nat.lt_of_lt_of_le F13.lt gl17)
  have ne19 : b2 ≠ b17 := Nat.ne_of_lt (Nat.lt_of_lt_of_le F14.lt gl17)
  have F20 : Fld Z h17 b17 "java/util/HashMap" "loadFactor" "F" (.float (0 : UInt32)) := D17 (Or.inr (hw _ (List.mem_of_getElem? (i := 51) rfl))) (ty := .float) (by decide)
  refine Go.by st17 ?_
  show Go p e below _ (T17.setTop (mkF m 19 #[.val (.ref ob)] [(.ref b17), (.ref ob)]))
  refine Go.by (fun t k => XS.dup X17.here hx rfl (hb hby d1_19) rfl rfl k) ?_
  show Go p e below _ (T17.setTop (mkF m 20 #[.val (.ref ob)] [(.ref b17), (.ref b17), (.ref ob)]))
  have F22 : Old Z n0 h17 := (F15.ext E17)
  have F23 : Keep h0 h17 [ob] := (F16.ext E17)
  obtain ⟨_, _, ⟨T21, L21, k21, n21⟩, -, X21, ⟨Lc21, hQ21, l21, y21, z21⟩, st21⟩ := X17.specialBack hx (y := (⟨"java/util/HashMap", "<init>", "()V"⟩ : MethodName)) rfl hown (mvT hZ (hw _ (List.mem_of_getElem? (i := 39) rfl))) (mvT hZ (hw _ (List.mem_of_getElem? (i := 40) rfl))) (mvT hZ (hw _ (List.mem_of_getElem? (i := 41) rfl))) (by decide) (backOf (W := 2) (hm_init l Z a0 hw [] b17 h17 n0 F22 A17 F20 ge17) hZ (hw _ (List.mem_of_getElem? (i := 41) rfl)) (hw _ (List.mem_of_getElem? (i := 38) rfl)) (by decide) (by decide)) (g := (mkF m 20 #[.val (.ref ob)] [(.ref b17), (.ref b17), (.ref ob)])) rfl (by rw [hml]; rfl) (Steps.refl _) (a := b17) (argsL := []) (rest := [(.ref b17), (.ref ob)]) (lenOf pd_0 rfl) rfl (by show 2 * 0 + _ ≤ _; exact Nat.le_of_eq rfl) (hb hby d1_20) (fun _ _ => ⟨rfl, e17, (by decide : 2 + 0 ≤ _), (by decide : 11 + 0 ≤ _)⟩)
  dsimp only [Pt.U, Pt.locs, Pt.cells, Pt.slots] at X21 l21 y21 z21 st21 hQ21
  subst l21 y21 z21
  obtain ⟨rfl, N21q, K21, F21_0⟩ := hQ21
  have N21 := Fr.app N11 N21q
  refine Go.tr st21 ?_
  show Go p e below _ (T21.setTop (mkF m 23 #[.val (.ref ob)] [(.ref b17), (.ref ob)]))
  have F24 : Fld Z T21.heap ob "com/example/whole_commit/wholecommit/Batch" "decisions" "Ljava/util/Map;" .null := (((((P3.ext E2).keep K6 (ninS ne3 nin0)).other W11 (Or.inr (slot_ne (Or.inr (hw _ (List.mem_of_getElem? (i := 53) rfl))) (Or.inr (hw _ (List.mem_of_getElem? (i := 35) rfl))) (by decide) (t := (.object "java/util/Map")) (t' := (.object "java/util/List")) (by decide) (by decide)))).ext E17).keep K21 (ninS ne18 nin0))
  have F25 : Exa Z T21.heap ob "com/example/whole_commit/wholecommit/Batch" := ((F13.ext E17).keep K21)
  obtain ⟨T26, h26, X26, e26, W26, st26⟩ := putF X21 hx hZ hown (host := "") (Or.inl (hw _ (List.mem_of_getElem? (i := 52) rfl))) Via.refl rfl F24 F25 (Or.inr ⟨(hw _ (List.mem_of_getElem? (i := 53) rfl)), rfl, hnm⟩) (hw _ (List.mem_of_getElem? (i := 2) rfl)) (ty := (.object "java/util/Map")) (by decide) rfl rfl (g := (mkF m 23 #[.val (.ref ob)] [(.ref b17), (.ref ob)])) rfl rfl (hb hby d1_23)
  have N26 := Fr.snoc X26 N21 gob
  have F27 : Fld Z h26 ob "com/example/whole_commit/wholecommit/Batch" "decisions" "Ljava/util/Map;" (.ref b17) := F24.same W26
  refine Go.by st26 ?_
  show Go p e below _ (T26.setTop (mkF m 26 #[.val (.ref ob)] []))
  refine Go.by (fun t k => XS.aloadN X26.here hx rfl (hb hby d1_26) rfl rfl k) ?_
  show Go p e below _ (T26.setTop (mkF m 27 #[.val (.ref ob)] [(.ref ob)]))
  refine Go.by (fun t k => XS.sipush X26.here hx rfl (hb hby d1_27) k) ?_
  show Go p e below _ (T26.setTop (mkF m 30 #[.val (.ref ob)] [(.int (256 : Int32)), (.ref ob)]))
  have F28 : Exa Z h26 ob "com/example/whole_commit/wholecommit/Batch" := (F25.wr W26)
  have F29 : Exa Z h26 b2 "java/util/ArrayList" := (((F14.ext E17).keep K21).wr W26)
  have F30 : Exa Z h26 b17 "java/util/HashMap" := (F21_0.wr W26)
  have F31 : Old Z n0 h26 := ((F22.keep K21 (allS ge17 all0)).wr W26 gob)
  have F32 : Keep h0 h26 [ob] := ((F23.trans K21 (allS (Or.inr sz17) all0)).wr W26 (Or.inl (List.mem_of_getElem? (i := 0) rfl)))
  obtain ⟨T33, h33, k33, X33, e33, E33, A33, Q33, st33⟩ := newPE X26 hx hZ (hw _ (List.mem_of_getElem? (i := 0) rfl)) e26 (g := (mkF m 30 #[.val (.ref ob)] [(.int (256 : Int32)), (.ref ob)])) rfl (hb hby d1_30) rfl (by decide) (cap := 256) (by decide) (by decide) (by decide) (by decide) (ad := "[B") (by decide)
  obtain ⟨b33, g33⟩ : ∃ z, z = h26.size := ⟨_, rfl⟩
  rw [← g33] at A33 Q33 st33
  have gl33 : h26.size ≤ b33 := Nat.le_of_eq g33.symm
  have ge33 : n0 ≤ b33 := Nat.le_trans (own_old_size F31) gl33
  have sz33 : h0.size ≤ b33 := Nat.le_trans F32.1 gl33
  have ne34 : ob ≠ b33 := Nat.ne_of_lt (Nat.lt_of_lt_of_le F28.lt gl33)
  have ne35 : b2 ≠ b33 := Nat.ne_of_lt (Nat.lt_of_lt_of_le F29.lt gl33)
  have ne36 : b17 ≠ b33 := Nat.ne_of_lt (Nat.lt_of_lt_of_le F30.lt gl33)
  have F37 : own_By Z h33 b33 (256 : Int32) := own_By.new A33 (by decide)
  refine Go.by st33 ?_
  show Go p e below _ (T33.setTop (mkF m 32 #[.val (.ref ob)] [(.ref b33), (.ref ob)]))
  have F38 : Fld Z h33 ob "com/example/whole_commit/wholecommit/Batch" "bytes" "[B" .null := (((((((P4.ext E2).keep K6 (ninS ne3 nin0)).other W11 (Or.inr (slot_ne (Or.inl (hw _ (List.mem_of_getElem? (i := 55) rfl))) (Or.inr (hw _ (List.mem_of_getElem? (i := 35) rfl))) (by decide) (t := (.array .byte)) (t' := (.object "java/util/List")) (by decide) (by decide)))).ext E17).keep K21 (ninS ne18 nin0)).other W26 (Or.inr (slot_ne (Or.inl (hw _ (List.mem_of_getElem? (i := 55) rfl))) (Or.inr (hw _ (List.mem_of_getElem? (i := 53) rfl))) (by decide) (t := (.array .byte)) (t' := (.object "java/util/Map")) (by decide) (by decide)))).ext E33)
  have F39 : Exa Z h33 ob "com/example/whole_commit/wholecommit/Batch" := (F28.ext E33)
  obtain ⟨T40, h40, X40, e40, W40, st40⟩ := putF X33 hx hZ hown (host := "") (Or.inl (hw _ (List.mem_of_getElem? (i := 54) rfl))) Via.refl e33 F38 F39 (Or.inl (hw _ (List.mem_of_getElem? (i := 55) rfl))) (hw _ (List.mem_of_getElem? (i := 2) rfl)) (ty := (.array .byte)) (by decide) rfl rfl (g := (mkF m 32 #[.val (.ref ob)] [(.ref b33), (.ref ob)])) rfl rfl (hb hby d1_32)
  have N40 := Fr.snoc X40 N26 gob
  have F41 : Fld Z h40 ob "com/example/whole_commit/wholecommit/Batch" "bytes" "[B" (.ref b33) := F38.same W40
  refine Go.by st40 ?_
  show Go p e below _ (T40.setTop (mkF m 35 #[.val (.ref ob)] []))
  refine Go.by (fun t k => XS.aloadN X40.here hx rfl (hb hby d1_35) rfl rfl k) ?_
  show Go p e below _ (T40.setTop (mkF m 36 #[.val (.ref ob)] [(.ref ob)]))
  refine Go.by (fun t k => XS.bipush X40.here hx rfl (hb hby d1_36) k) ?_
  show Go p e below _ (T40.setTop (mkF m 38 #[.val (.ref ob)] [(.int (8 : Int32)), (.ref ob)]))
  have F42 : Fld Z h40 ob "com/example/whole_commit/wholecommit/Batch" "size" "I" (.int (0 : Int32)) := ((((((((P5.ext E2).keep K6 (ninS ne3 nin0)).other W11 (Or.inr (slot_ne (Or.inl (hw _ (List.mem_of_getElem? (i := 57) rfl))) (Or.inr (hw _ (List.mem_of_getElem? (i := 35) rfl))) (by decide) (t := .int) (t' := (.object "java/util/List")) (by decide) (by decide)))).ext E17).keep K21 (ninS ne18 nin0)).other W26 (Or.inr (slot_ne (Or.inl (hw _ (List.mem_of_getElem? (i := 57) rfl))) (Or.inr (hw _ (List.mem_of_getElem? (i := 53) rfl))) (by decide) (t := .int) (t' := (.object "java/util/Map")) (by decide) (by decide)))).ext E33).other W40 (Or.inr (slot_ne (Or.inl (hw _ (List.mem_of_getElem? (i := 57) rfl))) (Or.inl (hw _ (List.mem_of_getElem? (i := 55) rfl))) (by decide) (t := .int) (t' := (.array .byte)) (by decide) (by decide))))
  have F43 : Exa Z h40 ob "com/example/whole_commit/wholecommit/Batch" := (F39.wr W40)
  obtain ⟨T44, h44, X44, e44, W44, st44⟩ := putF X40 hx hZ hown (host := "") (Or.inl (hw _ (List.mem_of_getElem? (i := 56) rfl))) Via.refl e40 F42 F43 (Or.inl (hw _ (List.mem_of_getElem? (i := 57) rfl))) (hw _ (List.mem_of_getElem? (i := 2) rfl)) (ty := .int) (by decide) rfl rfl (g := (mkF m 38 #[.val (.ref ob)] [(.int (8 : Int32)), (.ref ob)])) rfl rfl (hb hby d1_38)
  have N44 := Fr.snoc X44 N40 gob
  have F45 : Fld Z h44 ob "com/example/whole_commit/wholecommit/Batch" "size" "I" (.int (8 : Int32)) := F42.same W44
  refine Go.by st44 ?_
  show Go p e below _ (T44.setTop (mkF m 41 #[.val (.ref ob)] []))
  have F46 : Keep h0 h44 [ob] := (((F32.ext E33).wr W40 (Or.inl (List.mem_of_getElem? (i := 0) rfl))).wr W44 (Or.inl (List.mem_of_getElem? (i := 0) rfl)))
  have F47 : Exa Z h44 ob "com/example/whole_commit/wholecommit/Batch" := (F43.wr W44)
  have F48 : Fld Z h44 ob "com/example/whole_commit/wholecommit/Batch" "bytes" "[B" (.ref b33) := (F41.other W44 (Or.inr (slot_ne (Or.inl (hw _ (List.mem_of_getElem? (i := 55) rfl))) (Or.inl (hw _ (List.mem_of_getElem? (i := 57) rfl))) (by decide) (t := (.array .byte)) (t' := .int) (by decide) (by decide))))
  have F49 : own_By Z h44 b33 (256 : Int32) := ((F37.other W40 (Ne.symm ne34)).other W44 (Ne.symm ne34))
  have hq : Q_b_init Z ob em h0 n0 none h44 _ := ⟨b33, rfl, N44, F46, sz33, F47, F48, F45, F49⟩
  exact Go.ret0 X44 hx Bd.returns hlk (hb hby d1_41) (by decide) (by decide) (by rw [e44]; exact hq)
theorem d8_0 : decode prog_1_method_5_code 0 = .ok (.aload_n 0, 1) := by decide +kernel
theorem d8_1 : decode prog_1_method_5_code 1 = .ok (.getfield 29, 3) := by decide +kernel
theorem d8_4 : decode prog_1_method_5_code 4 = .ok (.bipush 8, 2) := by decide +kernel
theorem d8_6 : decode prog_1_method_5_code 6 = .ok (.if_icmp .ne 7, 3) := by decide +kernel
theorem d8_9 : decode prog_1_method_5_code 9 = .ok (.iconst 0, 1) := by decide +kernel
theorem d8_10 : decode prog_1_method_5_code 10 = .ok (.goto 7, 3) := by decide +kernel
theorem d8_17 : decode prog_1_method_5_code 17 = .ok (.ireturn, 1) := by decide +kernel
theorem d8_13 : decode prog_1_method_5_code 13 = .ok (.aload_n 0, 1) := by decide +kernel
theorem d8_14 : decode prog_1_method_5_code 14 = .ok (.getfield 29, 3) := by decide +kernel
theorem ef_b_size (m : MethodId) (ob : Addr) : entryFrame m #[(.ref ob)] 1 = mkF m 0 #[.val (.ref ob)] [] := by first | (simp [entryFrame, mkF, argsToLocals, Value.category]; done) | rfl
def Q_b_size (Z : State) (ob : Addr) (sv : Int32) (h0 : Heap) (n0 : Nat) (v : Option Value) (h : Heap) (L : List Loc) : Prop := v = some (.int (own_sz sv)) ∧ Fr n0 L ∧ h = h0
set_option maxRecDepth 65536 in
set_option maxHeartbeats 40000000 in
theorem b_size (l : Launch) (Z : State) (a0 : Array Value) (hw : ∀ d ∈ tables_1, d.before a0 Z = true) (ws : List Jvm.Cond) (ob : Addr) (sv : Int32) (h0 : Heap) (n0 : Nat) (O0 : Old Z n0 h0) (P0 : Fld Z h0 ob "com/example/whole_commit/wholecommit/Batch" "size" "I" (.int sv)) :
    MetFree l (⟨"com/example/whole_commit/wholecommit/Batch", "size", "()I"⟩ : MethodName) (head1 (Jvm.Cond.code (⟨"com/example/whole_commit/wholecommit/Batch", "size", "()I"⟩ : MethodName) prog_1_method_5_code 1 (some .int) :: ws) ({ frames := 0, cells := 0, slots := 0, locals := 0 } : Room)) (fun a U => a = #[(.ref ob)] ∧ Z.Warmed39 U.vm ∧ U.heap = h0) (fun _ _ _ _ _ => True) (fun _ U o U' => ∃ v L, o = .returned v ∧ Q_b_size Z ob sv h0 n0 v U'.heap L ∧ FrameEnd U o U' L ({ frames := 0, cells := 0, slots := 0, locals := 0 } : Room).cells ({ frames := 0, cells := 0, slots := 0, locals := 0 } : Room).slots) := by
  refine MetFree.of_bodySF (plainFor_of_name pn_5) hisR ?_
  intro p e s m args below meth c s₁ Bd hml0 hP hK
  obtain ⟨rfl, hZ, hh⟩ := hP
  have hx := Bd.exec
  have hby := Bd.bytes
  have hml : c.maxLocals = 1 := hml0
  have hown : s.vm.findClass "com/example/whole_commit/wholecommit/Batch" = some m.cls := findClass_of_methodNamed Bd.named
  have hnm := (name_of_methodNamed Bd.named Bd.method).1
  have hlk := BodyLoose.notSynchronized Bd
  have X0 : Stand p l e ({ frames := 0, cells := 0, slots := 0, locals := 0 } : Room) s m #[(.ref ob)] below meth c s₁ [] 0 0 := Stand.of_body Bd
  have e0 : s₁.heap = h0 := by rw [← hh, Bd.state]; rfl
  have N0 := Fr.nil n0
  refine Go.start (P := fun o U' => ∃ v L, o = .returned v ∧ Q_b_size Z ob sv h0 n0 v U'.heap L ∧ FrameEnd s o U' L ({ frames := 0, cells := 0, slots := 0, locals := 0 } : Room).cells ({ frames := 0, cells := 0, slots := 0, locals := 0 } : Room).slots) (ef_b_size m ob) ?_
  show Go p e below _ (s₁.setTop (mkF m 0 #[.val (.ref ob)] []))
  refine Go.by (fun t k => XS.aloadN X0.here hx rfl (hb hby d8_0) rfl rfl k) ?_
  show Go p e below _ (s₁.setTop (mkF m 1 #[.val (.ref ob)] [(.ref ob)]))
  obtain ⟨T1, X1, e1, st1⟩ := getF X0 hx hZ hown (host := "") (Or.inl (hw _ (List.mem_of_getElem? (i := 56) rfl))) Via.refl e0 P0 (g := (mkF m 1 #[.val (.ref ob)] [(.ref ob)])) rfl rfl (hb hby d8_1)
  refine Go.by st1 ?_
  show Go p e below _ (T1.setTop (mkF m 4 #[.val (.ref ob)] [(.int sv)]))
  refine Go.by (fun t k => XS.bipush X1.here hx rfl (hb hby d8_4) k) ?_
  show Go p e below _ (T1.setTop (mkF m 6 #[.val (.ref ob)] [(.int (8 : Int32)), (.int sv)]))
  by_cases hc2 : sv = (8 : Int32)
  · skip
    refine Go.by (fun t k => XS.icmpNo X1.here hx rfl (hb hby d8_6) rfl (teq hc2).2 k) ?_
    show Go p e below _ (T1.setTop (mkF m 9 #[.val (.ref ob)] []))
    refine Go.by (fun t k => XS.iconst X1.here hx rfl (hb hby d8_9) k) ?_
    show Go p e below _ (T1.setTop (mkF m 10 #[.val (.ref ob)] [(.int (0 : Int32))]))
    refine Go.by (fun t k => XS.goto X1.here hx rfl (pc0 := 10) (pc' := 17) rfl (hb hby d8_10) (by decide) (by decide) k) ?_
    show Go p e below _ (T1.setTop (mkF m 17 #[.val (.ref ob)] [(.int (0 : Int32))]))
    have hq : Q_b_size Z ob sv h0 n0 (some (.int (0 : Int32))) h0 _ := ⟨(by simp [own_sz, hc2]), N0, rfl⟩
    exact Go.retI X1 hx Bd.returns hlk (hb hby d8_17) (by decide) (by decide) (by rw [e1]; exact hq)
  · skip
    refine Go.by (fun t k => XS.icmpYes X1.here hx rfl (pc0 := 6) (pc' := 13) rfl (hb hby d8_6) rfl (feq hc2).2 (by decide) (by decide) k) ?_
    show Go p e below _ (T1.setTop (mkF m 13 #[.val (.ref ob)] []))
    refine Go.by (fun t k => XS.aloadN X1.here hx rfl (hb hby d8_13) rfl rfl k) ?_
    show Go p e below _ (T1.setTop (mkF m 14 #[.val (.ref ob)] [(.ref ob)]))
    obtain ⟨T3, X3, e3, st3⟩ := getF X1 hx hZ hown (host := "") (Or.inl (hw _ (List.mem_of_getElem? (i := 56) rfl))) Via.refl e1 P0 (g := (mkF m 14 #[.val (.ref ob)] [(.ref ob)])) rfl rfl (hb hby d8_14)
    refine Go.by st3 ?_
    show Go p e below _ (T3.setTop (mkF m 17 #[.val (.ref ob)] [(.int sv)]))
    have hq : Q_b_size Z ob sv h0 n0 (some (.int sv)) h0 _ := ⟨(by simp [own_sz, hc2]), N0, rfl⟩
    exact Go.retI X3 hx Bd.returns hlk (hb hby d8_17) (by decide) (by decide) (by rw [e3]; exact hq)
theorem pn_6 : plainName "com/example/whole_commit/wholecommit/BatchSizePinLaw" = true := by first | (simp [plainName, overriddenIn]; done) | decide +kernel
theorem d10_0 : decode method_2_code 0 = .ok (.iload_n 0, 1) := by decide +kernel
theorem d10_1 : decode method_2_code 1 = .ok (.ifCond .ne 5, 3) := by decide +kernel
theorem d10_4 : decode method_2_code 4 = .ok (.iconst 0, 1) := by decide +kernel
theorem d10_5 : decode method_2_code 5 = .ok (.ireturn, 1) := by decide +kernel
theorem d10_6 : decode method_2_code 6 = .ok (.bipush 8, 2) := by decide +kernel
theorem d10_8 : decode method_2_code 8 = .ok (.iload_n 0, 1) := by decide +kernel
theorem d10_9 : decode method_2_code 9 = .ok (.iadd, 1) := by decide +kernel
theorem d10_10 : decode method_2_code 10 = .ok (.ireturn, 1) := by decide +kernel
theorem ef_expect (m : MethodId) (tt : Int32) : entryFrame m #[(.int tt)] 1 = mkF m 0 #[.val (.int tt)] [] := by first | (simp [entryFrame, mkF, argsToLocals, Value.category]; done) | rfl
def Q_expect (Z : State) (tt : Int32) (h0 : Heap) (n0 : Nat) (v : Option Value) (h : Heap) (L : List Loc) : Prop := v = some (.int (own_ex tt)) ∧ Fr n0 L ∧ h = h0
set_option maxRecDepth 65536 in
set_option maxHeartbeats 40000000 in
theorem expect (l : Launch) (Z : State) (a0 : Array Value) (hw : ∀ d ∈ tables_1, d.before a0 Z = true) (ws : List Jvm.Cond) (tt : Int32) (h0 : Heap) (n0 : Nat) (O0 : Old Z n0 h0) :
    MetFree l (⟨"com/example/whole_commit/wholecommit/BatchSizePinLaw", "expect", "(I)I"⟩ : MethodName) (head1 (Jvm.Cond.code (⟨"com/example/whole_commit/wholecommit/BatchSizePinLaw", "expect", "(I)I"⟩ : MethodName) method_2_code 1 (some .int) :: ws) ({ frames := 0, cells := 0, slots := 0, locals := 0 } : Room)) (fun a U => a = #[(.int tt)] ∧ Z.Warmed39 U.vm ∧ U.heap = h0) (fun _ _ _ _ _ => True) (fun _ U o U' => ∃ v L, o = .returned v ∧ Q_expect Z tt h0 n0 v U'.heap L ∧ FrameEnd U o U' L ({ frames := 0, cells := 0, slots := 0, locals := 0 } : Room).cells ({ frames := 0, cells := 0, slots := 0, locals := 0 } : Room).slots) := by
  refine MetFree.of_bodySF (plainFor_of_name pn_6) hisR ?_
  intro p e s m args below meth c s₁ Bd hml0 hP hK
  obtain ⟨rfl, hZ, hh⟩ := hP
  have hx := Bd.exec
  have hby := Bd.bytes
  have hml : c.maxLocals = 1 := hml0
  have hown : s.vm.findClass "com/example/whole_commit/wholecommit/BatchSizePinLaw" = some m.cls := findClass_of_methodNamed Bd.named
  have hnm := (name_of_methodNamed Bd.named Bd.method).1
  have hlk := BodyLoose.notSynchronized Bd
  have X0 : Stand p l e ({ frames := 0, cells := 0, slots := 0, locals := 0 } : Room) s m #[(.int tt)] below meth c s₁ [] 0 0 := Stand.of_body Bd
  have e0 : s₁.heap = h0 := by rw [← hh, Bd.state]; rfl
  have N0 := Fr.nil n0
  refine Go.start (P := fun o U' => ∃ v L, o = .returned v ∧ Q_expect Z tt h0 n0 v U'.heap L ∧ FrameEnd s o U' L ({ frames := 0, cells := 0, slots := 0, locals := 0 } : Room).cells ({ frames := 0, cells := 0, slots := 0, locals := 0 } : Room).slots) (ef_expect m tt) ?_
  show Go p e below _ (s₁.setTop (mkF m 0 #[.val (.int tt)] []))
  refine Go.by (fun t k => XS.iloadN X0.here hx rfl (hb hby d10_0) rfl k) ?_
  show Go p e below _ (s₁.setTop (mkF m 1 #[.val (.int tt)] [(.int tt)]))
  by_cases hc1 : tt = (0 : Int32)
  · skip
    refine Go.by (fun t k => XS.ifNo X0.here hx rfl (hb hby d10_1) rfl ((if0 _ _).trans (teq hc1).2) k) ?_
    show Go p e below _ (s₁.setTop (mkF m 4 #[.val (.int tt)] []))
    refine Go.by (fun t k => XS.iconst X0.here hx rfl (hb hby d10_4) k) ?_
    show Go p e below _ (s₁.setTop (mkF m 5 #[.val (.int tt)] [(.int (0 : Int32))]))
    have hq : Q_expect Z tt h0 n0 (some (.int (0 : Int32))) h0 _ := ⟨(by simp [own_ex, hc1]), N0, rfl⟩
    exact Go.retI X0 hx Bd.returns hlk (hb hby d10_5) (by decide) (by decide) (by rw [e0]; exact hq)
  · skip
    refine Go.by (fun t k => XS.ifYes X0.here hx rfl (pc0 := 1) (pc' := 6) rfl (hb hby d10_1) rfl ((if0 _ _).trans (feq hc1).2) (by decide) (by decide) k) ?_
    show Go p e below _ (s₁.setTop (mkF m 6 #[.val (.int tt)] []))
    refine Go.by (fun t k => XS.bipush X0.here hx rfl (hb hby d10_6) k) ?_
    show Go p e below _ (s₁.setTop (mkF m 8 #[.val (.int tt)] [(.int (8 : Int32))]))
    refine Go.by (fun t k => XS.iloadN X0.here hx rfl (hb hby d10_8) rfl k) ?_
    show Go p e below _ (s₁.setTop (mkF m 9 #[.val (.int tt)] [(.int tt), (.int (8 : Int32))]))
    refine Go.by (fun t k => XS.iadd X0.here hx rfl (hb hby d10_9) rfl k) ?_
    show Go p e below _ (s₁.setTop (mkF m 10 #[.val (.int tt)] [(.int ((8 : Int32) + tt))]))
    have hq : Q_expect Z tt h0 n0 (some (.int ((8 : Int32) + tt))) h0 _ := ⟨(by simp [own_ex, hc1]), N0, rfl⟩
    exact Go.retI X0 hx Bd.returns hlk (hb hby d10_10) (by decide) (by decide) (by rw [e0]; exact hq)
theorem d11_0 : decode jdk_29_method_65_code 0 = .ok (.iload_n 0, 1) := by decide +kernel
theorem d11_1 : decode jdk_29_method_65_code 1 = .ok (.iload_n 1, 1) := by decide +kernel
theorem d11_2 : decode jdk_29_method_65_code 2 = .ok (.if_icmp .lt 7, 3) := by decide +kernel
theorem d11_9 : decode jdk_29_method_65_code 9 = .ok (.iload_n 1, 1) := by decide +kernel
theorem d11_10 : decode jdk_29_method_65_code 10 = .ok (.ireturn, 1) := by decide +kernel
theorem d11_5 : decode jdk_29_method_65_code 5 = .ok (.iload_n 0, 1) := by decide +kernel
theorem d11_6 : decode jdk_29_method_65_code 6 = .ok (.goto 4, 3) := by decide +kernel
theorem ef_m_max (m : MethodId) (ux : Int32) (uy : Int32) : entryFrame m #[(.int ux), (.int uy)] 2 = mkF m 0 #[.val (.int ux), .val (.int uy)] [] := by first | (simp [entryFrame, mkF, argsToLocals, Value.category]; done) | rfl
def Q_m_max (Z : State) (ux : Int32) (uy : Int32) (h0 : Heap) (n0 : Nat) (v : Option Value) (h : Heap) (L : List Loc) : Prop := v = some (.int (own_mx ux uy)) ∧ Fr n0 L ∧ h = h0
set_option maxRecDepth 65536 in
set_option maxHeartbeats 40000000 in
theorem m_max (l : Launch) (Z : State) (a0 : Array Value) (hw : ∀ d ∈ tables_1, d.before a0 Z = true) (ws : List Jvm.Cond) (ux : Int32) (uy : Int32) (h0 : Heap) (n0 : Nat) (O0 : Old Z n0 h0) :
    MetFree l (⟨"java/lang/Math", "max", "(II)I"⟩ : MethodName) (head1 (Jvm.Cond.code (⟨"java/lang/Math", "max", "(II)I"⟩ : MethodName) jdk_29_method_65_code 2 (some .int) :: ws) ({ frames := 0, cells := 0, slots := 0, locals := 0 } : Room)) (fun a U => a = #[(.int ux), (.int uy)] ∧ Z.Warmed39 U.vm ∧ U.heap = h0) (fun _ _ _ _ _ => True) (fun _ U o U' => ∃ v L, o = .returned v ∧ Q_m_max Z ux uy h0 n0 v U'.heap L ∧ FrameEnd U o U' L ({ frames := 0, cells := 0, slots := 0, locals := 0 } : Room).cells ({ frames := 0, cells := 0, slots := 0, locals := 0 } : Room).slots) := by
  refine MetFree.of_bodySF (Jvm.Free.JP.mathPlain rfl (by decide +kernel)) hisR ?_
  intro p e s m args below meth c s₁ Bd hml0 hP hK
  obtain ⟨rfl, hZ, hh⟩ := hP
  have hx := Bd.exec
  have hby := Bd.bytes
  have hml : c.maxLocals = 2 := hml0
  have hown : s.vm.findClass "java/lang/Math" = some m.cls := findClass_of_methodNamed Bd.named
  have hnm := (name_of_methodNamed Bd.named Bd.method).1
  have hlk := BodyLoose.notSynchronized Bd
  have X0 : Stand p l e ({ frames := 0, cells := 0, slots := 0, locals := 0 } : Room) s m #[(.int ux), (.int uy)] below meth c s₁ [] 0 0 := Stand.of_body Bd
  have e0 : s₁.heap = h0 := by rw [← hh, Bd.state]; rfl
  have N0 := Fr.nil n0
  refine Go.start (P := fun o U' => ∃ v L, o = .returned v ∧ Q_m_max Z ux uy h0 n0 v U'.heap L ∧ FrameEnd s o U' L ({ frames := 0, cells := 0, slots := 0, locals := 0 } : Room).cells ({ frames := 0, cells := 0, slots := 0, locals := 0 } : Room).slots) (ef_m_max m ux uy) ?_
  show Go p e below _ (s₁.setTop (mkF m 0 #[.val (.int ux), .val (.int uy)] []))
  refine Go.by (fun t k => XS.iloadN X0.here hx rfl (hb hby d11_0) rfl k) ?_
  show Go p e below _ (s₁.setTop (mkF m 1 #[.val (.int ux), .val (.int uy)] [(.int ux)]))
  refine Go.by (fun t k => XS.iloadN X0.here hx rfl (hb hby d11_1) rfl k) ?_
  show Go p e below _ (s₁.setTop (mkF m 2 #[.val (.int ux), .val (.int uy)] [(.int uy), (.int ux)]))
  by_cases hc1 : ux < uy
  · skip
    refine Go.by (fun t k => XS.icmpYes X0.here hx rfl (pc0 := 2) (pc' := 9) rfl (hb hby d11_2) rfl (tlt hc1).1 (by decide) (by decide) k) ?_
    show Go p e below _ (s₁.setTop (mkF m 9 #[.val (.int ux), .val (.int uy)] []))
    refine Go.by (fun t k => XS.iloadN X0.here hx rfl (hb hby d11_9) rfl k) ?_
    show Go p e below _ (s₁.setTop (mkF m 10 #[.val (.int ux), .val (.int uy)] [(.int uy)]))
    have hq : Q_m_max Z ux uy h0 n0 (some (.int uy)) h0 _ := ⟨(by simp [own_mx, hc1]), N0, rfl⟩
    exact Go.retI X0 hx Bd.returns hlk (hb hby d11_10) (by decide) (by decide) (by rw [e0]; exact hq)
  · skip
    refine Go.by (fun t k => XS.icmpNo X0.here hx rfl (hb hby d11_2) rfl (flt hc1).1 k) ?_
    show Go p e below _ (s₁.setTop (mkF m 5 #[.val (.int ux), .val (.int uy)] []))
    refine Go.by (fun t k => XS.iloadN X0.here hx rfl (hb hby d11_5) rfl k) ?_
    show Go p e below _ (s₁.setTop (mkF m 6 #[.val (.int ux), .val (.int uy)] [(.int ux)]))
    refine Go.by (fun t k => XS.goto X0.here hx rfl (pc0 := 6) (pc' := 10) rfl (hb hby d11_6) (by decide) (by decide) k) ?_
    show Go p e below _ (s₁.setTop (mkF m 10 #[.val (.int ux), .val (.int uy)] [(.int ux)]))
    have hq : Q_m_max Z ux uy h0 n0 (some (.int ux)) h0 _ := ⟨(by simp [own_mx, hc1]), N0, rfl⟩
    exact Go.retI X0 hx Bd.returns hlk (hb hby d11_10) (by decide) (by decide) (by rw [e0]; exact hq)
theorem d13_0 : decode jdk_29_method_69_code 0 = .ok (.iload_n 0, 1) := by decide +kernel
theorem d13_1 : decode jdk_29_method_69_code 1 = .ok (.iload_n 1, 1) := by decide +kernel
theorem d13_2 : decode jdk_29_method_69_code 2 = .ok (.if_icmp .gt 7, 3) := by decide +kernel
theorem d13_5 : decode jdk_29_method_69_code 5 = .ok (.iload_n 0, 1) := by decide +kernel
theorem d13_6 : decode jdk_29_method_69_code 6 = .ok (.goto 4, 3) := by decide +kernel
theorem d13_10 : decode jdk_29_method_69_code 10 = .ok (.ireturn, 1) := by decide +kernel
theorem ef_m_min (m : MethodId) (ux : Int32) (uy : Int32) : entryFrame m #[(.int ux), (.int uy)] 2 = mkF m 0 #[.val (.int ux), .val (.int uy)] [] := by first | (simp [entryFrame, mkF, argsToLocals, Value.category]; done) | rfl
def Q_m_min (Z : State) (ux : Int32) (uy : Int32) (h0 : Heap) (n0 : Nat) (v : Option Value) (h : Heap) (L : List Loc) : Prop := v = some (.int ux) ∧ Fr n0 L ∧ h = h0
set_option maxRecDepth 65536 in
set_option maxHeartbeats 40000000 in
theorem m_min (l : Launch) (Z : State) (a0 : Array Value) (hw : ∀ d ∈ tables_1, d.before a0 Z = true) (ws : List Jvm.Cond) (ux : Int32) (uy : Int32) (h0 : Heap) (n0 : Nat) (O0 : Old Z n0 h0) (hmin : ¬ uy < ux) :
    MetFree l (⟨"java/lang/Math", "min", "(II)I"⟩ : MethodName) (head1 (Jvm.Cond.code (⟨"java/lang/Math", "min", "(II)I"⟩ : MethodName) jdk_29_method_69_code 2 (some .int) :: ws) ({ frames := 0, cells := 0, slots := 0, locals := 0 } : Room)) (fun a U => a = #[(.int ux), (.int uy)] ∧ Z.Warmed39 U.vm ∧ U.heap = h0) (fun _ _ _ _ _ => True) (fun _ U o U' => ∃ v L, o = .returned v ∧ Q_m_min Z ux uy h0 n0 v U'.heap L ∧ FrameEnd U o U' L ({ frames := 0, cells := 0, slots := 0, locals := 0 } : Room).cells ({ frames := 0, cells := 0, slots := 0, locals := 0 } : Room).slots) := by
  refine MetFree.of_bodySF (Jvm.Free.JP.mathPlain rfl (by decide +kernel)) hisR ?_
  intro p e s m args below meth c s₁ Bd hml0 hP hK
  obtain ⟨rfl, hZ, hh⟩ := hP
  have hx := Bd.exec
  have hby := Bd.bytes
  have hml : c.maxLocals = 2 := hml0
  have hown : s.vm.findClass "java/lang/Math" = some m.cls := findClass_of_methodNamed Bd.named
  have hnm := (name_of_methodNamed Bd.named Bd.method).1
  have hlk := BodyLoose.notSynchronized Bd
  have X0 : Stand p l e ({ frames := 0, cells := 0, slots := 0, locals := 0 } : Room) s m #[(.int ux), (.int uy)] below meth c s₁ [] 0 0 := Stand.of_body Bd
  have e0 : s₁.heap = h0 := by rw [← hh, Bd.state]; rfl
  have N0 := Fr.nil n0
  refine Go.start (P := fun o U' => ∃ v L, o = .returned v ∧ Q_m_min Z ux uy h0 n0 v U'.heap L ∧ FrameEnd s o U' L ({ frames := 0, cells := 0, slots := 0, locals := 0 } : Room).cells ({ frames := 0, cells := 0, slots := 0, locals := 0 } : Room).slots) (ef_m_min m ux uy) ?_
  show Go p e below _ (s₁.setTop (mkF m 0 #[.val (.int ux), .val (.int uy)] []))
  refine Go.by (fun t k => XS.iloadN X0.here hx rfl (hb hby d13_0) rfl k) ?_
  show Go p e below _ (s₁.setTop (mkF m 1 #[.val (.int ux), .val (.int uy)] [(.int ux)]))
  refine Go.by (fun t k => XS.iloadN X0.here hx rfl (hb hby d13_1) rfl k) ?_
  show Go p e below _ (s₁.setTop (mkF m 2 #[.val (.int ux), .val (.int uy)] [(.int uy), (.int ux)]))
  refine Go.by (fun t k => XS.icmpNo X0.here hx rfl (hb hby d13_2) rfl (flt hmin).2.2.1 k) ?_
  show Go p e below _ (s₁.setTop (mkF m 5 #[.val (.int ux), .val (.int uy)] []))
  refine Go.by (fun t k => XS.iloadN X0.here hx rfl (hb hby d13_5) rfl k) ?_
  show Go p e below _ (s₁.setTop (mkF m 6 #[.val (.int ux), .val (.int uy)] [(.int ux)]))
  refine Go.by (fun t k => XS.goto X0.here hx rfl (pc0 := 6) (pc' := 10) rfl (hb hby d13_6) (by decide) (by decide) k) ?_
  show Go p e below _ (s₁.setTop (mkF m 10 #[.val (.int ux), .val (.int uy)] [(.int ux)]))
  have hq : Q_m_min Z ux uy h0 n0 (some (.int ux)) h0 _ := ⟨rfl, N0, rfl⟩
  exact Go.retI X0 hx Bd.returns hlk (hb hby d13_10) (by decide) (by decide) (by rw [e0]; exact hq)
theorem pn_7 : plainName "java/util/Arrays" = true := by first | (simp [plainName, overriddenIn]; done) | decide +kernel
theorem d12_0 : decode jdk_65_method_121_code 0 = .ok (.iload_n 1, 1) := by decide +kernel
theorem d12_1 : decode jdk_65_method_121_code 1 = .ok (.aload_n 0, 1) := by decide +kernel
theorem d12_2 : decode jdk_65_method_121_code 2 = .ok (.arraylength, 1) := by decide +kernel
theorem d12_3 : decode jdk_65_method_121_code 3 = .ok (.if_icmp .ne 11, 3) := by decide +kernel
theorem d12_14 : decode jdk_65_method_121_code 14 = .ok (.iload_n 1, 1) := by decide +kernel
theorem d12_15 : decode jdk_65_method_121_code 15 = .ok (.newarray .byte, 2) := by decide +kernel
theorem d12_17 : decode jdk_65_method_121_code 17 = .ok (.astore_n 2, 1) := by decide +kernel
theorem d12_18 : decode jdk_65_method_121_code 18 = .ok (.aload_n 0, 1) := by decide +kernel
theorem d12_19 : decode jdk_65_method_121_code 19 = .ok (.iconst 0, 1) := by decide +kernel
theorem d12_20 : decode jdk_65_method_121_code 20 = .ok (.aload_n 2, 1) := by decide +kernel
theorem d12_21 : decode jdk_65_method_121_code 21 = .ok (.iconst 0, 1) := by decide +kernel
theorem d12_22 : decode jdk_65_method_121_code 22 = .ok (.aload_n 0, 1) := by decide +kernel
theorem d12_23 : decode jdk_65_method_121_code 23 = .ok (.arraylength, 1) := by decide +kernel
theorem d12_24 : decode jdk_65_method_121_code 24 = .ok (.iload_n 1, 1) := by decide +kernel
theorem d12_25 : decode jdk_65_method_121_code 25 = .ok (.invokestatic 304, 3) := by decide +kernel
theorem pd_1 : parseMethodDescriptor "(II)I" = some ⟨[.int, .int], some .int⟩ := by decide +kernel
theorem d12_28 : decode jdk_65_method_121_code 28 = .ok (.invokestatic 150, 3) := by decide +kernel
theorem d12_31 : decode jdk_65_method_121_code 31 = .ok (.aload_n 2, 1) := by decide +kernel
theorem d12_32 : decode jdk_65_method_121_code 32 = .ok (.areturn, 1) := by decide +kernel
theorem ef_copyOf (m : MethodId) (sr : Addr) (nl : Int32) : entryFrame m #[(.ref sr), (.int nl)] 3 = mkF m 0 #[.val (.ref sr), .val (.int nl), .unset] [] := by first | (simp [entryFrame, mkF, argsToLocals, Value.category]; done) | rfl
def Q_copyOf (Z : State) (sr : Addr) (nl : Int32) (zz : Int32) (h0 : Heap) (n0 : Nat) (v : Option Value) (h : Heap) (L : List Loc) : Prop := ∃ nb : Addr, v = some (.ref nb) ∧ Fr n0 L ∧ Keep h0 h [] ∧ h0.size ≤ nb ∧ own_By Z h nb nl
set_option maxRecDepth 65536 in
set_option maxHeartbeats 40000000 in
theorem copyOf (l : Launch) (Z : State) (a0 : Array Value) (hw : ∀ d ∈ tables_1, d.before a0 Z = true) (ws : List Jvm.Cond) (sr : Addr) (nl : Int32) (zz : Int32) (h0 : Heap) (n0 : Nat) (O0 : Old Z n0 h0) (P0 : own_By Z h0 sr zz) (hz : 0 ≤ zz.toInt) (hlt : zz.toInt < nl.toInt) (hle : nl.toInt ≤ 2076) :
    MetFree l (⟨"java/util/Arrays", "copyOf", "([BI)[B"⟩ : MethodName) (head1 (Jvm.Cond.code (⟨"java/util/Arrays", "copyOf", "([BI)[B"⟩ : MethodName) jdk_65_method_121_code 3 (some (.array .byte)) :: ws) ({ frames := 1, cells := 1, slots := 2076, locals := 18 } : Room)) (fun a U => a = #[(.ref sr), (.int nl)] ∧ Z.Warmed39 U.vm ∧ U.heap = h0) (fun _ _ _ _ _ => True) (fun _ U o U' => ∃ v L, o = .returned v ∧ Q_copyOf Z sr nl zz h0 n0 v U'.heap L ∧ FrameEnd U o U' L ({ frames := 1, cells := 1, slots := 2076, locals := 18 } : Room).cells ({ frames := 1, cells := 1, slots := 2076, locals := 18 } : Room).slots) := by
  refine MetFree.of_bodySF (plainFor_of_name pn_7) hisR ?_
  intro p e s m args below meth c s₁ Bd hml0 hP hK
  obtain ⟨rfl, hZ, hh⟩ := hP
  have hx := Bd.exec
  have hby := Bd.bytes
  have hml : c.maxLocals = 3 := hml0
  have hown : s.vm.findClass "java/util/Arrays" = some m.cls := findClass_of_methodNamed Bd.named
  have hnm := (name_of_methodNamed Bd.named Bd.method).1
  have hlk := BodyLoose.notSynchronized Bd
  have X0 : Stand p l e ({ frames := 1, cells := 1, slots := 2076, locals := 18 } : Room) s m #[(.ref sr), (.int nl)] below meth c s₁ [] 0 0 := Stand.of_body Bd
  have e0 : s₁.heap = h0 := by rw [← hh, Bd.state]; rfl
  have N0 := Fr.nil n0
  refine Go.start (P := fun o U' => ∃ v L, o = .returned v ∧ Q_copyOf Z sr nl zz h0 n0 v U'.heap L ∧ FrameEnd s o U' L ({ frames := 1, cells := 1, slots := 2076, locals := 18 } : Room).cells ({ frames := 1, cells := 1, slots := 2076, locals := 18 } : Room).slots) (ef_copyOf m sr nl) ?_
  show Go p e below _ (s₁.setTop (mkF m 0 #[.val (.ref sr), .val (.int nl), .unset] []))
  refine Go.by (fun t k => XS.iloadN X0.here hx rfl (hb hby d12_0) rfl k) ?_
  show Go p e below _ (s₁.setTop (mkF m 1 #[.val (.ref sr), .val (.int nl), .unset] [(.int nl)]))
  refine Go.by (fun t k => XS.aloadN X0.here hx rfl (hb hby d12_1) rfl rfl k) ?_
  show Go p e below _ (s₁.setTop (mkF m 2 #[.val (.ref sr), .val (.int nl), .unset] [(.ref sr), (.int nl)]))
  obtain ⟨_, _, ⟨cl1, Ar1, -, sz1, nn1, -, -⟩, -⟩ := id P0
  have hl1 : cl1.slots.size.toInt32 = zz := len_of sz1 nn1
  refine Go.by (fun t k => X0.arraylength hx (by rw [e0]; exact Ar1.1) (State.isArrayOf_alike hZ.alike Ar1.2.1) (g := (mkF m 2 #[.val (.ref sr), .val (.int nl), .unset] [(.ref sr), (.int nl)])) rfl rfl (hb hby d12_2) t (by rw [hl1]; exact k)) ?_
  show Go p e below _ (s₁.setTop (mkF m 3 #[.val (.ref sr), .val (.int nl), .unset] [(.int zz), (.int nl)]))
  refine Go.by (fun t k => XS.icmpYes X0.here hx rfl (pc0 := 3) (pc' := 14) rfl (hb hby d12_3) rfl (feq (fun q => by rw [q] at hlt; omega)).2 (by decide) (by decide) k) ?_
  show Go p e below _ (s₁.setTop (mkF m 14 #[.val (.ref sr), .val (.int nl), .unset] []))
  refine Go.by (fun t k => XS.iloadN X0.here hx rfl (hb hby d12_14) rfl k) ?_
  show Go p e below _ (s₁.setTop (mkF m 15 #[.val (.ref sr), .val (.int nl), .unset] [(.int nl)]))
  obtain ⟨T2, h2, k2, X2, e2, E2, A2, Q2, st2⟩ := newPE X0 hx hZ (hw _ (List.mem_of_getElem? (i := 0) rfl)) e0 (g := (mkF m 15 #[.val (.ref sr), .val (.int nl), .unset] [(.int nl)])) rfl (hb hby d12_15) rfl (own_nn (by omega)) (cap := 2076) (by have := own_nat (x := nl) (by omega); omega) (by decide) (by decide) (by decide) (ad := "[B") (by decide)
  obtain ⟨b2, g2⟩ : ∃ z, z = h0.size := ⟨_, rfl⟩
  rw [← g2] at A2 Q2 st2
  have gl2 : h0.size ≤ b2 := Nat.le_of_eq g2.symm
  have ge2 : n0 ≤ b2 := Nat.le_trans (own_old_size O0) gl2
  have sz2 : h0.size ≤ b2 := Nat.le_trans (Keep.refl h0 []).1 gl2
  have ne3 : sr ≠ b2 := Nat.ne_of_lt (Nat.lt_of_lt_of_le P0.lt gl2)
  have F4 : own_By Z h2 b2 nl := own_By.new A2 (own_nn (by omega))
  refine Go.by st2 ?_
  show Go p e below _ (T2.setTop (mkF m 17 #[.val (.ref sr), .val (.int nl), .unset] [(.ref b2)]))
  refine Go.by (fun t k => XS.astoreN X2.here hx rfl (hb hby d12_17) rfl rfl (l' := #[.val (.ref sr), .val (.int nl), .val (.ref b2)]) rfl k) ?_
  show Go p e below _ (T2.setTop (mkF m 18 #[.val (.ref sr), .val (.int nl), .val (.ref b2)] []))
  refine Go.by (fun t k => XS.aloadN X2.here hx rfl (hb hby d12_18) rfl rfl k) ?_
  show Go p e below _ (T2.setTop (mkF m 19 #[.val (.ref sr), .val (.int nl), .val (.ref b2)] [(.ref sr)]))
  refine Go.by (fun t k => XS.iconst X2.here hx rfl (hb hby d12_19) k) ?_
  show Go p e below _ (T2.setTop (mkF m 20 #[.val (.ref sr), .val (.int nl), .val (.ref b2)] [(.int (0 : Int32)), (.ref sr)]))
  refine Go.by (fun t k => XS.aloadN X2.here hx rfl (hb hby d12_20) rfl rfl k) ?_
  show Go p e below _ (T2.setTop (mkF m 21 #[.val (.ref sr), .val (.int nl), .val (.ref b2)] [(.ref b2), (.int (0 : Int32)), (.ref sr)]))
  refine Go.by (fun t k => XS.iconst X2.here hx rfl (hb hby d12_21) k) ?_
  show Go p e below _ (T2.setTop (mkF m 22 #[.val (.ref sr), .val (.int nl), .val (.ref b2)] [(.int (0 : Int32)), (.ref b2), (.int (0 : Int32)), (.ref sr)]))
  refine Go.by (fun t k => XS.aloadN X2.here hx rfl (hb hby d12_22) rfl rfl k) ?_
  show Go p e below _ (T2.setTop (mkF m 23 #[.val (.ref sr), .val (.int nl), .val (.ref b2)] [(.ref sr), (.int (0 : Int32)), (.ref b2), (.int (0 : Int32)), (.ref sr)]))
  have F5 : own_By Z h2 sr zz := (P0.ext E2)
  obtain ⟨_, _, ⟨cl6, Ar6, -, sz6, nn6, -, -⟩, -⟩ := id F5
  have hl6 : cl6.slots.size.toInt32 = zz := len_of sz6 nn6
  refine Go.by (fun t k => X2.arraylength hx (by rw [e2]; exact Ar6.1) (State.isArrayOf_alike hZ.alike Ar6.2.1) (g := (mkF m 23 #[.val (.ref sr), .val (.int nl), .val (.ref b2)] [(.ref sr), (.int (0 : Int32)), (.ref b2), (.int (0 : Int32)), (.ref sr)])) rfl rfl (hb hby d12_23) t (by rw [hl6]; exact k)) ?_
  show Go p e below _ (T2.setTop (mkF m 24 #[.val (.ref sr), .val (.int nl), .val (.ref b2)] [(.int zz), (.int (0 : Int32)), (.ref b2), (.int (0 : Int32)), (.ref sr)]))
  refine Go.by (fun t k => XS.iloadN X2.here hx rfl (hb hby d12_24) rfl k) ?_
  show Go p e below _ (T2.setTop (mkF m 25 #[.val (.ref sr), .val (.int nl), .val (.ref b2)] [(.int nl), (.int zz), (.int (0 : Int32)), (.ref b2), (.int (0 : Int32)), (.ref sr)]))
  have F8 : Old Z n0 h2 := (O0.ext E2)
  have F9 : Keep h0 h2 [] := ((Keep.refl h0 []).ext E2)
  obtain ⟨_, _, ⟨T7, L7, k7, n7⟩, -, X7, ⟨Lc7, hQ7, l7, y7, z7⟩, st7⟩ := Jvm.LawKit.callS X2 hx (y := (⟨"java/lang/Math", "min", "(II)I"⟩ : MethodName)) hown (mvT hZ (hw _ (List.mem_of_getElem? (i := 84) rfl))) (mvT hZ (hw _ (List.mem_of_getElem? (i := 85) rfl))) (mvT hZ (hw _ (List.mem_of_getElem? (i := 78) rfl))) (mvT hZ (hw _ (List.mem_of_getElem? (i := 86) rfl))) (by decide) (backOf (W := 4) (m_min l Z a0 hw [] zz nl h2 n0 F8 (by rw [Int32.lt_iff_toInt_lt]; omega : ¬ nl < zz)) hZ (hw _ (List.mem_of_getElem? (i := 86) rfl)) (hw _ (List.mem_of_getElem? (i := 78) rfl)) (by decide) (by decide)) (g := (mkF m 25 #[.val (.ref sr), .val (.int nl), .val (.ref b2)] [(.int nl), (.int zz), (.int (0 : Int32)), (.ref b2), (.int (0 : Int32)), (.ref sr)])) rfl (by rw [hml]; rfl) (argsL := [(.int zz), (.int nl)]) (rest := [(.int (0 : Int32)), (.ref b2), (.int (0 : Int32)), (.ref sr)]) (lenOf pd_1 rfl) rfl (by show 2 * 0 + _ ≤ _; exact Nat.le_of_eq rfl) (hb hby d12_25) (fun _ _ => ⟨rfl, e2, (by decide : 1 + 0 ≤ _), (by decide : 2076 + 0 ≤ _)⟩)
  dsimp only [Pt.U, Pt.locs, Pt.cells, Pt.slots] at X7 l7 y7 z7 st7 hQ7
  subst l7 y7 z7
  obtain ⟨rfl, N7q, e7⟩ := hQ7
  have N7 := Fr.app N0 N7q
  refine Go.by st7 ?_
  show Go p e below _ (T7.setTop (mkF m 28 #[.val (.ref sr), .val (.int nl), .val (.ref b2)] [(.int zz), (.int (0 : Int32)), (.ref b2), (.int (0 : Int32)), (.ref sr)]))
  obtain ⟨_, va10, Aa10, la10⟩ := id F5
  obtain ⟨_, vb10, Bb10, lb10⟩ := id F4
  obtain ⟨T10, h10, L10, X10, e10, N10, K10, V10, st10⟩ := cpA X7 hx hZ hown (hw _ (List.mem_of_getElem? (i := 87) rfl)) (hw _ (List.mem_of_getElem? (i := 71) rfl)) (hw _ (List.mem_of_getElem? (i := 69) rfl)) (hw _ (List.mem_of_getElem? (i := 70) rfl)) e7 Aa10 Bb10 (Or.inl ⟨rfl, rfl⟩) (sp := (0 : Int32)) (dp := (0 : Int32)) (nn := zz) (by decide) (by decide) (own_nn hz) (by show 0 + _ ≤ _; omega) (by show 0 + _ ≤ _; have := own_nat (x := nl) (by omega); have := own_nat hz; omega) rfl (by rw [lb10]; exact (by show 0 + _ ≤ _; have := own_nat (x := nl) (by omega); have := own_nat hz; omega)) N7 ge2 (g := (mkF m 28 #[.val (.ref sr), .val (.int nl), .val (.ref b2)] [(.int zz), (.int (0 : Int32)), (.ref b2), (.int (0 : Int32)), (.ref sr)])) rfl (by rw [hml]; rfl) rfl (hb hby d12_28) (by decide) (W := 0) (by show 2 * 0 + _ ≤ _; exact Nat.le_of_eq rfl) (by decide)
  have F11 : own_By Z h10 b2 nl := own_By.copied V10 lb10 (by show 0 + _ ≤ _; have := own_nat (x := nl) (by omega); have := own_nat hz; omega)
  refine Go.by st10 ?_
  show Go p e below _ (T10.setTop (mkF m 31 #[.val (.ref sr), .val (.int nl), .val (.ref b2)] []))
  refine Go.by (fun t k => XS.aloadN X10.here hx rfl (hb hby d12_31) rfl rfl k) ?_
  show Go p e below _ (T10.setTop (mkF m 32 #[.val (.ref sr), .val (.int nl), .val (.ref b2)] [(.ref b2)]))
  have F12 : Keep h0 h10 [] := (F9.trans K10 (allS (Or.inr sz2) all0))
  have hq : Q_copyOf Z sr nl zz h0 n0 (some (.ref b2)) h10 _ := ⟨b2, rfl, N10, F12, sz2, F11⟩
  exact Go.retA X10 hx Bd.returns rfl rfl hlk (hb hby d12_32) (by decide) (by decide) (by rw [e10]; exact hq)
theorem d9_0 : decode prog_1_method_3_code 0 = .ok (.aload_n 0, 1) := by decide +kernel
theorem d9_1 : decode prog_1_method_3_code 1 = .ok (.getfield 29, 3) := by decide +kernel
theorem d9_4 : decode prog_1_method_3_code 4 = .ok (.aload_n 1, 1) := by decide +kernel
theorem d9_5 : decode prog_1_method_3_code 5 = .ok (.arraylength, 1) := by decide +kernel
theorem d9_6 : decode prog_1_method_3_code 6 = .ok (.iadd, 1) := by decide +kernel
theorem d9_7 : decode prog_1_method_3_code 7 = .ok (.aload_n 0, 1) := by decide +kernel
theorem d9_8 : decode prog_1_method_3_code 8 = .ok (.getfield 23, 3) := by decide +kernel
theorem d9_11 : decode prog_1_method_3_code 11 = .ok (.arraylength, 1) := by decide +kernel
theorem d9_12 : decode prog_1_method_3_code 12 = .ok (.if_icmp .le 31, 3) := by decide +kernel
theorem d9_15 : decode prog_1_method_3_code 15 = .ok (.aload_n 0, 1) := by decide +kernel
theorem d9_16 : decode prog_1_method_3_code 16 = .ok (.aload_n 0, 1) := by decide +kernel
theorem d9_17 : decode prog_1_method_3_code 17 = .ok (.getfield 23, 3) := by decide +kernel
theorem d9_20 : decode prog_1_method_3_code 20 = .ok (.iconst 2, 1) := by decide +kernel
theorem d9_21 : decode prog_1_method_3_code 21 = .ok (.aload_n 0, 1) := by decide +kernel
theorem d9_22 : decode prog_1_method_3_code 22 = .ok (.getfield 23, 3) := by decide +kernel
theorem d9_25 : decode prog_1_method_3_code 25 = .ok (.arraylength, 1) := by decide +kernel
theorem d9_26 : decode prog_1_method_3_code 26 = .ok (.imul, 1) := by decide +kernel
theorem d9_27 : decode prog_1_method_3_code 27 = .ok (.aload_n 0, 1) := by decide +kernel
theorem d9_28 : decode prog_1_method_3_code 28 = .ok (.getfield 29, 3) := by decide +kernel
theorem d9_31 : decode prog_1_method_3_code 31 = .ok (.aload_n 1, 1) := by decide +kernel
theorem d9_32 : decode prog_1_method_3_code 32 = .ok (.arraylength, 1) := by decide +kernel
theorem d9_33 : decode prog_1_method_3_code 33 = .ok (.iadd, 1) := by decide +kernel
theorem d9_34 : decode prog_1_method_3_code 34 = .ok (.invokestatic 58, 3) := by decide +kernel
theorem d9_37 : decode prog_1_method_3_code 37 = .ok (.invokestatic 64, 3) := by decide +kernel
theorem pd_2 : parseMethodDescriptor "([BI)[B" = some ⟨[(.array .byte), .int], some (.array .byte)⟩ := by decide +kernel
theorem d9_40 : decode prog_1_method_3_code 40 = .ok (.putfield 23, 3) := by decide +kernel
theorem d9_43 : decode prog_1_method_3_code 43 = .ok (.aload_n 1, 1) := by decide +kernel
theorem d9_44 : decode prog_1_method_3_code 44 = .ok (.iconst 0, 1) := by decide +kernel
theorem d9_45 : decode prog_1_method_3_code 45 = .ok (.aload_n 0, 1) := by decide +kernel
theorem d9_46 : decode prog_1_method_3_code 46 = .ok (.getfield 23, 3) := by decide +kernel
theorem d9_49 : decode prog_1_method_3_code 49 = .ok (.aload_n 0, 1) := by decide +kernel
theorem d9_50 : decode prog_1_method_3_code 50 = .ok (.getfield 29, 3) := by decide +kernel
theorem d9_53 : decode prog_1_method_3_code 53 = .ok (.aload_n 1, 1) := by decide +kernel
theorem d9_54 : decode prog_1_method_3_code 54 = .ok (.arraylength, 1) := by decide +kernel
theorem d9_55 : decode prog_1_method_3_code 55 = .ok (.invokestatic 70, 3) := by decide +kernel
theorem d9_58 : decode prog_1_method_3_code 58 = .ok (.aload_n 0, 1) := by decide +kernel
theorem d9_59 : decode prog_1_method_3_code 59 = .ok (.dup, 1) := by decide +kernel
theorem d9_60 : decode prog_1_method_3_code 60 = .ok (.getfield 29, 3) := by decide +kernel
theorem d9_63 : decode prog_1_method_3_code 63 = .ok (.aload_n 1, 1) := by decide +kernel
theorem d9_64 : decode prog_1_method_3_code 64 = .ok (.arraylength, 1) := by decide +kernel
theorem d9_65 : decode prog_1_method_3_code 65 = .ok (.iadd, 1) := by decide +kernel
theorem d9_66 : decode prog_1_method_3_code 66 = .ok (.putfield 29, 3) := by decide +kernel
theorem d9_69 : decode prog_1_method_3_code 69 = .ok (.return_, 1) := by decide +kernel
theorem ef_b_add (m : MethodId) (ob : Addr) (ra : Addr) : entryFrame m #[(.ref ob), (.ref ra)] 2 = mkF m 0 #[.val (.ref ob), .val (.ref ra)] [] := by first | (simp [entryFrame, mkF, argsToLocals, Value.category]; done) | rfl
def Q_b_add (Z : State) (ob : Addr) (ra : Addr) (sv : Int32) (bya : Addr) (zb : Int32) (zr : Int32) (h0 : Heap) (n0 : Nat) (v : Option Value) (h : Heap) (L : List Loc) : Prop := ∃ by2 : Addr, ∃ zb2 : Int32, v = none ∧ Fr n0 L ∧ Keep h0 h [ob, bya] ∧ (by2 = bya ∨ h0.size ≤ by2) ∧ Exa Z h ob "com/example/whole_commit/wholecommit/Batch" ∧ Fld Z h ob "com/example/whole_commit/wholecommit/Batch" "size" "I" (.int (sv + zr)) ∧ Fld Z h ob "com/example/whole_commit/wholecommit/Batch" "bytes" "[B" (.ref by2) ∧ own_By Z h by2 zb2 ∧ own_By Z h ra zr ∧ ((sv + zr).toInt ≤ zb2.toInt ∧ (zb2.toInt ≤ 2 * zb.toInt ∨ zb2.toInt ≤ sv.toInt + zr.toInt)) ∧ (by2 ≠ ob)
set_option maxRecDepth 65536 in
set_option maxHeartbeats 40000000 in
theorem b_add (l : Launch) (Z : State) (a0 : Array Value) (hw : ∀ d ∈ tables_1, d.before a0 Z = true) (ws : List Jvm.Cond) (ob : Addr) (ra : Addr) (sv : Int32) (bya : Addr) (zb : Int32) (zr : Int32) (h0 : Heap) (n0 : Nat) (O0 : Old Z n0 h0) (P0 : Exa Z h0 ob "com/example/whole_commit/wholecommit/Batch") (P1 : Fld Z h0 ob "com/example/whole_commit/wholecommit/Batch" "size" "I" (.int sv)) (P2 : Fld Z h0 ob "com/example/whole_commit/wholecommit/Batch" "bytes" "[B" (.ref bya)) (P3 : own_By Z h0 bya zb) (P4 : own_By Z h0 ra zr) (gob : n0 ≤ ob) (gby : n0 ≤ bya) (nrb : ra ≠ bya) (nro : ra ≠ ob) (nbo : bya ≠ ob) (hs : 0 ≤ sv.toInt ∧ sv.toInt ≤ 1030) (hzb : sv.toInt ≤ zb.toInt ∧ zb.toInt ≤ 1038) (hzr : 0 ≤ zr.toInt ∧ zr.toInt ≤ 511) :
    MetFree l (⟨"com/example/whole_commit/wholecommit/Batch", "add", "([B)V"⟩ : MethodName) (head1 (Jvm.Cond.code (⟨"com/example/whole_commit/wholecommit/Batch", "add", "([B)V"⟩ : MethodName) prog_1_method_3_code 2 none :: ws) ({ frames := 2, cells := 1, slots := 2076, locals := 33 } : Room)) (fun a U => a = #[(.ref ob), (.ref ra)] ∧ Z.Warmed39 U.vm ∧ U.heap = h0) (fun _ _ _ _ _ => True) (fun _ U o U' => ∃ v L, o = .returned v ∧ Q_b_add Z ob ra sv bya zb zr h0 n0 v U'.heap L ∧ FrameEnd U o U' L ({ frames := 2, cells := 1, slots := 2076, locals := 33 } : Room).cells ({ frames := 2, cells := 1, slots := 2076, locals := 33 } : Room).slots) := by
  refine MetFree.of_bodySF (plainFor_of_name pn_5) hisR ?_
  intro p e s m args below meth c s₁ Bd hml0 hP hK
  obtain ⟨rfl, hZ, hh⟩ := hP
  have hx := Bd.exec
  have hby := Bd.bytes
  have hml : c.maxLocals = 2 := hml0
  have hown : s.vm.findClass "com/example/whole_commit/wholecommit/Batch" = some m.cls := findClass_of_methodNamed Bd.named
  have hnm := (name_of_methodNamed Bd.named Bd.method).1
  have hlk := BodyLoose.notSynchronized Bd
  have X0 : Stand p l e ({ frames := 2, cells := 1, slots := 2076, locals := 33 } : Room) s m #[(.ref ob), (.ref ra)] below meth c s₁ [] 0 0 := Stand.of_body Bd
  have e0 : s₁.heap = h0 := by rw [← hh, Bd.state]; rfl
  have N0 := Fr.nil n0
  refine Go.start (P := fun o U' => ∃ v L, o = .returned v ∧ Q_b_add Z ob ra sv bya zb zr h0 n0 v U'.heap L ∧ FrameEnd s o U' L ({ frames := 2, cells := 1, slots := 2076, locals := 33 } : Room).cells ({ frames := 2, cells := 1, slots := 2076, locals := 33 } : Room).slots) (ef_b_add m ob ra) ?_
  show Go p e below _ (s₁.setTop (mkF m 0 #[.val (.ref ob), .val (.ref ra)] []))
  have eA := own_add (x := sv) (y := zr) (by omega) (by omega)
  have e2 := own_two (x := zb) (by omega) (by omega)
  have eM := own_mx_int ((2 : Int32) * zb) (sv + zr)
  refine Go.by (fun t k => XS.aloadN X0.here hx rfl (hb hby d9_0) rfl rfl k) ?_
  show Go p e below _ (s₁.setTop (mkF m 1 #[.val (.ref ob), .val (.ref ra)] [(.ref ob)]))
  obtain ⟨T1, X1, e1, st1⟩ := getF X0 hx hZ hown (host := "") (Or.inl (hw _ (List.mem_of_getElem? (i := 56) rfl))) Via.refl e0 P1 (g := (mkF m 1 #[.val (.ref ob), .val (.ref ra)] [(.ref ob)])) rfl rfl (hb hby d9_1)
  refine Go.by st1 ?_
  show Go p e below _ (T1.setTop (mkF m 4 #[.val (.ref ob), .val (.ref ra)] [(.int sv)]))
  refine Go.by (fun t k => XS.aloadN X1.here hx rfl (hb hby d9_4) rfl rfl k) ?_
  show Go p e below _ (T1.setTop (mkF m 5 #[.val (.ref ob), .val (.ref ra)] [(.ref ra), (.int sv)]))
  obtain ⟨_, _, ⟨cl2, Ar2, -, sz2, nn2, -, -⟩, -⟩ := id P4
  have hl2 : cl2.slots.size.toInt32 = zr := len_of sz2 nn2
  refine Go.by (fun t k => X1.arraylength hx (by rw [e1]; exact Ar2.1) (State.isArrayOf_alike hZ.alike Ar2.2.1) (g := (mkF m 5 #[.val (.ref ob), .val (.ref ra)] [(.ref ra), (.int sv)])) rfl rfl (hb hby d9_5) t (by rw [hl2]; exact k)) ?_
  show Go p e below _ (T1.setTop (mkF m 6 #[.val (.ref ob), .val (.ref ra)] [(.int zr), (.int sv)]))
  refine Go.by (fun t k => XS.iadd X1.here hx rfl (hb hby d9_6) rfl k) ?_
  show Go p e below _ (T1.setTop (mkF m 7 #[.val (.ref ob), .val (.ref ra)] [(.int (sv + zr))]))
  refine Go.by (fun t k => XS.aloadN X1.here hx rfl (hb hby d9_7) rfl rfl k) ?_
  show Go p e below _ (T1.setTop (mkF m 8 #[.val (.ref ob), .val (.ref ra)] [(.ref ob), (.int (sv + zr))]))
  obtain ⟨T3, X3, e3, st3⟩ := getF X1 hx hZ hown (host := "") (Or.inl (hw _ (List.mem_of_getElem? (i := 54) rfl))) Via.refl e1 P2 (g := (mkF m 8 #[.val (.ref ob), .val (.ref ra)] [(.ref ob), (.int (sv + zr))])) rfl rfl (hb hby d9_8)
  refine Go.by st3 ?_
  show Go p e below _ (T3.setTop (mkF m 11 #[.val (.ref ob), .val (.ref ra)] [(.ref bya), (.int (sv + zr))]))
  obtain ⟨_, _, ⟨cl4, Ar4, -, sz4, nn4, -, -⟩, -⟩ := id P3
  have hl4 : cl4.slots.size.toInt32 = zb := len_of sz4 nn4
  refine Go.by (fun t k => X3.arraylength hx (by rw [e3]; exact Ar4.1) (State.isArrayOf_alike hZ.alike Ar4.2.1) (g := (mkF m 11 #[.val (.ref ob), .val (.ref ra)] [(.ref bya), (.int (sv + zr))])) rfl rfl (hb hby d9_11) t (by rw [hl4]; exact k)) ?_
  show Go p e below _ (T3.setTop (mkF m 12 #[.val (.ref ob), .val (.ref ra)] [(.int zb), (.int (sv + zr))]))
  by_cases hc5 : zb < (sv + zr)
  · skip
    refine Go.by (fun t k => XS.icmpNo X3.here hx rfl (hb hby d9_12) rfl (tlt hc5).2.2.2 k) ?_
    show Go p e below _ (T3.setTop (mkF m 15 #[.val (.ref ob), .val (.ref ra)] []))
    refine Go.by (fun t k => XS.aloadN X3.here hx rfl (hb hby d9_15) rfl rfl k) ?_
    show Go p e below _ (T3.setTop (mkF m 16 #[.val (.ref ob), .val (.ref ra)] [(.ref ob)]))
    refine Go.by (fun t k => XS.aloadN X3.here hx rfl (hb hby d9_16) rfl rfl k) ?_
    show Go p e below _ (T3.setTop (mkF m 17 #[.val (.ref ob), .val (.ref ra)] [(.ref ob), (.ref ob)]))
    obtain ⟨T6, X6, e6, st6⟩ := getF X3 hx hZ hown (host := "") (Or.inl (hw _ (List.mem_of_getElem? (i := 54) rfl))) Via.refl e3 P2 (g := (mkF m 17 #[.val (.ref ob), .val (.ref ra)] [(.ref ob), (.ref ob)])) rfl rfl (hb hby d9_17)
    refine Go.by st6 ?_
    show Go p e below _ (T6.setTop (mkF m 20 #[.val (.ref ob), .val (.ref ra)] [(.ref bya), (.ref ob)]))
    refine Go.by (fun t k => XS.iconst X6.here hx rfl (hb hby d9_20) k) ?_
    show Go p e below _ (T6.setTop (mkF m 21 #[.val (.ref ob), .val (.ref ra)] [(.int (2 : Int32)), (.ref bya), (.ref ob)]))
    refine Go.by (fun t k => XS.aloadN X6.here hx rfl (hb hby d9_21) rfl rfl k) ?_
    show Go p e below _ (T6.setTop (mkF m 22 #[.val (.ref ob), .val (.ref ra)] [(.ref ob), (.int (2 : Int32)), (.ref bya), (.ref ob)]))
    obtain ⟨T7, X7, e7, st7⟩ := getF X6 hx hZ hown (host := "") (Or.inl (hw _ (List.mem_of_getElem? (i := 54) rfl))) Via.refl e6 P2 (g := (mkF m 22 #[.val (.ref ob), .val (.ref ra)] [(.ref ob), (.int (2 : Int32)), (.ref bya), (.ref ob)])) rfl rfl (hb hby d9_22)
    refine Go.by st7 ?_
    show Go p e below _ (T7.setTop (mkF m 25 #[.val (.ref ob), .val (.ref ra)] [(.ref bya), (.int (2 : Int32)), (.ref bya), (.ref ob)]))
    obtain ⟨_, _, ⟨cl8, Ar8, -, sz8, nn8, -, -⟩, -⟩ := id P3
    have hl8 : cl8.slots.size.toInt32 = zb := len_of sz8 nn8
    refine Go.by (fun t k => X7.arraylength hx (by rw [e7]; exact Ar8.1) (State.isArrayOf_alike hZ.alike Ar8.2.1) (g := (mkF m 25 #[.val (.ref ob), .val (.ref ra)] [(.ref bya), (.int (2 : Int32)), (.ref bya), (.ref ob)])) rfl rfl (hb hby d9_25) t (by rw [hl8]; exact k)) ?_
    show Go p e below _ (T7.setTop (mkF m 26 #[.val (.ref ob), .val (.ref ra)] [(.int zb), (.int (2 : Int32)), (.ref bya), (.ref ob)]))
    refine Go.by (fun t k => XS.imul X7.here hx rfl (hb hby d9_26) rfl k) ?_
    show Go p e below _ (T7.setTop (mkF m 27 #[.val (.ref ob), .val (.ref ra)] [(.int ((2 : Int32) * zb)), (.ref bya), (.ref ob)]))
    refine Go.by (fun t k => XS.aloadN X7.here hx rfl (hb hby d9_27) rfl rfl k) ?_
    show Go p e below _ (T7.setTop (mkF m 28 #[.val (.ref ob), .val (.ref ra)] [(.ref ob), (.int ((2 : Int32) * zb)), (.ref bya), (.ref ob)]))
    obtain ⟨T9, X9, e9, st9⟩ := getF X7 hx hZ hown (host := "") (Or.inl (hw _ (List.mem_of_getElem? (i := 56) rfl))) Via.refl e7 P1 (g := (mkF m 28 #[.val (.ref ob), .val (.ref ra)] [(.ref ob), (.int ((2 : Int32) * zb)), (.ref bya), (.ref ob)])) rfl rfl (hb hby d9_28)
    refine Go.by st9 ?_
    show Go p e below _ (T9.setTop (mkF m 31 #[.val (.ref ob), .val (.ref ra)] [(.int sv), (.int ((2 : Int32) * zb)), (.ref bya), (.ref ob)]))
    refine Go.by (fun t k => XS.aloadN X9.here hx rfl (hb hby d9_31) rfl rfl k) ?_
    show Go p e below _ (T9.setTop (mkF m 32 #[.val (.ref ob), .val (.ref ra)] [(.ref ra), (.int sv), (.int ((2 : Int32) * zb)), (.ref bya), (.ref ob)]))
    obtain ⟨_, _, ⟨cl10, Ar10, -, sz10, nn10, -, -⟩, -⟩ := id P4
    have hl10 : cl10.slots.size.toInt32 = zr := len_of sz10 nn10
    refine Go.by (fun t k => X9.arraylength hx (by rw [e9]; exact Ar10.1) (State.isArrayOf_alike hZ.alike Ar10.2.1) (g := (mkF m 32 #[.val (.ref ob), .val (.ref ra)] [(.ref ra), (.int sv), (.int ((2 : Int32) * zb)), (.ref bya), (.ref ob)])) rfl rfl (hb hby d9_32) t (by rw [hl10]; exact k)) ?_
    show Go p e below _ (T9.setTop (mkF m 33 #[.val (.ref ob), .val (.ref ra)] [(.int zr), (.int sv), (.int ((2 : Int32) * zb)), (.ref bya), (.ref ob)]))
    refine Go.by (fun t k => XS.iadd X9.here hx rfl (hb hby d9_33) rfl k) ?_
    show Go p e below _ (T9.setTop (mkF m 34 #[.val (.ref ob), .val (.ref ra)] [(.int (sv + zr)), (.int ((2 : Int32) * zb)), (.ref bya), (.ref ob)]))
    obtain ⟨_, _, ⟨T11, L11, k11, n11⟩, -, X11, ⟨Lc11, hQ11, l11, y11, z11⟩, st11⟩ := Jvm.LawKit.callS X9 hx (y := (⟨"java/lang/Math", "max", "(II)I"⟩ : MethodName)) hown (mvT hZ (hw _ (List.mem_of_getElem? (i := 76) rfl))) (mvT hZ (hw _ (List.mem_of_getElem? (i := 77) rfl))) (mvT hZ (hw _ (List.mem_of_getElem? (i := 78) rfl))) (mvT hZ (hw _ (List.mem_of_getElem? (i := 79) rfl))) (by decide) (backOf (W := 2) (m_max l Z a0 hw [] ((2 : Int32) * zb) (sv + zr) h0 n0 O0) hZ (hw _ (List.mem_of_getElem? (i := 79) rfl)) (hw _ (List.mem_of_getElem? (i := 78) rfl)) (by decide) (by decide)) (g := (mkF m 34 #[.val (.ref ob), .val (.ref ra)] [(.int (sv + zr)), (.int ((2 : Int32) * zb)), (.ref bya), (.ref ob)])) rfl (by rw [hml]; rfl) (argsL := [(.int ((2 : Int32) * zb)), (.int (sv + zr))]) (rest := [(.ref bya), (.ref ob)]) (lenOf pd_1 rfl) rfl (by show 2 * 0 + _ ≤ _; exact Nat.le_of_eq rfl) (hb hby d9_34) (fun _ _ => ⟨rfl, e9, (by decide : 0 + 0 ≤ _), (by decide : 0 + 0 ≤ _)⟩)
    dsimp only [Pt.U, Pt.locs, Pt.cells, Pt.slots] at X11 l11 y11 z11 st11 hQ11
    subst l11 y11 z11
    obtain ⟨rfl, N11q, e11⟩ := hQ11
    have N11 := Fr.app N0 N11q
    refine Go.by st11 ?_
    show Go p e below _ (T11.setTop (mkF m 37 #[.val (.ref ob), .val (.ref ra)] [(.int (own_mx ((2 : Int32) * zb) (sv + zr))), (.ref bya), (.ref ob)]))
    obtain ⟨_, _, ⟨T12, L12, k12, n12⟩, -, X12, ⟨Lc12, hQ12, l12, y12, z12⟩, st12⟩ := Jvm.LawKit.callS X11 hx (y := (⟨"java/util/Arrays", "copyOf", "([BI)[B"⟩ : MethodName)) hown (mvT hZ (hw _ (List.mem_of_getElem? (i := 80) rfl))) (mvT hZ (hw _ (List.mem_of_getElem? (i := 81) rfl))) (mvT hZ (hw _ (List.mem_of_getElem? (i := 82) rfl))) (mvT hZ (hw _ (List.mem_of_getElem? (i := 83) rfl))) (by decide) (backOf (W := 1) (copyOf l Z a0 hw [] bya (own_mx ((2 : Int32) * zb) (sv + zr)) zb h0 n0 O0 P3 (by omega) (by have q := Int32.lt_iff_toInt_lt.mp hc5; rw [eM]; split <;> omega) (by rw [eM]; split <;> omega)) hZ (hw _ (List.mem_of_getElem? (i := 83) rfl)) (hw _ (List.mem_of_getElem? (i := 82) rfl)) (by decide) (by decide)) (g := (mkF m 37 #[.val (.ref ob), .val (.ref ra)] [(.int (own_mx ((2 : Int32) * zb) (sv + zr))), (.ref bya), (.ref ob)])) rfl (by rw [hml]; rfl) (argsL := [(.ref bya), (.int (own_mx ((2 : Int32) * zb) (sv + zr)))]) (rest := [(.ref ob)]) (lenOf pd_2 rfl) rfl (by show 2 * 0 + _ ≤ _; exact Nat.le_of_eq rfl) (hb hby d9_37) (fun _ _ => ⟨rfl, e11, (by decide : 0 + 1 ≤ _), (by decide : 0 + 2076 ≤ _)⟩)
    dsimp only [Pt.U, Pt.locs, Pt.cells, Pt.slots] at X12 l12 y12 z12 st12 hQ12
    subst l12 y12 z12
    obtain ⟨nb_12, rfl, N12q, K12, fz12_nb, F12_0⟩ := hQ12
    have N12 := Fr.app N11 N12q
    have ge_nb_12 : n0 ≤ nb_12 := Nat.le_trans (own_old_size O0) fz12_nb
    have sz_nb_12 : h0.size ≤ nb_12 := Nat.le_trans (Keep.refl h0 [ob, bya]).1 fz12_nb
    have ne13 : ob ≠ nb_12 := Nat.ne_of_lt (Nat.lt_of_lt_of_le P0.lt fz12_nb)
    have ne14 : bya ≠ nb_12 := Nat.ne_of_lt (Nat.lt_of_lt_of_le P3.lt fz12_nb)
    have ne15 : ra ≠ nb_12 := Nat.ne_of_lt (Nat.lt_of_lt_of_le P4.lt fz12_nb)
    refine Go.by st12 ?_
    show Go p e below _ (T12.setTop (mkF m 40 #[.val (.ref ob), .val (.ref ra)] [(.ref nb_12), (.ref ob)]))
    have F16 : Fld Z T12.heap ob "com/example/whole_commit/wholecommit/Batch" "bytes" "[B" (.ref bya) := (P2.keep K12 nin0)
    have F17 : Exa Z T12.heap ob "com/example/whole_commit/wholecommit/Batch" := (P0.keep K12)
    obtain ⟨T18, h18, X18, e18, W18, st18⟩ := putF X12 hx hZ hown (host := "") (Or.inl (hw _ (List.mem_of_getElem? (i := 54) rfl))) Via.refl rfl F16 F17 (Or.inl (hw _ (List.mem_of_getElem? (i := 55) rfl))) (hw _ (List.mem_of_getElem? (i := 2) rfl)) (ty := (.array .byte)) (by decide) rfl rfl (g := (mkF m 40 #[.val (.ref ob), .val (.ref ra)] [(.ref nb_12), (.ref ob)])) rfl rfl (hb hby d9_40)
    have N18 := Fr.snoc X18 N12 gob
    have F19 : Fld Z h18 ob "com/example/whole_commit/wholecommit/Batch" "bytes" "[B" (.ref nb_12) := F16.same W18
    refine Go.by st18 ?_
    show Go p e below _ (T18.setTop (mkF m 43 #[.val (.ref ob), .val (.ref ra)] []))
    refine Go.by (fun t k => XS.aloadN X18.here hx rfl (hb hby d9_43) rfl rfl k) ?_
    show Go p e below _ (T18.setTop (mkF m 44 #[.val (.ref ob), .val (.ref ra)] [(.ref ra)]))
    refine Go.by (fun t k => XS.iconst X18.here hx rfl (hb hby d9_44) k) ?_
    show Go p e below _ (T18.setTop (mkF m 45 #[.val (.ref ob), .val (.ref ra)] [(.int (0 : Int32)), (.ref ra)]))
    refine Go.by (fun t k => XS.aloadN X18.here hx rfl (hb hby d9_45) rfl rfl k) ?_
    show Go p e below _ (T18.setTop (mkF m 46 #[.val (.ref ob), .val (.ref ra)] [(.ref ob), (.int (0 : Int32)), (.ref ra)]))
    obtain ⟨T20, X20, e20, st20⟩ := getF X18 hx hZ hown (host := "") (Or.inl (hw _ (List.mem_of_getElem? (i := 54) rfl))) Via.refl e18 F19 (g := (mkF m 46 #[.val (.ref ob), .val (.ref ra)] [(.ref ob), (.int (0 : Int32)), (.ref ra)])) rfl rfl (hb hby d9_46)
    refine Go.by st20 ?_
    show Go p e below _ (T20.setTop (mkF m 49 #[.val (.ref ob), .val (.ref ra)] [(.ref nb_12), (.int (0 : Int32)), (.ref ra)]))
    refine Go.by (fun t k => XS.aloadN X20.here hx rfl (hb hby d9_49) rfl rfl k) ?_
    show Go p e below _ (T20.setTop (mkF m 50 #[.val (.ref ob), .val (.ref ra)] [(.ref ob), (.ref nb_12), (.int (0 : Int32)), (.ref ra)]))
    have F21 : Fld Z h18 ob "com/example/whole_commit/wholecommit/Batch" "size" "I" (.int sv) := ((P1.keep K12 nin0).other W18 (Or.inr (slot_ne (Or.inl (hw _ (List.mem_of_getElem? (i := 57) rfl))) (Or.inl (hw _ (List.mem_of_getElem? (i := 55) rfl))) (by decide) (t := .int) (t' := (.array .byte)) (by decide) (by decide))))
    obtain ⟨T22, X22, e22, st22⟩ := getF X20 hx hZ hown (host := "") (Or.inl (hw _ (List.mem_of_getElem? (i := 56) rfl))) Via.refl e20 F21 (g := (mkF m 50 #[.val (.ref ob), .val (.ref ra)] [(.ref ob), (.ref nb_12), (.int (0 : Int32)), (.ref ra)])) rfl rfl (hb hby d9_50)
    refine Go.by st22 ?_
    show Go p e below _ (T22.setTop (mkF m 53 #[.val (.ref ob), .val (.ref ra)] [(.int sv), (.ref nb_12), (.int (0 : Int32)), (.ref ra)]))
    refine Go.by (fun t k => XS.aloadN X22.here hx rfl (hb hby d9_53) rfl rfl k) ?_
    show Go p e below _ (T22.setTop (mkF m 54 #[.val (.ref ob), .val (.ref ra)] [(.ref ra), (.int sv), (.ref nb_12), (.int (0 : Int32)), (.ref ra)]))
    have F23 : own_By Z h18 ra zr := ((P4.keep K12 nin0).other W18 nro)
    obtain ⟨_, _, ⟨cl24, Ar24, -, sz24, nn24, -, -⟩, -⟩ := id F23
    have hl24 : cl24.slots.size.toInt32 = zr := len_of sz24 nn24
    refine Go.by (fun t k => X22.arraylength hx (by rw [e22]; exact Ar24.1) (State.isArrayOf_alike hZ.alike Ar24.2.1) (g := (mkF m 54 #[.val (.ref ob), .val (.ref ra)] [(.ref ra), (.int sv), (.ref nb_12), (.int (0 : Int32)), (.ref ra)])) rfl rfl (hb hby d9_54) t (by rw [hl24]; exact k)) ?_
    show Go p e below _ (T22.setTop (mkF m 55 #[.val (.ref ob), .val (.ref ra)] [(.int zr), (.int sv), (.ref nb_12), (.int (0 : Int32)), (.ref ra)]))
    have F25 : own_By Z h18 nb_12 (own_mx ((2 : Int32) * zb) (sv + zr)) := (F12_0.other W18 (Ne.symm ne13))
    obtain ⟨_, va26, Aa26, la26⟩ := id F23
    obtain ⟨_, vb26, Bb26, lb26⟩ := id F25
    obtain ⟨T26, h26, L26, X26, e26, N26, K26, V26, st26⟩ := cpA X22 hx hZ hown (hw _ (List.mem_of_getElem? (i := 68) rfl)) (hw _ (List.mem_of_getElem? (i := 71) rfl)) (hw _ (List.mem_of_getElem? (i := 69) rfl)) (hw _ (List.mem_of_getElem? (i := 70) rfl)) e22 Aa26 Bb26 (Or.inl ⟨rfl, rfl⟩) (sp := (0 : Int32)) (dp := sv) (nn := zr) (by decide) (own_nn (by omega)) (own_nn (by omega)) (by show 0 + _ ≤ _; omega) (by have := own_nat (x := sv) (by omega); have := own_nat (x := zr) (by omega); have := own_nat (x := own_mx ((2 : Int32) * zb) (sv + zr)) (by rw [eM]; split <;> omega); rw [eM] at this; split at this <;> omega) rfl (by rw [lb26]; exact (by have := own_nat (x := sv) (by omega); have := own_nat (x := zr) (by omega); have := own_nat (x := own_mx ((2 : Int32) * zb) (sv + zr)) (by rw [eM]; split <;> omega); rw [eM] at this; split at this <;> omega)) N18 ge_nb_12 (g := (mkF m 55 #[.val (.ref ob), .val (.ref ra)] [(.int zr), (.int sv), (.ref nb_12), (.int (0 : Int32)), (.ref ra)])) rfl (by rw [hml]; rfl) rfl (hb hby d9_55) (by decide) (W := 0) (by show 2 * 0 + _ ≤ _; exact Nat.le_of_eq rfl) (by decide)
    have F27 : own_By Z h26 nb_12 (own_mx ((2 : Int32) * zb) (sv + zr)) := own_By.copied V26 lb26 (by have := own_nat (x := sv) (by omega); have := own_nat (x := zr) (by omega); have := own_nat (x := own_mx ((2 : Int32) * zb) (sv + zr)) (by rw [eM]; split <;> omega); rw [eM] at this; split at this <;> omega)
    refine Go.by st26 ?_
    show Go p e below _ (T26.setTop (mkF m 58 #[.val (.ref ob), .val (.ref ra)] []))
    refine Go.by (fun t k => XS.aloadN X26.here hx rfl (hb hby d9_58) rfl rfl k) ?_
    show Go p e below _ (T26.setTop (mkF m 59 #[.val (.ref ob), .val (.ref ra)] [(.ref ob)]))
    refine Go.by (fun t k => XS.dup X26.here hx rfl (hb hby d9_59) rfl rfl k) ?_
    show Go p e below _ (T26.setTop (mkF m 60 #[.val (.ref ob), .val (.ref ra)] [(.ref ob), (.ref ob)]))
    have F28 : Fld Z h26 ob "com/example/whole_commit/wholecommit/Batch" "size" "I" (.int sv) := (F21.keep K26 (ninS ne13 nin0))
    obtain ⟨T29, X29, e29, st29⟩ := getF X26 hx hZ hown (host := "") (Or.inl (hw _ (List.mem_of_getElem? (i := 56) rfl))) Via.refl e26 F28 (g := (mkF m 60 #[.val (.ref ob), .val (.ref ra)] [(.ref ob), (.ref ob)])) rfl rfl (hb hby d9_60)
    refine Go.by st29 ?_
    show Go p e below _ (T29.setTop (mkF m 63 #[.val (.ref ob), .val (.ref ra)] [(.int sv), (.ref ob)]))
    refine Go.by (fun t k => XS.aloadN X29.here hx rfl (hb hby d9_63) rfl rfl k) ?_
    show Go p e below _ (T29.setTop (mkF m 64 #[.val (.ref ob), .val (.ref ra)] [(.ref ra), (.int sv), (.ref ob)]))
    have F30 : own_By Z h26 ra zr := (F23.keep K26 (ninS ne15 nin0))
    obtain ⟨_, _, ⟨cl31, Ar31, -, sz31, nn31, -, -⟩, -⟩ := id F30
    have hl31 : cl31.slots.size.toInt32 = zr := len_of sz31 nn31
    refine Go.by (fun t k => X29.arraylength hx (by rw [e29]; exact Ar31.1) (State.isArrayOf_alike hZ.alike Ar31.2.1) (g := (mkF m 64 #[.val (.ref ob), .val (.ref ra)] [(.ref ra), (.int sv), (.ref ob)])) rfl rfl (hb hby d9_64) t (by rw [hl31]; exact k)) ?_
    show Go p e below _ (T29.setTop (mkF m 65 #[.val (.ref ob), .val (.ref ra)] [(.int zr), (.int sv), (.ref ob)]))
    refine Go.by (fun t k => XS.iadd X29.here hx rfl (hb hby d9_65) rfl k) ?_
    show Go p e below _ (T29.setTop (mkF m 66 #[.val (.ref ob), .val (.ref ra)] [(.int (sv + zr)), (.ref ob)]))
    have F32 : Exa Z h26 ob "com/example/whole_commit/wholecommit/Batch" := ((F17.wr W18).keep K26)
    obtain ⟨T33, h33, X33, e33, W33, st33⟩ := putF X29 hx hZ hown (host := "") (Or.inl (hw _ (List.mem_of_getElem? (i := 56) rfl))) Via.refl e29 F28 F32 (Or.inl (hw _ (List.mem_of_getElem? (i := 57) rfl))) (hw _ (List.mem_of_getElem? (i := 2) rfl)) (ty := .int) (by decide) rfl rfl (g := (mkF m 66 #[.val (.ref ob), .val (.ref ra)] [(.int (sv + zr)), (.ref ob)])) rfl rfl (hb hby d9_66)
    have N33 := Fr.snoc X33 N26 gob
    have F34 : Fld Z h33 ob "com/example/whole_commit/wholecommit/Batch" "size" "I" (.int (sv + zr)) := F28.same W33
    refine Go.by st33 ?_
    show Go p e below _ (T33.setTop (mkF m 69 #[.val (.ref ob), .val (.ref ra)] []))
    have F35 : Keep h0 h33 [ob, bya] := (((((Keep.refl h0 [ob, bya]).trans K12 all0).wr W18 (Or.inl (List.mem_of_getElem? (i := 0) rfl))).trans K26 (allS (Or.inr sz_nb_12) all0)).wr W33 (Or.inl (List.mem_of_getElem? (i := 0) rfl)))
    have F36 : Exa Z h33 ob "com/example/whole_commit/wholecommit/Batch" := (F32.wr W33)
    have F37 : Fld Z h33 ob "com/example/whole_commit/wholecommit/Batch" "bytes" "[B" (.ref nb_12) := ((F19.keep K26 (ninS ne13 nin0)).other W33 (Or.inr (slot_ne (Or.inl (hw _ (List.mem_of_getElem? (i := 55) rfl))) (Or.inl (hw _ (List.mem_of_getElem? (i := 57) rfl))) (by decide) (t := (.array .byte)) (t' := .int) (by decide) (by decide))))
    have F38 : own_By Z h33 nb_12 (own_mx ((2 : Int32) * zb) (sv + zr)) := (F27.other W33 (Ne.symm ne13))
    have F39 : own_By Z h33 ra zr := (F30.other W33 nro)
    have hq : Q_b_add Z ob ra sv bya zb zr h0 n0 none h33 _ := ⟨nb_12, (own_mx ((2 : Int32) * zb) (sv + zr)), rfl, N33, F35, (Or.inr sz_nb_12), F36, F34, F37, F38, F39, (by rw [eM]; split <;> omega), (Ne.symm ne13)⟩
    exact Go.ret0 X33 hx Bd.returns hlk (hb hby d9_69) (by decide) (by decide) (by rw [e33]; exact hq)
  · skip
    refine Go.by (fun t k => XS.icmpYes X3.here hx rfl (pc0 := 12) (pc' := 43) rfl (hb hby d9_12) rfl (flt hc5).2.2.2 (by decide) (by decide) k) ?_
    show Go p e below _ (T3.setTop (mkF m 43 #[.val (.ref ob), .val (.ref ra)] []))
    refine Go.by (fun t k => XS.aloadN X3.here hx rfl (hb hby d9_43) rfl rfl k) ?_
    show Go p e below _ (T3.setTop (mkF m 44 #[.val (.ref ob), .val (.ref ra)] [(.ref ra)]))
    refine Go.by (fun t k => XS.iconst X3.here hx rfl (hb hby d9_44) k) ?_
    show Go p e below _ (T3.setTop (mkF m 45 #[.val (.ref ob), .val (.ref ra)] [(.int (0 : Int32)), (.ref ra)]))
    refine Go.by (fun t k => XS.aloadN X3.here hx rfl (hb hby d9_45) rfl rfl k) ?_
    show Go p e below _ (T3.setTop (mkF m 46 #[.val (.ref ob), .val (.ref ra)] [(.ref ob), (.int (0 : Int32)), (.ref ra)]))
    obtain ⟨T40, X40, e40, st40⟩ := getF X3 hx hZ hown (host := "") (Or.inl (hw _ (List.mem_of_getElem? (i := 54) rfl))) Via.refl e3 P2 (g := (mkF m 46 #[.val (.ref ob), .val (.ref ra)] [(.ref ob), (.int (0 : Int32)), (.ref ra)])) rfl rfl (hb hby d9_46)
    refine Go.by st40 ?_
    show Go p e below _ (T40.setTop (mkF m 49 #[.val (.ref ob), .val (.ref ra)] [(.ref bya), (.int (0 : Int32)), (.ref ra)]))
    refine Go.by (fun t k => XS.aloadN X40.here hx rfl (hb hby d9_49) rfl rfl k) ?_
    show Go p e below _ (T40.setTop (mkF m 50 #[.val (.ref ob), .val (.ref ra)] [(.ref ob), (.ref bya), (.int (0 : Int32)), (.ref ra)]))
    obtain ⟨T41, X41, e41, st41⟩ := getF X40 hx hZ hown (host := "") (Or.inl (hw _ (List.mem_of_getElem? (i := 56) rfl))) Via.refl e40 P1 (g := (mkF m 50 #[.val (.ref ob), .val (.ref ra)] [(.ref ob), (.ref bya), (.int (0 : Int32)), (.ref ra)])) rfl rfl (hb hby d9_50)
    refine Go.by st41 ?_
    show Go p e below _ (T41.setTop (mkF m 53 #[.val (.ref ob), .val (.ref ra)] [(.int sv), (.ref bya), (.int (0 : Int32)), (.ref ra)]))
    refine Go.by (fun t k => XS.aloadN X41.here hx rfl (hb hby d9_53) rfl rfl k) ?_
    show Go p e below _ (T41.setTop (mkF m 54 #[.val (.ref ob), .val (.ref ra)] [(.ref ra), (.int sv), (.ref bya), (.int (0 : Int32)), (.ref ra)]))
    obtain ⟨_, _, ⟨cl42, Ar42, -, sz42, nn42, -, -⟩, -⟩ := id P4
    have hl42 : cl42.slots.size.toInt32 = zr := len_of sz42 nn42
    refine Go.by (fun t k => X41.arraylength hx (by rw [e41]; exact Ar42.1) (State.isArrayOf_alike hZ.alike Ar42.2.1) (g := (mkF m 54 #[.val (.ref ob), .val (.ref ra)] [(.ref ra), (.int sv), (.ref bya), (.int (0 : Int32)), (.ref ra)])) rfl rfl (hb hby d9_54) t (by rw [hl42]; exact k)) ?_
    show Go p e below _ (T41.setTop (mkF m 55 #[.val (.ref ob), .val (.ref ra)] [(.int zr), (.int sv), (.ref bya), (.int (0 : Int32)), (.ref ra)]))
    obtain ⟨_, va43, Aa43, la43⟩ := id P4
    obtain ⟨_, vb43, Bb43, lb43⟩ := id P3
    obtain ⟨T43, h43, L43, X43, e43, N43, K43, V43, st43⟩ := cpA X41 hx hZ hown (hw _ (List.mem_of_getElem? (i := 68) rfl)) (hw _ (List.mem_of_getElem? (i := 71) rfl)) (hw _ (List.mem_of_getElem? (i := 69) rfl)) (hw _ (List.mem_of_getElem? (i := 70) rfl)) e41 Aa43 Bb43 (Or.inl ⟨rfl, rfl⟩) (sp := (0 : Int32)) (dp := sv) (nn := zr) (by decide) (own_nn (by omega)) (own_nn (by omega)) (by show 0 + _ ≤ _; omega) (by have := own_nat (x := sv) (by omega); have := own_nat (x := zr) (by omega); have q := hc5; rw [Int32.lt_iff_toInt_lt] at q; have := own_nat (x := zb) (by omega) ; omega) rfl (by rw [lb43]; exact (by have := own_nat (x := sv) (by omega); have := own_nat (x := zr) (by omega); have q := hc5; rw [Int32.lt_iff_toInt_lt] at q; have := own_nat (x := zb) (by omega) ; omega)) N0 gby (g := (mkF m 55 #[.val (.ref ob), .val (.ref ra)] [(.int zr), (.int sv), (.ref bya), (.int (0 : Int32)), (.ref ra)])) rfl (by rw [hml]; rfl) rfl (hb hby d9_55) (by decide) (W := 0) (by show 2 * 0 + _ ≤ _; exact Nat.le_of_eq rfl) (by decide)
    have F44 : own_By Z h43 bya zb := own_By.copied V43 lb43 (by have := own_nat (x := sv) (by omega); have := own_nat (x := zr) (by omega); have q := hc5; rw [Int32.lt_iff_toInt_lt] at q; have := own_nat (x := zb) (by omega) ; omega)
    refine Go.by st43 ?_
    show Go p e below _ (T43.setTop (mkF m 58 #[.val (.ref ob), .val (.ref ra)] []))
    refine Go.by (fun t k => XS.aloadN X43.here hx rfl (hb hby d9_58) rfl rfl k) ?_
    show Go p e below _ (T43.setTop (mkF m 59 #[.val (.ref ob), .val (.ref ra)] [(.ref ob)]))
    refine Go.by (fun t k => XS.dup X43.here hx rfl (hb hby d9_59) rfl rfl k) ?_
    show Go p e below _ (T43.setTop (mkF m 60 #[.val (.ref ob), .val (.ref ra)] [(.ref ob), (.ref ob)]))
    have F45 : Fld Z h43 ob "com/example/whole_commit/wholecommit/Batch" "size" "I" (.int sv) := (P1.keep K43 (ninS (Ne.symm nbo) nin0))
    obtain ⟨T46, X46, e46, st46⟩ := getF X43 hx hZ hown (host := "") (Or.inl (hw _ (List.mem_of_getElem? (i := 56) rfl))) Via.refl e43 F45 (g := (mkF m 60 #[.val (.ref ob), .val (.ref ra)] [(.ref ob), (.ref ob)])) rfl rfl (hb hby d9_60)
    refine Go.by st46 ?_
    show Go p e below _ (T46.setTop (mkF m 63 #[.val (.ref ob), .val (.ref ra)] [(.int sv), (.ref ob)]))
    refine Go.by (fun t k => XS.aloadN X46.here hx rfl (hb hby d9_63) rfl rfl k) ?_
    show Go p e below _ (T46.setTop (mkF m 64 #[.val (.ref ob), .val (.ref ra)] [(.ref ra), (.int sv), (.ref ob)]))
    have F47 : own_By Z h43 ra zr := (P4.keep K43 (ninS nrb nin0))
    obtain ⟨_, _, ⟨cl48, Ar48, -, sz48, nn48, -, -⟩, -⟩ := id F47
    have hl48 : cl48.slots.size.toInt32 = zr := len_of sz48 nn48
    refine Go.by (fun t k => X46.arraylength hx (by rw [e46]; exact Ar48.1) (State.isArrayOf_alike hZ.alike Ar48.2.1) (g := (mkF m 64 #[.val (.ref ob), .val (.ref ra)] [(.ref ra), (.int sv), (.ref ob)])) rfl rfl (hb hby d9_64) t (by rw [hl48]; exact k)) ?_
    show Go p e below _ (T46.setTop (mkF m 65 #[.val (.ref ob), .val (.ref ra)] [(.int zr), (.int sv), (.ref ob)]))
    refine Go.by (fun t k => XS.iadd X46.here hx rfl (hb hby d9_65) rfl k) ?_
    show Go p e below _ (T46.setTop (mkF m 66 #[.val (.ref ob), .val (.ref ra)] [(.int (sv + zr)), (.ref ob)]))
    have F49 : Exa Z h43 ob "com/example/whole_commit/wholecommit/Batch" := (P0.keep K43)
    obtain ⟨T50, h50, X50, e50, W50, st50⟩ := putF X46 hx hZ hown (host := "") (Or.inl (hw _ (List.mem_of_getElem? (i := 56) rfl))) Via.refl e46 F45 F49 (Or.inl (hw _ (List.mem_of_getElem? (i := 57) rfl))) (hw _ (List.mem_of_getElem? (i := 2) rfl)) (ty := .int) (by decide) rfl rfl (g := (mkF m 66 #[.val (.ref ob), .val (.ref ra)] [(.int (sv + zr)), (.ref ob)])) rfl rfl (hb hby d9_66)
    have N50 := Fr.snoc X50 N43 gob
    have F51 : Fld Z h50 ob "com/example/whole_commit/wholecommit/Batch" "size" "I" (.int (sv + zr)) := F45.same W50
    refine Go.by st50 ?_
    show Go p e below _ (T50.setTop (mkF m 69 #[.val (.ref ob), .val (.ref ra)] []))
    have F52 : Keep h0 h50 [ob, bya] := (((Keep.refl h0 [ob, bya]).trans K43 (allS (Or.inl (List.mem_of_getElem? (i := 1) rfl)) all0)).wr W50 (Or.inl (List.mem_of_getElem? (i := 0) rfl)))
    have F53 : Exa Z h50 ob "com/example/whole_commit/wholecommit/Batch" := (F49.wr W50)
    have F54 : Fld Z h50 ob "com/example/whole_commit/wholecommit/Batch" "bytes" "[B" (.ref bya) := ((P2.keep K43 (ninS (Ne.symm nbo) nin0)).other W50 (Or.inr (slot_ne (Or.inl (hw _ (List.mem_of_getElem? (i := 55) rfl))) (Or.inl (hw _ (List.mem_of_getElem? (i := 57) rfl))) (by decide) (t := (.array .byte)) (t' := .int) (by decide) (by decide))))
    have F55 : own_By Z h50 bya zb := (F44.other W50 nbo)
    have F56 : own_By Z h50 ra zr := (F47.other W50 nro)
    have hq : Q_b_add Z ob ra sv bya zb zr h0 n0 none h50 _ := ⟨bya, zb, rfl, N50, F52, (Or.inl rfl), F53, F51, F54, F55, F56, (by have q := hc5; rw [Int32.lt_iff_toInt_lt] at q; omega), nbo⟩
    exact Go.ret0 X50 hx Bd.returns hlk (hb hby d9_69) (by decide) (by decide) (by rw [e50]; exact hq)
theorem pd_3 : parseMethodDescriptor "()I" = some ⟨[], some .int⟩ := by decide +kernel
theorem pd_4 : parseMethodDescriptor "([B)V" = some ⟨[(.array .byte)], none⟩ := by decide +kernel
theorem pd_5 : parseMethodDescriptor "(I)I" = some ⟨[.int], some .int⟩ := by decide +kernel
theorem ef_law (m : MethodId) (ia : Int32) (ib : Int32) (ic : Int32) : entryFrame m #[(.int ia), (.int ib), (.int ic)] maxLocals = mkF m 0 #[.val (.int ia), .val (.int ib), .val (.int ic), .unset, .unset, .unset, .unset, .unset, .unset, .unset] [] := by first | (simp [entryFrame, mkF, argsToLocals, Value.category, maxLocals]; done) | rfl
def Q_law (Z : State) (ia : Int32) (ib : Int32) (ic : Int32) (em : Addr) (h0 : Heap) (n0 : Nat) (v : Option Value) (h : Heap) (L : List Loc) : Prop := v = some (.int (1 : Int32)) ∧ Fr n0 L ∧ Keep h0 h []
set_option maxRecDepth 65536 in
set_option maxHeartbeats 40000000 in
theorem law (l : Launch) (Z : State) (a0 : Array Value) (hw : ∀ d ∈ tables_1, d.before a0 Z = true) (ws : List Jvm.Cond) (ia : Int32) (ib : Int32) (ic : Int32) (em : Addr) (h0 : Heap) (n0 : Nat) (O0 : Old Z n0 h0) (P0 : Sta Z Z.heap "java/util/ArrayList" "DEFAULTCAPACITY_EMPTY_ELEMENTDATA" "[Ljava/lang/Object;" (.ref em)) :
    MetFree l x (head1 (Jvm.Cond.code x code maxLocals ret :: ws) room_1) (fun a U => a = #[(.int ia), (.int ib), (.int ic)] ∧ Z.Warmed39 U.vm ∧ U.heap = h0) (fun _ _ _ _ _ => True) (fun _ U o U' => ∃ v L, o = .returned v ∧ Q_law Z ia ib ic em h0 n0 v U'.heap L ∧ FrameEnd U o U' L room_1.cells room_1.slots) := by
  refine MetFree.of_bodySF (plainFor_of_name pn_6) hisR ?_
  intro p e s m args below meth c s₁ Bd hml0 hP hK
  obtain ⟨rfl, hZ, hh⟩ := hP
  have hx := Bd.exec
  have hby := Bd.bytes
  have hml : c.maxLocals = 10 := hml0
  have hown : s.vm.findClass "com/example/whole_commit/wholecommit/BatchSizePinLaw" = some m.cls := findClass_of_methodNamed Bd.named
  have hnm := (name_of_methodNamed Bd.named Bd.method).1
  have hlk := BodyLoose.notSynchronized Bd
  have X0 : Stand p l e room_1 s m #[(.int ia), (.int ib), (.int ic)] below meth c s₁ [] 0 0 := Stand.of_body Bd
  have e0 : s₁.heap = h0 := by rw [← hh, Bd.state]; rfl
  have N0 := Fr.nil n0
  refine Go.start (P := fun o U' => ∃ v L, o = .returned v ∧ Q_law Z ia ib ic em h0 n0 v U'.heap L ∧ FrameEnd s o U' L room_1.cells room_1.slots) (ef_law m ia ib ic) ?_
  show Go p e below _ (s₁.setTop (mkF m 0 #[.val (.int ia), .val (.int ib), .val (.int ic), .unset, .unset, .unset, .unset, .unset, .unset, .unset] []))
  refine Go.by (fun t k => XS.iloadN X0.here hx rfl (hb hby at_0) rfl k) ?_
  show Go p e below _ (s₁.setTop (mkF m 1 #[.val (.int ia), .val (.int ib), .val (.int ic), .unset, .unset, .unset, .unset, .unset, .unset, .unset] [(.int ia)]))
  refine Go.by (fun t k => XS.sipush X0.here hx rfl (hb hby at_1) k) ?_
  show Go p e below _ (s₁.setTop (mkF m 4 #[.val (.int ia), .val (.int ib), .val (.int ic), .unset, .unset, .unset, .unset, .unset, .unset, .unset] [(.int (511 : Int32)), (.int ia)]))
  refine Go.by (fun t k => XS.iand X0.here hx rfl (hb hby at_4) rfl k) ?_
  show Go p e below _ (s₁.setTop (mkF m 5 #[.val (.int ia), .val (.int ib), .val (.int ic), .unset, .unset, .unset, .unset, .unset, .unset, .unset] [(.int (ia &&& (511 : Int32)))]))
  refine Go.by (fun t k => XS.istoreN X0.here hx rfl (hb hby at_5) rfl (l' := #[.val (.int ia), .val (.int ib), .val (.int ic), .val (.int (ia &&& (511 : Int32))), .unset, .unset, .unset, .unset, .unset, .unset]) rfl k) ?_
  show Go p e below _ (s₁.setTop (mkF m 6 #[.val (.int ia), .val (.int ib), .val (.int ic), .val (.int (ia &&& (511 : Int32))), .unset, .unset, .unset, .unset, .unset, .unset] []))
  refine Go.by (fun t k => XS.iloadN X0.here hx rfl (hb hby at_6) rfl k) ?_
  show Go p e below _ (s₁.setTop (mkF m 7 #[.val (.int ia), .val (.int ib), .val (.int ic), .val (.int (ia &&& (511 : Int32))), .unset, .unset, .unset, .unset, .unset, .unset] [(.int ib)]))
  refine Go.by (fun t k => XS.sipush X0.here hx rfl (hb hby at_7) k) ?_
  show Go p e below _ (s₁.setTop (mkF m 10 #[.val (.int ia), .val (.int ib), .val (.int ic), .val (.int (ia &&& (511 : Int32))), .unset, .unset, .unset, .unset, .unset, .unset] [(.int (511 : Int32)), (.int ib)]))
  refine Go.by (fun t k => XS.iand X0.here hx rfl (hb hby at_10) rfl k) ?_
  show Go p e below _ (s₁.setTop (mkF m 11 #[.val (.int ia), .val (.int ib), .val (.int ic), .val (.int (ia &&& (511 : Int32))), .unset, .unset, .unset, .unset, .unset, .unset] [(.int (ib &&& (511 : Int32)))]))
  refine Go.by (fun t k => XS.istore X0.here hx rfl (hb hby at_11) rfl (l' := #[.val (.int ia), .val (.int ib), .val (.int ic), .val (.int (ia &&& (511 : Int32))), .val (.int (ib &&& (511 : Int32))), .unset, .unset, .unset, .unset, .unset]) rfl k) ?_
  show Go p e below _ (s₁.setTop (mkF m 13 #[.val (.int ia), .val (.int ib), .val (.int ic), .val (.int (ia &&& (511 : Int32))), .val (.int (ib &&& (511 : Int32))), .unset, .unset, .unset, .unset, .unset] []))
  refine Go.by (fun t k => XS.iloadN X0.here hx rfl (hb hby at_13) rfl k) ?_
  show Go p e below _ (s₁.setTop (mkF m 14 #[.val (.int ia), .val (.int ib), .val (.int ic), .val (.int (ia &&& (511 : Int32))), .val (.int (ib &&& (511 : Int32))), .unset, .unset, .unset, .unset, .unset] [(.int ic)]))
  refine Go.by (fun t k => XS.iconst X0.here hx rfl (hb hby at_14) k) ?_
  show Go p e below _ (s₁.setTop (mkF m 15 #[.val (.int ia), .val (.int ib), .val (.int ic), .val (.int (ia &&& (511 : Int32))), .val (.int (ib &&& (511 : Int32))), .unset, .unset, .unset, .unset, .unset] [(.int (3 : Int32)), (.int ic)]))
  refine Go.by (fun t k => XS.iand X0.here hx rfl (hb hby at_15) rfl k) ?_
  show Go p e below _ (s₁.setTop (mkF m 16 #[.val (.int ia), .val (.int ib), .val (.int ic), .val (.int (ia &&& (511 : Int32))), .val (.int (ib &&& (511 : Int32))), .unset, .unset, .unset, .unset, .unset] [(.int (ic &&& (3 : Int32)))]))
  refine Go.by (fun t k => XS.istore X0.here hx rfl (hb hby at_16) rfl (l' := #[.val (.int ia), .val (.int ib), .val (.int ic), .val (.int (ia &&& (511 : Int32))), .val (.int (ib &&& (511 : Int32))), .val (.int (ic &&& (3 : Int32))), .unset, .unset, .unset, .unset]) rfl k) ?_
  show Go p e below _ (s₁.setTop (mkF m 18 #[.val (.int ia), .val (.int ib), .val (.int ic), .val (.int (ia &&& (511 : Int32))), .val (.int (ib &&& (511 : Int32))), .val (.int (ic &&& (3 : Int32))), .unset, .unset, .unset, .unset] []))
  have J18 : ∀ (j_a : Int32) (j_b : Int32) (j_n : Int32) (hja : 0 ≤ j_a.toInt ∧ j_a.toInt ≤ 511) (hjb : 0 ≤ j_b.toInt ∧ j_b.toInt ≤ 511) (hk : j_n = (0 : Int32) ∨ j_n = (1 : Int32) ∨ j_n = (2 : Int32) ∨ j_n = (3 : Int32)), Go p e below (fun o U' => ∃ v L, o = .returned v ∧ Q_law Z ia ib ic em h0 n0 v U'.heap L ∧ FrameEnd s o U' L room_1.cells room_1.slots) (s₁.setTop (mkF m 18 #[.val (.int ia), .val (.int ib), .val (.int ic), .val (.int j_a), .val (.int j_b), .val (.int j_n), .unset, .unset, .unset, .unset] [])) := by
    intro j_a j_b j_n hja hjb hk
    show Go p e below _ (s₁.setTop (mkF m 18 #[.val (.int ia), .val (.int ib), .val (.int ic), .val (.int j_a), .val (.int j_b), .val (.int j_n), .unset, .unset, .unset, .unset] []))
    rcases hk with rfl | rfl | rfl | rfl
    · skip
      show Go p e below _ (s₁.setTop (mkF m 18 #[.val (.int ia), .val (.int ib), .val (.int ic), .val (.int j_a), .val (.int j_b), .val (.int (0 : Int32)), .unset, .unset, .unset, .unset] []))
      refine Go.by (fun t k => XS.iloadN X0.here hx rfl (hb hby at_18) rfl k) ?_
      show Go p e below _ (s₁.setTop (mkF m 19 #[.val (.int ia), .val (.int ib), .val (.int ic), .val (.int j_a), .val (.int j_b), .val (.int (0 : Int32)), .unset, .unset, .unset, .unset] [(.int j_a)]))
      obtain ⟨T1, h1, k1, X1, e1, E1, A1, Q1, st1⟩ := newPE X0 hx hZ (hw _ (List.mem_of_getElem? (i := 0) rfl)) e0 (g := (mkF m 19 #[.val (.int ia), .val (.int ib), .val (.int ic), .val (.int j_a), .val (.int j_b), .val (.int (0 : Int32)), .unset, .unset, .unset, .unset] [(.int j_a)])) rfl (hb hby at_19) rfl (own_nn (by omega)) (cap := 511) (by have := own_nat (x := j_a) (by omega); omega) (by decide) (by decide) (by decide) (ad := "[B") (by decide)
      obtain ⟨b1, g1⟩ : ∃ z, z = h0.size := ⟨_, rfl⟩
      rw [← g1] at A1 Q1 st1
      have gl1 : h0.size ≤ b1 := Nat.le_of_eq g1.symm
      have ge1 : n0 ≤ b1 := Nat.le_trans (own_old_size O0) gl1
      have sz1 : h0.size ≤ b1 := Nat.le_trans (Keep.refl h0 []).1 gl1
      have F2 : own_By Z h1 b1 j_a := own_By.new A1 (own_nn (by omega))
      refine Go.by st1 ?_
      show Go p e below _ (T1.setTop (mkF m 21 #[.val (.int ia), .val (.int ib), .val (.int ic), .val (.int j_a), .val (.int j_b), .val (.int (0 : Int32)), .unset, .unset, .unset, .unset] [(.ref b1)]))
      refine Go.by (fun t k => XS.astore X1.here hx rfl (hb hby at_21) rfl rfl (l' := #[.val (.int ia), .val (.int ib), .val (.int ic), .val (.int j_a), .val (.int j_b), .val (.int (0 : Int32)), .val (.ref b1), .unset, .unset, .unset]) rfl k) ?_
      show Go p e below _ (T1.setTop (mkF m 23 #[.val (.int ia), .val (.int ib), .val (.int ic), .val (.int j_a), .val (.int j_b), .val (.int (0 : Int32)), .val (.ref b1), .unset, .unset, .unset] []))
      refine Go.by (fun t k => XS.iload X1.here hx rfl (hb hby at_23) rfl k) ?_
      show Go p e below _ (T1.setTop (mkF m 25 #[.val (.int ia), .val (.int ib), .val (.int ic), .val (.int j_a), .val (.int j_b), .val (.int (0 : Int32)), .val (.ref b1), .unset, .unset, .unset] [(.int j_b)]))
      have F3 : Old Z n0 h1 := (O0.ext E1)
      have F4 : Keep h0 h1 [] := ((Keep.refl h0 []).ext E1)
      obtain ⟨T5, h5, k5, X5, e5, E5, A5, Q5, st5⟩ := newPE X1 hx hZ (hw _ (List.mem_of_getElem? (i := 0) rfl)) e1 (g := (mkF m 25 #[.val (.int ia), .val (.int ib), .val (.int ic), .val (.int j_a), .val (.int j_b), .val (.int (0 : Int32)), .val (.ref b1), .unset, .unset, .unset] [(.int j_b)])) rfl (hb hby at_25) rfl (own_nn (by omega)) (cap := 511) (by have := own_nat (x := j_b) (by omega); omega) (by decide) (by decide) (by decide) (ad := "[B") (by decide)
      obtain ⟨b5, g5⟩ : ∃ z, z = h1.size := ⟨_, rfl⟩
      rw [← g5] at A5 Q5 st5
      have gl5 : h1.size ≤ b5 := Nat.le_of_eq g5.symm
      have ge5 : n0 ≤ b5 := Nat.le_trans (own_old_size F3) gl5
      have sz5 : h0.size ≤ b5 := Nat.le_trans F4.1 gl5
      have ne6 : b1 ≠ b5 := Nat.ne_of_lt (Nat.lt_of_lt_of_le Q1.lt gl5)
      have F7 : own_By Z h5 b5 j_b := own_By.new A5 (own_nn (by omega))
      refine Go.by st5 ?_
      show Go p e below _ (T5.setTop (mkF m 27 #[.val (.int ia), .val (.int ib), .val (.int ic), .val (.int j_a), .val (.int j_b), .val (.int (0 : Int32)), .val (.ref b1), .unset, .unset, .unset] [(.ref b5)]))
      refine Go.by (fun t k => XS.astore X5.here hx rfl (hb hby at_27) rfl rfl (l' := #[.val (.int ia), .val (.int ib), .val (.int ic), .val (.int j_a), .val (.int j_b), .val (.int (0 : Int32)), .val (.ref b1), .val (.ref b5), .unset, .unset]) rfl k) ?_
      show Go p e below _ (T5.setTop (mkF m 29 #[.val (.int ia), .val (.int ib), .val (.int ic), .val (.int j_a), .val (.int j_b), .val (.int (0 : Int32)), .val (.ref b1), .val (.ref b5), .unset, .unset] []))
      have F8 : Exa Z h5 b1 "[B" := (Q1.ext E5)
      have F9 : Old Z n0 h5 := (F3.ext E5)
      have F10 : Keep h0 h5 [] := (F4.ext E5)
      obtain ⟨T11, h11, X11, e11, E11, A11, D11, -, st11⟩ := newO X5 hx hZ hown (hw _ (List.mem_of_getElem? (i := 1) rfl)) (hw _ (List.mem_of_getElem? (i := 2) rfl)) (hw _ (List.mem_of_getElem? (i := 3) rfl)) e5 (g := (mkF m 29 #[.val (.int ia), .val (.int ib), .val (.int ic), .val (.int j_a), .val (.int j_b), .val (.int (0 : Int32)), .val (.ref b1), .val (.ref b5), .unset, .unset] [])) rfl (hb hby at_29) (by decide) (by decide)
      obtain ⟨b11, g11⟩ : ∃ z, z = h5.size := ⟨_, rfl⟩
      rw [← g11] at A11 D11 st11
      have gl11 : h5.size ≤ b11 := Nat.le_of_eq g11.symm
      have ge11 : n0 ≤ b11 := Nat.le_trans (own_old_size F9) gl11
      have sz11 : h0.size ≤ b11 := Nat.le_trans F10.1 gl11
      have ne12 : b1 ≠ b11 := Nat.ne_of_lt (Nat.lt_of_lt_of_le F8.lt gl11)
      have ne13 : b5 ≠ b11 := Nat.ne_of_lt (Nat.lt_of_lt_of_le Q5.lt gl11)
      have F14 : Fld Z h11 b11 "com/example/whole_commit/wholecommit/Batch" "waiting" "Ljava/util/List;" .null := D11 (Or.inr (hw _ (List.mem_of_getElem? (i := 35) rfl))) (ty := (.object "java/util/List")) (by decide)
      have F15 : Fld Z h11 b11 "com/example/whole_commit/wholecommit/Batch" "decisions" "Ljava/util/Map;" .null := D11 (Or.inr (hw _ (List.mem_of_getElem? (i := 53) rfl))) (ty := (.object "java/util/Map")) (by decide)
      have F16 : Fld Z h11 b11 "com/example/whole_commit/wholecommit/Batch" "bytes" "[B" .null := D11 (Or.inl (hw _ (List.mem_of_getElem? (i := 55) rfl))) (ty := (.array .byte)) (by decide)
      have F17 : Fld Z h11 b11 "com/example/whole_commit/wholecommit/Batch" "size" "I" (.int (0 : Int32)) := D11 (Or.inl (hw _ (List.mem_of_getElem? (i := 57) rfl))) (ty := .int) (by decide)
      refine Go.by st11 ?_
      show Go p e below _ (T11.setTop (mkF m 32 #[.val (.int ia), .val (.int ib), .val (.int ic), .val (.int j_a), .val (.int j_b), .val (.int (0 : Int32)), .val (.ref b1), .val (.ref b5), .unset, .unset] [(.ref b11)]))
      refine Go.by (fun t k => XS.dup X11.here hx rfl (hb hby at_32) rfl rfl k) ?_
      show Go p e below _ (T11.setTop (mkF m 33 #[.val (.int ia), .val (.int ib), .val (.int ic), .val (.int j_a), .val (.int j_b), .val (.int (0 : Int32)), .val (.ref b1), .val (.ref b5), .unset, .unset] [(.ref b11), (.ref b11)]))
      have F19 : Old Z n0 h11 := (F9.ext E11)
      have F20 : Exa Z h11 b1 "[B" := (F8.ext E11)
      have F21 : Exa Z h11 b5 "[B" := (Q5.ext E11)
      have F22 : Keep h0 h11 [] := (F10.ext E11)
      obtain ⟨_, _, ⟨T18, L18, k18, n18⟩, -, X18, ⟨Lc18, hQ18, l18, y18, z18⟩, st18⟩ := X11.specialBack hx (y := (⟨"com/example/whole_commit/wholecommit/Batch", "<init>", "()V"⟩ : MethodName)) rfl hown (mvT hZ (hw _ (List.mem_of_getElem? (i := 4) rfl))) (mvT hZ (hw _ (List.mem_of_getElem? (i := 5) rfl))) (mvT hZ (hw _ (List.mem_of_getElem? (i := 6) rfl))) (by decide) (backOf (W := 1) (b_init l Z a0 hw [] b11 em h11 n0 F19 P0 A11 F14 F15 F16 F17 ge11) hZ (hw _ (List.mem_of_getElem? (i := 6) rfl)) (hw _ (List.mem_of_getElem? (i := 3) rfl)) (by decide) (by decide)) (g := (mkF m 33 #[.val (.int ia), .val (.int ib), .val (.int ic), .val (.int j_a), .val (.int j_b), .val (.int (0 : Int32)), .val (.ref b1), .val (.ref b5), .unset, .unset] [(.ref b11), (.ref b11)])) rfl (by rw [hml]; rfl) (Steps.refl _) (a := b11) (argsL := []) (rest := [(.ref b11)]) (lenOf pd_0 rfl) rfl (by show 2 * 0 + _ ≤ _; exact Nat.le_of_eq rfl) (hb hby at_33) (fun _ _ => ⟨rfl, e11, (by decide : 3 + 3 ≤ _), (by decide : 1029 + 267 ≤ _)⟩)
      dsimp only [Pt.U, Pt.locs, Pt.cells, Pt.slots] at X18 l18 y18 z18 st18 hQ18
      subst l18 y18 z18
      obtain ⟨bya_18, rfl, N18q, K18, fz18_bya, F18_0, F18_1, F18_2, F18_3⟩ := hQ18
      have N18 := Fr.app N0 N18q
      have ge_bya_18 : n0 ≤ bya_18 := Nat.le_trans (own_old_size F19) fz18_bya
      have sz_bya_18 : h0.size ≤ bya_18 := Nat.le_trans F22.1 fz18_bya
      have ne23 : b1 ≠ bya_18 := Nat.ne_of_lt (Nat.lt_of_lt_of_le F20.lt fz18_bya)
      have ne24 : b5 ≠ bya_18 := Nat.ne_of_lt (Nat.lt_of_lt_of_le F21.lt fz18_bya)
      have ne25 : b11 ≠ bya_18 := Nat.ne_of_lt (Nat.lt_of_lt_of_le A11.lt fz18_bya)
      refine Go.tr st18 ?_
      show Go p e below _ (T18.setTop (mkF m 36 #[.val (.int ia), .val (.int ib), .val (.int ic), .val (.int j_a), .val (.int j_b), .val (.int (0 : Int32)), .val (.ref b1), .val (.ref b5), .unset, .unset] [(.ref b11)]))
      refine Go.by (fun t k => XS.astore X18.here hx rfl (hb hby at_36) rfl rfl (l' := #[.val (.int ia), .val (.int ib), .val (.int ic), .val (.int j_a), .val (.int j_b), .val (.int (0 : Int32)), .val (.ref b1), .val (.ref b5), .val (.ref b11), .unset]) rfl k) ?_
      show Go p e below _ (T18.setTop (mkF m 38 #[.val (.int ia), .val (.int ib), .val (.int ic), .val (.int j_a), .val (.int j_b), .val (.int (0 : Int32)), .val (.ref b1), .val (.ref b5), .val (.ref b11), .unset] []))
      refine Go.by (fun t k => XS.aload X18.here hx rfl (hb hby at_38) rfl rfl k) ?_
      show Go p e below _ (T18.setTop (mkF m 40 #[.val (.int ia), .val (.int ib), .val (.int ic), .val (.int j_a), .val (.int j_b), .val (.int (0 : Int32)), .val (.ref b1), .val (.ref b5), .val (.ref b11), .unset] [(.ref b11)]))
      have F27 : Old Z n0 T18.heap := (F19.keep K18 (allS ge11 all0))
      have F28 : Keep h0 T18.heap [] := (F22.trans K18 (allS (Or.inr sz11) all0))
      obtain ⟨cq26, kq26, q26a, q26b, q26c⟩ := isOf hZ rfl F18_0
      obtain ⟨_, _, ⟨T26, L26, k26, n26⟩, -, X26, ⟨Lc26, hQ26, l26, y26, z26⟩, st26⟩ := X18.virtualBack hx (y := (⟨"com/example/whole_commit/wholecommit/Batch", "size", "()I"⟩ : MethodName)) (z := (⟨"com/example/whole_commit/wholecommit/Batch", "size", "()I"⟩ : MethodName)) hown (mvT hZ (hw _ (List.mem_of_getElem? (i := 58) rfl))) (mvT hZ (hw _ (List.mem_of_getElem? (i := 59) rfl))) (notFace_of_selects (args := #[]) (mvT hZ (hw _ (List.mem_of_getElem? (i := 61) rfl)))) (mvT hZ (hw _ (List.mem_of_getElem? (i := 61) rfl))) (mvT hZ (hw _ (List.mem_of_getElem? (i := 60) rfl))) (by decide) (backOf (W := 0) (b_size l Z a0 hw [] b11 (8 : Int32) T18.heap n0 F27 F18_2) hZ (hw _ (List.mem_of_getElem? (i := 62) rfl)) (hw _ (List.mem_of_getElem? (i := 3) rfl)) (by decide) (by decide)) q26a q26c (g := (mkF m 40 #[.val (.int ia), .val (.int ib), .val (.int ic), .val (.int j_a), .val (.int j_b), .val (.int (0 : Int32)), .val (.ref b1), .val (.ref b5), .val (.ref b11), .unset] [(.ref b11)])) rfl (by rw [hml]; rfl) (Steps.refl _) (argsL := []) (rest := []) (lenOf pd_3 rfl) rfl (by show 2 * 0 + _ ≤ _; exact Nat.le_of_eq rfl) (hb hby at_40) (fun _ _ => ⟨rfl, rfl, (by decide : 6 + 0 ≤ _), (by decide : 1296 + 0 ≤ _)⟩)
      dsimp only [Pt.U, Pt.locs, Pt.cells, Pt.slots] at X26 l26 y26 z26 st26 hQ26
      subst l26 y26 z26
      obtain ⟨rfl, N26q, e26⟩ := hQ26
      have N26 := Fr.app N18 N26q
      refine Go.tr st26 ?_
      show Go p e below _ (T26.setTop (mkF m 43 #[.val (.int ia), .val (.int ib), .val (.int ic), .val (.int j_a), .val (.int j_b), .val (.int (0 : Int32)), .val (.ref b1), .val (.ref b5), .val (.ref b11), .unset] [(.int (own_sz (8 : Int32)))]))
      refine Go.by (fun t k => XS.ifNo X26.here hx rfl (hb hby at_43) rfl ((if0 _ _).trans (teq own_sz8).2) k) ?_
      show Go p e below _ (T26.setTop (mkF m 46 #[.val (.int ia), .val (.int ib), .val (.int ic), .val (.int j_a), .val (.int j_b), .val (.int (0 : Int32)), .val (.ref b1), .val (.ref b5), .val (.ref b11), .unset] []))
      refine Go.by (fun t k => XS.iconst X26.here hx rfl (hb hby at_46) k) ?_
      show Go p e below _ (T26.setTop (mkF m 47 #[.val (.int ia), .val (.int ib), .val (.int ic), .val (.int j_a), .val (.int j_b), .val (.int (0 : Int32)), .val (.ref b1), .val (.ref b5), .val (.ref b11), .unset] [(.int (1 : Int32))]))
      refine Go.by (fun t k => XS.goto X26.here hx rfl (pc0 := 47) (pc' := 51) rfl (hb hby at_47) (by decide) (by decide) k) ?_
      show Go p e below _ (T26.setTop (mkF m 51 #[.val (.int ia), .val (.int ib), .val (.int ic), .val (.int j_a), .val (.int j_b), .val (.int (0 : Int32)), .val (.ref b1), .val (.ref b5), .val (.ref b11), .unset] [(.int (1 : Int32))]))
      refine Go.by (fun t k => XS.istore X26.here hx rfl (hb hby at_51) rfl (l' := #[.val (.int ia), .val (.int ib), .val (.int ic), .val (.int j_a), .val (.int j_b), .val (.int (0 : Int32)), .val (.ref b1), .val (.ref b5), .val (.ref b11), .val (.int (1 : Int32))]) rfl k) ?_
      show Go p e below _ (T26.setTop (mkF m 53 #[.val (.int ia), .val (.int ib), .val (.int ic), .val (.int j_a), .val (.int j_b), .val (.int (0 : Int32)), .val (.ref b1), .val (.ref b5), .val (.ref b11), .val (.int (1 : Int32))] []))
      refine Go.by (fun t k => XS.iload X26.here hx rfl (hb hby at_53) rfl k) ?_
      show Go p e below _ (T26.setTop (mkF m 55 #[.val (.int ia), .val (.int ib), .val (.int ic), .val (.int j_a), .val (.int j_b), .val (.int (0 : Int32)), .val (.ref b1), .val (.ref b5), .val (.ref b11), .val (.int (1 : Int32))] [(.int (0 : Int32))]))
      refine Go.by (fun t k => XS.iconst X26.here hx rfl (hb hby at_55) k) ?_
      show Go p e below _ (T26.setTop (mkF m 56 #[.val (.int ia), .val (.int ib), .val (.int ic), .val (.int j_a), .val (.int j_b), .val (.int (0 : Int32)), .val (.ref b1), .val (.ref b5), .val (.ref b11), .val (.int (1 : Int32))] [(.int (1 : Int32)), (.int (0 : Int32))]))
      refine Go.by (fun t k => XS.icmpYes X26.here hx rfl (pc0 := 56) (pc' := 90) rfl (hb hby at_56) rfl (tlt (by decide : (0 : Int32) < (1 : Int32))).1 (by decide) (by decide) k) ?_
      show Go p e below _ (T26.setTop (mkF m 90 #[.val (.int ia), .val (.int ib), .val (.int ic), .val (.int j_a), .val (.int j_b), .val (.int (0 : Int32)), .val (.ref b1), .val (.ref b5), .val (.ref b11), .val (.int (1 : Int32))] []))
      refine Go.by (fun t k => XS.iload X26.here hx rfl (hb hby at_90) rfl k) ?_
      show Go p e below _ (T26.setTop (mkF m 92 #[.val (.int ia), .val (.int ib), .val (.int ic), .val (.int j_a), .val (.int j_b), .val (.int (0 : Int32)), .val (.ref b1), .val (.ref b5), .val (.ref b11), .val (.int (1 : Int32))] [(.int (0 : Int32))]))
      refine Go.by (fun t k => XS.iconst X26.here hx rfl (hb hby at_92) k) ?_
      show Go p e below _ (T26.setTop (mkF m 93 #[.val (.int ia), .val (.int ib), .val (.int ic), .val (.int j_a), .val (.int j_b), .val (.int (0 : Int32)), .val (.ref b1), .val (.ref b5), .val (.ref b11), .val (.int (1 : Int32))] [(.int (2 : Int32)), (.int (0 : Int32))]))
      refine Go.by (fun t k => XS.icmpYes X26.here hx rfl (pc0 := 93) (pc' := 130) rfl (hb hby at_93) rfl (tlt (by decide : (0 : Int32) < (2 : Int32))).1 (by decide) (by decide) k) ?_
      show Go p e below _ (T26.setTop (mkF m 130 #[.val (.int ia), .val (.int ib), .val (.int ic), .val (.int j_a), .val (.int j_b), .val (.int (0 : Int32)), .val (.ref b1), .val (.ref b5), .val (.ref b11), .val (.int (1 : Int32))] []))
      refine Go.by (fun t k => XS.iload X26.here hx rfl (hb hby at_130) rfl k) ?_
      show Go p e below _ (T26.setTop (mkF m 132 #[.val (.int ia), .val (.int ib), .val (.int ic), .val (.int j_a), .val (.int j_b), .val (.int (0 : Int32)), .val (.ref b1), .val (.ref b5), .val (.ref b11), .val (.int (1 : Int32))] [(.int (0 : Int32))]))
      refine Go.by (fun t k => XS.iconst X26.here hx rfl (hb hby at_132) k) ?_
      show Go p e below _ (T26.setTop (mkF m 133 #[.val (.int ia), .val (.int ib), .val (.int ic), .val (.int j_a), .val (.int j_b), .val (.int (0 : Int32)), .val (.ref b1), .val (.ref b5), .val (.ref b11), .val (.int (1 : Int32))] [(.int (3 : Int32)), (.int (0 : Int32))]))
      refine Go.by (fun t k => XS.icmpYes X26.here hx rfl (pc0 := 133) (pc' := 172) rfl (hb hby at_133) rfl (tlt (by decide : (0 : Int32) < (3 : Int32))).1 (by decide) (by decide) k) ?_
      show Go p e below _ (T26.setTop (mkF m 172 #[.val (.int ia), .val (.int ib), .val (.int ic), .val (.int j_a), .val (.int j_b), .val (.int (0 : Int32)), .val (.ref b1), .val (.ref b5), .val (.ref b11), .val (.int (1 : Int32))] []))
      refine Go.by (fun t k => XS.iload X26.here hx rfl (hb hby at_172) rfl k) ?_
      show Go p e below _ (T26.setTop (mkF m 174 #[.val (.int ia), .val (.int ib), .val (.int ic), .val (.int j_a), .val (.int j_b), .val (.int (0 : Int32)), .val (.ref b1), .val (.ref b5), .val (.ref b11), .val (.int (1 : Int32))] [(.int (1 : Int32))]))
      have hq : Q_law Z ia ib ic em h0 n0 (some (.int (nar .boolean (1 : Int32)))) T18.heap _ := ⟨rfl, N26, F28⟩
      exact Go.retN X26 hx (t := .boolean) Bd.returns (by simp) hlk (hb hby at_174) (by decide) (by decide) (by rw [e26]; exact hq)
    · skip
      show Go p e below _ (s₁.setTop (mkF m 18 #[.val (.int ia), .val (.int ib), .val (.int ic), .val (.int j_a), .val (.int j_b), .val (.int (1 : Int32)), .unset, .unset, .unset, .unset] []))
      refine Go.by (fun t k => XS.iloadN X0.here hx rfl (hb hby at_18) rfl k) ?_
      show Go p e below _ (s₁.setTop (mkF m 19 #[.val (.int ia), .val (.int ib), .val (.int ic), .val (.int j_a), .val (.int j_b), .val (.int (1 : Int32)), .unset, .unset, .unset, .unset] [(.int j_a)]))
      obtain ⟨T29, h29, k29, X29, e29, E29, A29, Q29, st29⟩ := newPE X0 hx hZ (hw _ (List.mem_of_getElem? (i := 0) rfl)) e0 (g := (mkF m 19 #[.val (.int ia), .val (.int ib), .val (.int ic), .val (.int j_a), .val (.int j_b), .val (.int (1 : Int32)), .unset, .unset, .unset, .unset] [(.int j_a)])) rfl (hb hby at_19) rfl (own_nn (by omega)) (cap := 511) (by have := own_nat (x := j_a) (by omega); omega) (by decide) (by decide) (by decide) (ad := "[B") (by decide)
      obtain ⟨b29, g29⟩ : ∃ z, z = h0.size := ⟨_, rfl⟩
      rw [← g29] at A29 Q29 st29
      have gl29 : h0.size ≤ b29 := Nat.le_of_eq g29.symm
      have ge29 : n0 ≤ b29 := Nat.le_trans (own_old_size O0) gl29
      have sz29 : h0.size ≤ b29 := Nat.le_trans (Keep.refl h0 []).1 gl29
      have F30 : own_By Z h29 b29 j_a := own_By.new A29 (own_nn (by omega))
      refine Go.by st29 ?_
      show Go p e below _ (T29.setTop (mkF m 21 #[.val (.int ia), .val (.int ib), .val (.int ic), .val (.int j_a), .val (.int j_b), .val (.int (1 : Int32)), .unset, .unset, .unset, .unset] [(.ref b29)]))
      refine Go.by (fun t k => XS.astore X29.here hx rfl (hb hby at_21) rfl rfl (l' := #[.val (.int ia), .val (.int ib), .val (.int ic), .val (.int j_a), .val (.int j_b), .val (.int (1 : Int32)), .val (.ref b29), .unset, .unset, .unset]) rfl k) ?_
      show Go p e below _ (T29.setTop (mkF m 23 #[.val (.int ia), .val (.int ib), .val (.int ic), .val (.int j_a), .val (.int j_b), .val (.int (1 : Int32)), .val (.ref b29), .unset, .unset, .unset] []))
      refine Go.by (fun t k => XS.iload X29.here hx rfl (hb hby at_23) rfl k) ?_
      show Go p e below _ (T29.setTop (mkF m 25 #[.val (.int ia), .val (.int ib), .val (.int ic), .val (.int j_a), .val (.int j_b), .val (.int (1 : Int32)), .val (.ref b29), .unset, .unset, .unset] [(.int j_b)]))
      have F31 : Old Z n0 h29 := (O0.ext E29)
      have F32 : Keep h0 h29 [] := ((Keep.refl h0 []).ext E29)
      obtain ⟨T33, h33, k33, X33, e33, E33, A33, Q33, st33⟩ := newPE X29 hx hZ (hw _ (List.mem_of_getElem? (i := 0) rfl)) e29 (g := (mkF m 25 #[.val (.int ia), .val (.int ib), .val (.int ic), .val (.int j_a), .val (.int j_b), .val (.int (1 : Int32)), .val (.ref b29), .unset, .unset, .unset] [(.int j_b)])) rfl (hb hby at_25) rfl (own_nn (by omega)) (cap := 511) (by have := own_nat (x := j_b) (by omega); omega) (by decide) (by decide) (by decide) (ad := "[B") (by decide)
      obtain ⟨b33, g33⟩ : ∃ z, z = h29.size := ⟨_, rfl⟩
      rw [← g33] at A33 Q33 st33
      have gl33 : h29.size ≤ b33 := Nat.le_of_eq g33.symm
      have ge33 : n0 ≤ b33 := Nat.le_trans (own_old_size F31) gl33
      have sz33 : h0.size ≤ b33 := Nat.le_trans F32.1 gl33
      have ne34 : b29 ≠ b33 := Nat.ne_of_lt (Nat.lt_of_lt_of_le Q29.lt gl33)
      have F35 : own_By Z h33 b33 j_b := own_By.new A33 (own_nn (by omega))
      refine Go.by st33 ?_
      show Go p e below _ (T33.setTop (mkF m 27 #[.val (.int ia), .val (.int ib), .val (.int ic), .val (.int j_a), .val (.int j_b), .val (.int (1 : Int32)), .val (.ref b29), .unset, .unset, .unset] [(.ref b33)]))
      refine Go.by (fun t k => XS.astore X33.here hx rfl (hb hby at_27) rfl rfl (l' := #[.val (.int ia), .val (.int ib), .val (.int ic), .val (.int j_a), .val (.int j_b), .val (.int (1 : Int32)), .val (.ref b29), .val (.ref b33), .unset, .unset]) rfl k) ?_
      show Go p e below _ (T33.setTop (mkF m 29 #[.val (.int ia), .val (.int ib), .val (.int ic), .val (.int j_a), .val (.int j_b), .val (.int (1 : Int32)), .val (.ref b29), .val (.ref b33), .unset, .unset] []))
      have F36 : Exa Z h33 b29 "[B" := (Q29.ext E33)
      have F37 : Old Z n0 h33 := (F31.ext E33)
      have F38 : Keep h0 h33 [] := (F32.ext E33)
      obtain ⟨T39, h39, X39, e39, E39, A39, D39, -, st39⟩ := newO X33 hx hZ hown (hw _ (List.mem_of_getElem? (i := 1) rfl)) (hw _ (List.mem_of_getElem? (i := 2) rfl)) (hw _ (List.mem_of_getElem? (i := 3) rfl)) e33 (g := (mkF m 29 #[.val (.int ia), .val (.int ib), .val (.int ic), .val (.int j_a), .val (.int j_b), .val (.int (1 : Int32)), .val (.ref b29), .val (.ref b33), .unset, .unset] [])) rfl (hb hby at_29) (by decide) (by decide)
      obtain ⟨b39, g39⟩ : ∃ z, z = h33.size := ⟨_, rfl⟩
      rw [← g39] at A39 D39 st39
      have gl39 : h33.size ≤ b39 := Nat.le_of_eq g39.symm
      have ge39 : n0 ≤ b39 := Nat.le_trans (own_old_size F37) gl39
      have sz39 : h0.size ≤ b39 := Nat.le_trans F38.1 gl39
      have ne40 : b29 ≠ b39 := Nat.ne_of_lt (Nat.lt_of_lt_of_le F36.lt gl39)
      have ne41 : b33 ≠ b39 := Nat.ne_of_lt (Nat.lt_of_lt_of_le Q33.lt gl39)
      have F42 : Fld Z h39 b39 "com/example/whole_commit/wholecommit/Batch" "waiting" "Ljava/util/List;" .null := D39 (Or.inr (hw _ (List.mem_of_getElem? (i := 35) rfl))) (ty := (.object "java/util/List")) (by decide)
      have F43 : Fld Z h39 b39 "com/example/whole_commit/wholecommit/Batch" "decisions" "Ljava/util/Map;" .null := D39 (Or.inr (hw _ (List.mem_of_getElem? (i := 53) rfl))) (ty := (.object "java/util/Map")) (by decide)
      have F44 : Fld Z h39 b39 "com/example/whole_commit/wholecommit/Batch" "bytes" "[B" .null := D39 (Or.inl (hw _ (List.mem_of_getElem? (i := 55) rfl))) (ty := (.array .byte)) (by decide)
      have F45 : Fld Z h39 b39 "com/example/whole_commit/wholecommit/Batch" "size" "I" (.int (0 : Int32)) := D39 (Or.inl (hw _ (List.mem_of_getElem? (i := 57) rfl))) (ty := .int) (by decide)
      refine Go.by st39 ?_
      show Go p e below _ (T39.setTop (mkF m 32 #[.val (.int ia), .val (.int ib), .val (.int ic), .val (.int j_a), .val (.int j_b), .val (.int (1 : Int32)), .val (.ref b29), .val (.ref b33), .unset, .unset] [(.ref b39)]))
      refine Go.by (fun t k => XS.dup X39.here hx rfl (hb hby at_32) rfl rfl k) ?_
      show Go p e below _ (T39.setTop (mkF m 33 #[.val (.int ia), .val (.int ib), .val (.int ic), .val (.int j_a), .val (.int j_b), .val (.int (1 : Int32)), .val (.ref b29), .val (.ref b33), .unset, .unset] [(.ref b39), (.ref b39)]))
      have F47 : Old Z n0 h39 := (F37.ext E39)
      have F48 : Exa Z h39 b29 "[B" := (F36.ext E39)
      have F49 : Exa Z h39 b33 "[B" := (Q33.ext E39)
      have F50 : Keep h0 h39 [] := (F38.ext E39)
      obtain ⟨_, _, ⟨T46, L46, k46, n46⟩, -, X46, ⟨Lc46, hQ46, l46, y46, z46⟩, st46⟩ := X39.specialBack hx (y := (⟨"com/example/whole_commit/wholecommit/Batch", "<init>", "()V"⟩ : MethodName)) rfl hown (mvT hZ (hw _ (List.mem_of_getElem? (i := 4) rfl))) (mvT hZ (hw _ (List.mem_of_getElem? (i := 5) rfl))) (mvT hZ (hw _ (List.mem_of_getElem? (i := 6) rfl))) (by decide) (backOf (W := 1) (b_init l Z a0 hw [] b39 em h39 n0 F47 P0 A39 F42 F43 F44 F45 ge39) hZ (hw _ (List.mem_of_getElem? (i := 6) rfl)) (hw _ (List.mem_of_getElem? (i := 3) rfl)) (by decide) (by decide)) (g := (mkF m 33 #[.val (.int ia), .val (.int ib), .val (.int ic), .val (.int j_a), .val (.int j_b), .val (.int (1 : Int32)), .val (.ref b29), .val (.ref b33), .unset, .unset] [(.ref b39), (.ref b39)])) rfl (by rw [hml]; rfl) (Steps.refl _) (a := b39) (argsL := []) (rest := [(.ref b39)]) (lenOf pd_0 rfl) rfl (by show 2 * 0 + _ ≤ _; exact Nat.le_of_eq rfl) (hb hby at_33) (fun _ _ => ⟨rfl, e39, (by decide : 3 + 3 ≤ _), (by decide : 1029 + 267 ≤ _)⟩)
      dsimp only [Pt.U, Pt.locs, Pt.cells, Pt.slots] at X46 l46 y46 z46 st46 hQ46
      subst l46 y46 z46
      obtain ⟨bya_46, rfl, N46q, K46, fz46_bya, F46_0, F46_1, F46_2, F46_3⟩ := hQ46
      have N46 := Fr.app N0 N46q
      have ge_bya_46 : n0 ≤ bya_46 := Nat.le_trans (own_old_size F47) fz46_bya
      have sz_bya_46 : h0.size ≤ bya_46 := Nat.le_trans F50.1 fz46_bya
      have ne51 : b29 ≠ bya_46 := Nat.ne_of_lt (Nat.lt_of_lt_of_le F48.lt fz46_bya)
      have ne52 : b33 ≠ bya_46 := Nat.ne_of_lt (Nat.lt_of_lt_of_le F49.lt fz46_bya)
      have ne53 : b39 ≠ bya_46 := Nat.ne_of_lt (Nat.lt_of_lt_of_le A39.lt fz46_bya)
      refine Go.tr st46 ?_
      show Go p e below _ (T46.setTop (mkF m 36 #[.val (.int ia), .val (.int ib), .val (.int ic), .val (.int j_a), .val (.int j_b), .val (.int (1 : Int32)), .val (.ref b29), .val (.ref b33), .unset, .unset] [(.ref b39)]))
      refine Go.by (fun t k => XS.astore X46.here hx rfl (hb hby at_36) rfl rfl (l' := #[.val (.int ia), .val (.int ib), .val (.int ic), .val (.int j_a), .val (.int j_b), .val (.int (1 : Int32)), .val (.ref b29), .val (.ref b33), .val (.ref b39), .unset]) rfl k) ?_
      show Go p e below _ (T46.setTop (mkF m 38 #[.val (.int ia), .val (.int ib), .val (.int ic), .val (.int j_a), .val (.int j_b), .val (.int (1 : Int32)), .val (.ref b29), .val (.ref b33), .val (.ref b39), .unset] []))
      refine Go.by (fun t k => XS.aload X46.here hx rfl (hb hby at_38) rfl rfl k) ?_
      show Go p e below _ (T46.setTop (mkF m 40 #[.val (.int ia), .val (.int ib), .val (.int ic), .val (.int j_a), .val (.int j_b), .val (.int (1 : Int32)), .val (.ref b29), .val (.ref b33), .val (.ref b39), .unset] [(.ref b39)]))
      have F55 : Old Z n0 T46.heap := (F47.keep K46 (allS ge39 all0))
      have F56 : Keep h0 T46.heap [] := (F50.trans K46 (allS (Or.inr sz39) all0))
      obtain ⟨cq54, kq54, q54a, q54b, q54c⟩ := isOf hZ rfl F46_0
      obtain ⟨_, _, ⟨T54, L54, k54, n54⟩, -, X54, ⟨Lc54, hQ54, l54, y54, z54⟩, st54⟩ := X46.virtualBack hx (y := (⟨"com/example/whole_commit/wholecommit/Batch", "size", "()I"⟩ : MethodName)) (z := (⟨"com/example/whole_commit/wholecommit/Batch", "size", "()I"⟩ : MethodName)) hown (mvT hZ (hw _ (List.mem_of_getElem? (i := 58) rfl))) (mvT hZ (hw _ (List.mem_of_getElem? (i := 59) rfl))) (notFace_of_selects (args := #[]) (mvT hZ (hw _ (List.mem_of_getElem? (i := 61) rfl)))) (mvT hZ (hw _ (List.mem_of_getElem? (i := 61) rfl))) (mvT hZ (hw _ (List.mem_of_getElem? (i := 60) rfl))) (by decide) (backOf (W := 0) (b_size l Z a0 hw [] b39 (8 : Int32) T46.heap n0 F55 F46_2) hZ (hw _ (List.mem_of_getElem? (i := 62) rfl)) (hw _ (List.mem_of_getElem? (i := 3) rfl)) (by decide) (by decide)) q54a q54c (g := (mkF m 40 #[.val (.int ia), .val (.int ib), .val (.int ic), .val (.int j_a), .val (.int j_b), .val (.int (1 : Int32)), .val (.ref b29), .val (.ref b33), .val (.ref b39), .unset] [(.ref b39)])) rfl (by rw [hml]; rfl) (Steps.refl _) (argsL := []) (rest := []) (lenOf pd_3 rfl) rfl (by show 2 * 0 + _ ≤ _; exact Nat.le_of_eq rfl) (hb hby at_40) (fun _ _ => ⟨rfl, rfl, (by decide : 6 + 0 ≤ _), (by decide : 1296 + 0 ≤ _)⟩)
      dsimp only [Pt.U, Pt.locs, Pt.cells, Pt.slots] at X54 l54 y54 z54 st54 hQ54
      subst l54 y54 z54
      obtain ⟨rfl, N54q, e54⟩ := hQ54
      have N54 := Fr.app N46 N54q
      refine Go.tr st54 ?_
      show Go p e below _ (T54.setTop (mkF m 43 #[.val (.int ia), .val (.int ib), .val (.int ic), .val (.int j_a), .val (.int j_b), .val (.int (1 : Int32)), .val (.ref b29), .val (.ref b33), .val (.ref b39), .unset] [(.int (own_sz (8 : Int32)))]))
      refine Go.by (fun t k => XS.ifNo X54.here hx rfl (hb hby at_43) rfl ((if0 _ _).trans (teq own_sz8).2) k) ?_
      show Go p e below _ (T54.setTop (mkF m 46 #[.val (.int ia), .val (.int ib), .val (.int ic), .val (.int j_a), .val (.int j_b), .val (.int (1 : Int32)), .val (.ref b29), .val (.ref b33), .val (.ref b39), .unset] []))
      refine Go.by (fun t k => XS.iconst X54.here hx rfl (hb hby at_46) k) ?_
      show Go p e below _ (T54.setTop (mkF m 47 #[.val (.int ia), .val (.int ib), .val (.int ic), .val (.int j_a), .val (.int j_b), .val (.int (1 : Int32)), .val (.ref b29), .val (.ref b33), .val (.ref b39), .unset] [(.int (1 : Int32))]))
      refine Go.by (fun t k => XS.goto X54.here hx rfl (pc0 := 47) (pc' := 51) rfl (hb hby at_47) (by decide) (by decide) k) ?_
      show Go p e below _ (T54.setTop (mkF m 51 #[.val (.int ia), .val (.int ib), .val (.int ic), .val (.int j_a), .val (.int j_b), .val (.int (1 : Int32)), .val (.ref b29), .val (.ref b33), .val (.ref b39), .unset] [(.int (1 : Int32))]))
      refine Go.by (fun t k => XS.istore X54.here hx rfl (hb hby at_51) rfl (l' := #[.val (.int ia), .val (.int ib), .val (.int ic), .val (.int j_a), .val (.int j_b), .val (.int (1 : Int32)), .val (.ref b29), .val (.ref b33), .val (.ref b39), .val (.int (1 : Int32))]) rfl k) ?_
      show Go p e below _ (T54.setTop (mkF m 53 #[.val (.int ia), .val (.int ib), .val (.int ic), .val (.int j_a), .val (.int j_b), .val (.int (1 : Int32)), .val (.ref b29), .val (.ref b33), .val (.ref b39), .val (.int (1 : Int32))] []))
      refine Go.by (fun t k => XS.iload X54.here hx rfl (hb hby at_53) rfl k) ?_
      show Go p e below _ (T54.setTop (mkF m 55 #[.val (.int ia), .val (.int ib), .val (.int ic), .val (.int j_a), .val (.int j_b), .val (.int (1 : Int32)), .val (.ref b29), .val (.ref b33), .val (.ref b39), .val (.int (1 : Int32))] [(.int (1 : Int32))]))
      refine Go.by (fun t k => XS.iconst X54.here hx rfl (hb hby at_55) k) ?_
      show Go p e below _ (T54.setTop (mkF m 56 #[.val (.int ia), .val (.int ib), .val (.int ic), .val (.int j_a), .val (.int j_b), .val (.int (1 : Int32)), .val (.ref b29), .val (.ref b33), .val (.ref b39), .val (.int (1 : Int32))] [(.int (1 : Int32)), (.int (1 : Int32))]))
      refine Go.by (fun t k => XS.icmpNo X54.here hx rfl (hb hby at_56) rfl (flt Int32.lt_irrefl).1 k) ?_
      show Go p e below _ (T54.setTop (mkF m 59 #[.val (.int ia), .val (.int ib), .val (.int ic), .val (.int j_a), .val (.int j_b), .val (.int (1 : Int32)), .val (.ref b29), .val (.ref b33), .val (.ref b39), .val (.int (1 : Int32))] []))
      refine Go.by (fun t k => XS.aload X54.here hx rfl (hb hby at_59) rfl rfl k) ?_
      show Go p e below _ (T54.setTop (mkF m 61 #[.val (.int ia), .val (.int ib), .val (.int ic), .val (.int j_a), .val (.int j_b), .val (.int (1 : Int32)), .val (.ref b29), .val (.ref b33), .val (.ref b39), .val (.int (1 : Int32))] [(.ref b39)]))
      refine Go.by (fun t k => XS.aload X54.here hx rfl (hb hby at_61) rfl rfl k) ?_
      show Go p e below _ (T54.setTop (mkF m 63 #[.val (.int ia), .val (.int ib), .val (.int ic), .val (.int j_a), .val (.int j_b), .val (.int (1 : Int32)), .val (.ref b29), .val (.ref b33), .val (.ref b39), .val (.int (1 : Int32))] [(.ref b29), (.ref b39)]))
      have F58 : own_By Z T46.heap b29 j_a := (((F30.ext E33).ext E39).keep K46 (ninS ne40 nin0))
      have F59 : Exa Z T46.heap b29 "[B" := (F48.keep K46)
      have F60 : Exa Z T46.heap b33 "[B" := (F49.keep K46)
      obtain ⟨cq57, kq57, q57a, q57b, q57c⟩ := isOf hZ e54 F46_0
      obtain ⟨_, _, ⟨T57, L57, k57, n57⟩, -, X57, ⟨Lc57, hQ57, l57, y57, z57⟩, st57⟩ := X54.virtualBack hx (y := (⟨"com/example/whole_commit/wholecommit/Batch", "add", "([B)V"⟩ : MethodName)) (z := (⟨"com/example/whole_commit/wholecommit/Batch", "add", "([B)V"⟩ : MethodName)) hown (mvT hZ (hw _ (List.mem_of_getElem? (i := 63) rfl))) (mvT hZ (hw _ (List.mem_of_getElem? (i := 64) rfl))) (notFace_of_selects (args := #[]) (mvT hZ (hw _ (List.mem_of_getElem? (i := 66) rfl)))) (mvT hZ (hw _ (List.mem_of_getElem? (i := 66) rfl))) (mvT hZ (hw _ (List.mem_of_getElem? (i := 65) rfl))) (by decide) (backOf (W := 0) (b_add l Z a0 hw [] b39 b29 (8 : Int32) bya_46 (256 : Int32) j_a T46.heap n0 F55 F46_0 F46_2 F46_1 F46_3 F58 ge39 ge_bya_46 ne51 ne40 (Ne.symm ne53) (by have e8 : (8 : Int32).toInt = 8 := rfl; have e256 : (256 : Int32).toInt = 256 := rfl; have ea := own_add (x := (8 : Int32)) (y := j_a) (by omega) (by omega); have eb := own_add (x := (8 : Int32) + j_a) (y := j_b) (by omega) (by omega); omega : 0 ≤ (8 : Int32).toInt ∧ (8 : Int32).toInt ≤ 1030) (by have e8 : (8 : Int32).toInt = 8 := rfl; have e256 : (256 : Int32).toInt = 256 := rfl; have ea := own_add (x := (8 : Int32)) (y := j_a) (by omega) (by omega); have eb := own_add (x := (8 : Int32) + j_a) (y := j_b) (by omega) (by omega); omega : (8 : Int32).toInt ≤ (256 : Int32).toInt ∧ (256 : Int32).toInt ≤ 1038) (by have e8 : (8 : Int32).toInt = 8 := rfl; have e256 : (256 : Int32).toInt = 256 := rfl; have ea := own_add (x := (8 : Int32)) (y := j_a) (by omega) (by omega); have eb := own_add (x := (8 : Int32) + j_a) (y := j_b) (by omega) (by omega); omega : 0 ≤ j_a.toInt ∧ j_a.toInt ≤ 511)) hZ (hw _ (List.mem_of_getElem? (i := 67) rfl)) (hw _ (List.mem_of_getElem? (i := 3) rfl)) (by decide) (by decide)) q57a q57c (g := (mkF m 63 #[.val (.int ia), .val (.int ib), .val (.int ic), .val (.int j_a), .val (.int j_b), .val (.int (1 : Int32)), .val (.ref b29), .val (.ref b33), .val (.ref b39), .val (.int (1 : Int32))] [(.ref b29), (.ref b39)])) rfl (by rw [hml]; rfl) (Steps.refl _) (argsL := [(.ref b29)]) (rest := []) (lenOf pd_4 rfl) rfl (by show 2 * 0 + _ ≤ _; exact Nat.le_of_eq rfl) (hb hby at_63) (fun _ _ => ⟨rfl, e54, (by decide : 6 + 1 ≤ _), (by decide : 1296 + 2076 ≤ _)⟩)
      dsimp only [Pt.U, Pt.locs, Pt.cells, Pt.slots] at X57 l57 y57 z57 st57 hQ57
      subst l57 y57 z57
      obtain ⟨by2_57, zb2_57, rfl, N57q, K57, my57_by2, F57_0, F57_1, F57_2, F57_3, F57_4, bnd_57, nby_57⟩ := hQ57
      have N57 := Fr.app N54 N57q
      have ge_by2_57 : n0 ≤ by2_57 := my57_by2.elim (fun q => by rw [q]; exact ge_bya_46) (fun q => Nat.le_trans (own_old_size F55) q)
      have sz_by2_57 : h0.size ≤ by2_57 := my57_by2.elim (fun q => by rw [q]; exact sz_bya_46) (fun q => Nat.le_trans F56.1 q)
      have ne61 : b29 ≠ by2_57 := my57_by2.elim (fun q => by rw [q]; exact ne51) (fun q => Nat.ne_of_lt (Nat.lt_of_lt_of_le F59.lt q))
      have ne62 : b33 ≠ by2_57 := my57_by2.elim (fun q => by rw [q]; exact ne52) (fun q => Nat.ne_of_lt (Nat.lt_of_lt_of_le F60.lt q))
      have ne63 : b39 ≠ by2_57 := my57_by2.elim (fun q => by rw [q]; exact ne53) (fun q => Nat.ne_of_lt (Nat.lt_of_lt_of_le F46_0.lt q))
      refine Go.tr st57 ?_
      show Go p e below _ (T57.setTop (mkF m 66 #[.val (.int ia), .val (.int ib), .val (.int ic), .val (.int j_a), .val (.int j_b), .val (.int (1 : Int32)), .val (.ref b29), .val (.ref b33), .val (.ref b39), .val (.int (1 : Int32))] []))
      refine Go.by (fun t k => XS.iload X57.here hx rfl (hb hby at_66) rfl k) ?_
      show Go p e below _ (T57.setTop (mkF m 68 #[.val (.int ia), .val (.int ib), .val (.int ic), .val (.int j_a), .val (.int j_b), .val (.int (1 : Int32)), .val (.ref b29), .val (.ref b33), .val (.ref b39), .val (.int (1 : Int32))] [(.int (1 : Int32))]))
      refine Go.by (fun t k => XS.ifNo X57.here hx rfl (hb hby at_68) rfl ((if0 _ _).trans (feq (by decide : ¬ ((1 : Int32) = (0 : Int32)))).1) k) ?_
      show Go p e below _ (T57.setTop (mkF m 71 #[.val (.int ia), .val (.int ib), .val (.int ic), .val (.int j_a), .val (.int j_b), .val (.int (1 : Int32)), .val (.ref b29), .val (.ref b33), .val (.ref b39), .val (.int (1 : Int32))] []))
      refine Go.by (fun t k => XS.aload X57.here hx rfl (hb hby at_71) rfl rfl k) ?_
      show Go p e below _ (T57.setTop (mkF m 73 #[.val (.int ia), .val (.int ib), .val (.int ic), .val (.int j_a), .val (.int j_b), .val (.int (1 : Int32)), .val (.ref b29), .val (.ref b33), .val (.ref b39), .val (.int (1 : Int32))] [(.ref b39)]))
      have F65 : Old Z n0 T57.heap := (F55.keep K57 (allS ge39 (allS ge_bya_46 all0)))
      have F66 : Keep h0 T57.heap [] := (F56.trans K57 (allS (Or.inr sz39) (allS (Or.inr sz_bya_46) all0)))
      obtain ⟨cq64, kq64, q64a, q64b, q64c⟩ := isOf hZ rfl F57_0
      obtain ⟨_, _, ⟨T64, L64, k64, n64⟩, -, X64, ⟨Lc64, hQ64, l64, y64, z64⟩, st64⟩ := X57.virtualBack hx (y := (⟨"com/example/whole_commit/wholecommit/Batch", "size", "()I"⟩ : MethodName)) (z := (⟨"com/example/whole_commit/wholecommit/Batch", "size", "()I"⟩ : MethodName)) hown (mvT hZ (hw _ (List.mem_of_getElem? (i := 58) rfl))) (mvT hZ (hw _ (List.mem_of_getElem? (i := 59) rfl))) (notFace_of_selects (args := #[]) (mvT hZ (hw _ (List.mem_of_getElem? (i := 61) rfl)))) (mvT hZ (hw _ (List.mem_of_getElem? (i := 61) rfl))) (mvT hZ (hw _ (List.mem_of_getElem? (i := 60) rfl))) (by decide) (backOf (W := 0) (b_size l Z a0 hw [] b39 ((8 : Int32) + j_a) T57.heap n0 F65 F57_1) hZ (hw _ (List.mem_of_getElem? (i := 62) rfl)) (hw _ (List.mem_of_getElem? (i := 3) rfl)) (by decide) (by decide)) q64a q64c (g := (mkF m 73 #[.val (.int ia), .val (.int ib), .val (.int ic), .val (.int j_a), .val (.int j_b), .val (.int (1 : Int32)), .val (.ref b29), .val (.ref b33), .val (.ref b39), .val (.int (1 : Int32))] [(.ref b39)])) rfl (by rw [hml]; rfl) (Steps.refl _) (argsL := []) (rest := []) (lenOf pd_3 rfl) rfl (by show 2 * 0 + _ ≤ _; exact Nat.le_of_eq rfl) (hb hby at_73) (fun _ _ => ⟨rfl, rfl, (by decide : 7 + 0 ≤ _), (by decide : 3372 + 0 ≤ _)⟩)
      dsimp only [Pt.U, Pt.locs, Pt.cells, Pt.slots] at X64 l64 y64 z64 st64 hQ64
      subst l64 y64 z64
      obtain ⟨rfl, N64q, e64⟩ := hQ64
      have N64 := Fr.app N57 N64q
      refine Go.tr st64 ?_
      show Go p e below _ (T64.setTop (mkF m 76 #[.val (.int ia), .val (.int ib), .val (.int ic), .val (.int j_a), .val (.int j_b), .val (.int (1 : Int32)), .val (.ref b29), .val (.ref b33), .val (.ref b39), .val (.int (1 : Int32))] [(.int (own_sz ((8 : Int32) + j_a)))]))
      refine Go.by (fun t k => XS.iloadN X64.here hx rfl (hb hby at_76) rfl k) ?_
      show Go p e below _ (T64.setTop (mkF m 77 #[.val (.int ia), .val (.int ib), .val (.int ic), .val (.int j_a), .val (.int j_b), .val (.int (1 : Int32)), .val (.ref b29), .val (.ref b33), .val (.ref b39), .val (.int (1 : Int32))] [(.int j_a), (.int (own_sz ((8 : Int32) + j_a)))]))
      obtain ⟨_, _, ⟨T67, L67, k67, n67⟩, -, X67, ⟨Lc67, hQ67, l67, y67, z67⟩, st67⟩ := Jvm.LawKit.callS X64 hx (y := (⟨"com/example/whole_commit/wholecommit/BatchSizePinLaw", "expect", "(I)I"⟩ : MethodName)) hown (mvT hZ (hw _ (List.mem_of_getElem? (i := 72) rfl))) (mvT hZ (hw _ (List.mem_of_getElem? (i := 73) rfl))) (mvT hZ (hw _ (List.mem_of_getElem? (i := 74) rfl))) (mvT hZ (hw _ (List.mem_of_getElem? (i := 75) rfl))) (by decide) (backOf (W := 1) (expect l Z a0 hw [] j_a T57.heap n0 F65) hZ (hw _ (List.mem_of_getElem? (i := 75) rfl)) (hw _ (List.mem_of_getElem? (i := 74) rfl)) (by decide) (by decide)) (g := (mkF m 77 #[.val (.int ia), .val (.int ib), .val (.int ic), .val (.int j_a), .val (.int j_b), .val (.int (1 : Int32)), .val (.ref b29), .val (.ref b33), .val (.ref b39), .val (.int (1 : Int32))] [(.int j_a), (.int (own_sz ((8 : Int32) + j_a)))])) rfl (by rw [hml]; rfl) (argsL := [(.int j_a)]) (rest := [(.int (own_sz ((8 : Int32) + j_a)))]) (lenOf pd_5 rfl) rfl (by show 2 * 0 + _ ≤ _; exact Nat.le_of_eq rfl) (hb hby at_77) (fun _ _ => ⟨rfl, e64, (by decide : 7 + 0 ≤ _), (by decide : 3372 + 0 ≤ _)⟩)
      dsimp only [Pt.U, Pt.locs, Pt.cells, Pt.slots] at X67 l67 y67 z67 st67 hQ67
      subst l67 y67 z67
      obtain ⟨rfl, N67q, e67⟩ := hQ67
      have N67 := Fr.app N64 N67q
      refine Go.by st67 ?_
      show Go p e below _ (T67.setTop (mkF m 80 #[.val (.int ia), .val (.int ib), .val (.int ic), .val (.int j_a), .val (.int j_b), .val (.int (1 : Int32)), .val (.ref b29), .val (.ref b33), .val (.ref b39), .val (.int (1 : Int32))] [(.int (own_ex j_a)), (.int (own_sz ((8 : Int32) + j_a)))]))
      refine Go.by (fun t k => XS.icmpNo X67.here hx rfl (hb hby at_80) rfl (teq (own_cmp _)).2 k) ?_
      show Go p e below _ (T67.setTop (mkF m 83 #[.val (.int ia), .val (.int ib), .val (.int ic), .val (.int j_a), .val (.int j_b), .val (.int (1 : Int32)), .val (.ref b29), .val (.ref b33), .val (.ref b39), .val (.int (1 : Int32))] []))
      refine Go.by (fun t k => XS.iconst X67.here hx rfl (hb hby at_83) k) ?_
      show Go p e below _ (T67.setTop (mkF m 84 #[.val (.int ia), .val (.int ib), .val (.int ic), .val (.int j_a), .val (.int j_b), .val (.int (1 : Int32)), .val (.ref b29), .val (.ref b33), .val (.ref b39), .val (.int (1 : Int32))] [(.int (1 : Int32))]))
      refine Go.by (fun t k => XS.goto X67.here hx rfl (pc0 := 84) (pc' := 88) rfl (hb hby at_84) (by decide) (by decide) k) ?_
      show Go p e below _ (T67.setTop (mkF m 88 #[.val (.int ia), .val (.int ib), .val (.int ic), .val (.int j_a), .val (.int j_b), .val (.int (1 : Int32)), .val (.ref b29), .val (.ref b33), .val (.ref b39), .val (.int (1 : Int32))] [(.int (1 : Int32))]))
      refine Go.by (fun t k => XS.istore X67.here hx rfl (hb hby at_88) rfl (l' := #[.val (.int ia), .val (.int ib), .val (.int ic), .val (.int j_a), .val (.int j_b), .val (.int (1 : Int32)), .val (.ref b29), .val (.ref b33), .val (.ref b39), .val (.int (1 : Int32))]) rfl k) ?_
      show Go p e below _ (T67.setTop (mkF m 90 #[.val (.int ia), .val (.int ib), .val (.int ic), .val (.int j_a), .val (.int j_b), .val (.int (1 : Int32)), .val (.ref b29), .val (.ref b33), .val (.ref b39), .val (.int (1 : Int32))] []))
      refine Go.by (fun t k => XS.iload X67.here hx rfl (hb hby at_90) rfl k) ?_
      show Go p e below _ (T67.setTop (mkF m 92 #[.val (.int ia), .val (.int ib), .val (.int ic), .val (.int j_a), .val (.int j_b), .val (.int (1 : Int32)), .val (.ref b29), .val (.ref b33), .val (.ref b39), .val (.int (1 : Int32))] [(.int (1 : Int32))]))
      refine Go.by (fun t k => XS.iconst X67.here hx rfl (hb hby at_92) k) ?_
      show Go p e below _ (T67.setTop (mkF m 93 #[.val (.int ia), .val (.int ib), .val (.int ic), .val (.int j_a), .val (.int j_b), .val (.int (1 : Int32)), .val (.ref b29), .val (.ref b33), .val (.ref b39), .val (.int (1 : Int32))] [(.int (2 : Int32)), (.int (1 : Int32))]))
      refine Go.by (fun t k => XS.icmpYes X67.here hx rfl (pc0 := 93) (pc' := 130) rfl (hb hby at_93) rfl (tlt (by decide : (1 : Int32) < (2 : Int32))).1 (by decide) (by decide) k) ?_
      show Go p e below _ (T67.setTop (mkF m 130 #[.val (.int ia), .val (.int ib), .val (.int ic), .val (.int j_a), .val (.int j_b), .val (.int (1 : Int32)), .val (.ref b29), .val (.ref b33), .val (.ref b39), .val (.int (1 : Int32))] []))
      refine Go.by (fun t k => XS.iload X67.here hx rfl (hb hby at_130) rfl k) ?_
      show Go p e below _ (T67.setTop (mkF m 132 #[.val (.int ia), .val (.int ib), .val (.int ic), .val (.int j_a), .val (.int j_b), .val (.int (1 : Int32)), .val (.ref b29), .val (.ref b33), .val (.ref b39), .val (.int (1 : Int32))] [(.int (1 : Int32))]))
      refine Go.by (fun t k => XS.iconst X67.here hx rfl (hb hby at_132) k) ?_
      show Go p e below _ (T67.setTop (mkF m 133 #[.val (.int ia), .val (.int ib), .val (.int ic), .val (.int j_a), .val (.int j_b), .val (.int (1 : Int32)), .val (.ref b29), .val (.ref b33), .val (.ref b39), .val (.int (1 : Int32))] [(.int (3 : Int32)), (.int (1 : Int32))]))
      refine Go.by (fun t k => XS.icmpYes X67.here hx rfl (pc0 := 133) (pc' := 172) rfl (hb hby at_133) rfl (tlt (by decide : (1 : Int32) < (3 : Int32))).1 (by decide) (by decide) k) ?_
      show Go p e below _ (T67.setTop (mkF m 172 #[.val (.int ia), .val (.int ib), .val (.int ic), .val (.int j_a), .val (.int j_b), .val (.int (1 : Int32)), .val (.ref b29), .val (.ref b33), .val (.ref b39), .val (.int (1 : Int32))] []))
      refine Go.by (fun t k => XS.iload X67.here hx rfl (hb hby at_172) rfl k) ?_
      show Go p e below _ (T67.setTop (mkF m 174 #[.val (.int ia), .val (.int ib), .val (.int ic), .val (.int j_a), .val (.int j_b), .val (.int (1 : Int32)), .val (.ref b29), .val (.ref b33), .val (.ref b39), .val (.int (1 : Int32))] [(.int (1 : Int32))]))
      have hq : Q_law Z ia ib ic em h0 n0 (some (.int (nar .boolean (1 : Int32)))) T57.heap _ := ⟨rfl, N67, F66⟩
      exact Go.retN X67 hx (t := .boolean) Bd.returns (by simp) hlk (hb hby at_174) (by decide) (by decide) (by rw [e67]; exact hq)
    · skip
      show Go p e below _ (s₁.setTop (mkF m 18 #[.val (.int ia), .val (.int ib), .val (.int ic), .val (.int j_a), .val (.int j_b), .val (.int (2 : Int32)), .unset, .unset, .unset, .unset] []))
      refine Go.by (fun t k => XS.iloadN X0.here hx rfl (hb hby at_18) rfl k) ?_
      show Go p e below _ (s₁.setTop (mkF m 19 #[.val (.int ia), .val (.int ib), .val (.int ic), .val (.int j_a), .val (.int j_b), .val (.int (2 : Int32)), .unset, .unset, .unset, .unset] [(.int j_a)]))
      obtain ⟨T68, h68, k68, X68, e68, E68, A68, Q68, st68⟩ := newPE X0 hx hZ (hw _ (List.mem_of_getElem? (i := 0) rfl)) e0 (g := (mkF m 19 #[.val (.int ia), .val (.int ib), .val (.int ic), .val (.int j_a), .val (.int j_b), .val (.int (2 : Int32)), .unset, .unset, .unset, .unset] [(.int j_a)])) rfl (hb hby at_19) rfl (own_nn (by omega)) (cap := 511) (by have := own_nat (x := j_a) (by omega); omega) (by decide) (by decide) (by decide) (ad := "[B") (by decide)
      obtain ⟨b68, g68⟩ : ∃ z, z = h0.size := ⟨_, rfl⟩
      rw [← g68] at A68 Q68 st68
      have gl68 : h0.size ≤ b68 := Nat.le_of_eq g68.symm
      have ge68 : n0 ≤ b68 := Nat.le_trans (own_old_size O0) gl68
      have sz68 : h0.size ≤ b68 := Nat.le_trans (Keep.refl h0 []).1 gl68
      have F69 : own_By Z h68 b68 j_a := own_By.new A68 (own_nn (by omega))
      refine Go.by st68 ?_
      show Go p e below _ (T68.setTop (mkF m 21 #[.val (.int ia), .val (.int ib), .val (.int ic), .val (.int j_a), .val (.int j_b), .val (.int (2 : Int32)), .unset, .unset, .unset, .unset] [(.ref b68)]))
      refine Go.by (fun t k => XS.astore X68.here hx rfl (hb hby at_21) rfl rfl (l' := #[.val (.int ia), .val (.int ib), .val (.int ic), .val (.int j_a), .val (.int j_b), .val (.int (2 : Int32)), .val (.ref b68), .unset, .unset, .unset]) rfl k) ?_
      show Go p e below _ (T68.setTop (mkF m 23 #[.val (.int ia), .val (.int ib), .val (.int ic), .val (.int j_a), .val (.int j_b), .val (.int (2 : Int32)), .val (.ref b68), .unset, .unset, .unset] []))
      refine Go.by (fun t k => XS.iload X68.here hx rfl (hb hby at_23) rfl k) ?_
      show Go p e below _ (T68.setTop (mkF m 25 #[.val (.int ia), .val (.int ib), .val (.int ic), .val (.int j_a), .val (.int j_b), .val (.int (2 : Int32)), .val (.ref b68), .unset, .unset, .unset] [(.int j_b)]))
      have F70 : Old Z n0 h68 := (O0.ext E68)
      have F71 : Keep h0 h68 [] := ((Keep.refl h0 []).ext E68)
      obtain ⟨T72, h72, k72, X72, e72, E72, A72, Q72, st72⟩ := newPE X68 hx hZ (hw _ (List.mem_of_getElem? (i := 0) rfl)) e68 (g := (mkF m 25 #[.val (.int ia), .val (.int ib), .val (.int ic), .val (.int j_a), .val (.int j_b), .val (.int (2 : Int32)), .val (.ref b68), .unset, .unset, .unset] [(.int j_b)])) rfl (hb hby at_25) rfl (own_nn (by omega)) (cap := 511) (by have := own_nat (x := j_b) (by omega); omega) (by decide) (by decide) (by decide) (ad := "[B") (by decide)
      obtain ⟨b72, g72⟩ : ∃ z, z = h68.size := ⟨_, rfl⟩
      rw [← g72] at A72 Q72 st72
      have gl72 : h68.size ≤ b72 := Nat.le_of_eq g72.symm
      have ge72 : n0 ≤ b72 := Nat.le_trans (own_old_size F70) gl72
      have sz72 : h0.size ≤ b72 := Nat.le_trans F71.1 gl72
      have ne73 : b68 ≠ b72 := Nat.ne_of_lt (Nat.lt_of_lt_of_le Q68.lt gl72)
      have F74 : own_By Z h72 b72 j_b := own_By.new A72 (own_nn (by omega))
      refine Go.by st72 ?_
      show Go p e below _ (T72.setTop (mkF m 27 #[.val (.int ia), .val (.int ib), .val (.int ic), .val (.int j_a), .val (.int j_b), .val (.int (2 : Int32)), .val (.ref b68), .unset, .unset, .unset] [(.ref b72)]))
      refine Go.by (fun t k => XS.astore X72.here hx rfl (hb hby at_27) rfl rfl (l' := #[.val (.int ia), .val (.int ib), .val (.int ic), .val (.int j_a), .val (.int j_b), .val (.int (2 : Int32)), .val (.ref b68), .val (.ref b72), .unset, .unset]) rfl k) ?_
      show Go p e below _ (T72.setTop (mkF m 29 #[.val (.int ia), .val (.int ib), .val (.int ic), .val (.int j_a), .val (.int j_b), .val (.int (2 : Int32)), .val (.ref b68), .val (.ref b72), .unset, .unset] []))
      have F75 : Exa Z h72 b68 "[B" := (Q68.ext E72)
      have F76 : Old Z n0 h72 := (F70.ext E72)
      have F77 : Keep h0 h72 [] := (F71.ext E72)
      obtain ⟨T78, h78, X78, e78, E78, A78, D78, -, st78⟩ := newO X72 hx hZ hown (hw _ (List.mem_of_getElem? (i := 1) rfl)) (hw _ (List.mem_of_getElem? (i := 2) rfl)) (hw _ (List.mem_of_getElem? (i := 3) rfl)) e72 (g := (mkF m 29 #[.val (.int ia), .val (.int ib), .val (.int ic), .val (.int j_a), .val (.int j_b), .val (.int (2 : Int32)), .val (.ref b68), .val (.ref b72), .unset, .unset] [])) rfl (hb hby at_29) (by decide) (by decide)
      obtain ⟨b78, g78⟩ : ∃ z, z = h72.size := ⟨_, rfl⟩
      rw [← g78] at A78 D78 st78
      have gl78 : h72.size ≤ b78 := Nat.le_of_eq g78.symm
      have ge78 : n0 ≤ b78 := Nat.le_trans (own_old_size F76) gl78
      have sz78 : h0.size ≤ b78 := Nat.le_trans F77.1 gl78
      have ne79 : b68 ≠ b78 := Nat.ne_of_lt (Nat.lt_of_lt_of_le F75.lt gl78)
      have ne80 : b72 ≠ b78 := Nat.ne_of_lt (Nat.lt_of_lt_of_le Q72.lt gl78)
      have F81 : Fld Z h78 b78 "com/example/whole_commit/wholecommit/Batch" "waiting" "Ljava/util/List;" .null := D78 (Or.inr (hw _ (List.mem_of_getElem? (i := 35) rfl))) (ty := (.object "java/util/List")) (by decide)
      have F82 : Fld Z h78 b78 "com/example/whole_commit/wholecommit/Batch" "decisions" "Ljava/util/Map;" .null := D78 (Or.inr (hw _ (List.mem_of_getElem? (i := 53) rfl))) (ty := (.object "java/util/Map")) (by decide)
      have F83 : Fld Z h78 b78 "com/example/whole_commit/wholecommit/Batch" "bytes" "[B" .null := D78 (Or.inl (hw _ (List.mem_of_getElem? (i := 55) rfl))) (ty := (.array .byte)) (by decide)
      have F84 : Fld Z h78 b78 "com/example/whole_commit/wholecommit/Batch" "size" "I" (.int (0 : Int32)) := D78 (Or.inl (hw _ (List.mem_of_getElem? (i := 57) rfl))) (ty := .int) (by decide)
      refine Go.by st78 ?_
      show Go p e below _ (T78.setTop (mkF m 32 #[.val (.int ia), .val (.int ib), .val (.int ic), .val (.int j_a), .val (.int j_b), .val (.int (2 : Int32)), .val (.ref b68), .val (.ref b72), .unset, .unset] [(.ref b78)]))
      refine Go.by (fun t k => XS.dup X78.here hx rfl (hb hby at_32) rfl rfl k) ?_
      show Go p e below _ (T78.setTop (mkF m 33 #[.val (.int ia), .val (.int ib), .val (.int ic), .val (.int j_a), .val (.int j_b), .val (.int (2 : Int32)), .val (.ref b68), .val (.ref b72), .unset, .unset] [(.ref b78), (.ref b78)]))
      have F86 : Old Z n0 h78 := (F76.ext E78)
      have F87 : Exa Z h78 b68 "[B" := (F75.ext E78)
      have F88 : Exa Z h78 b72 "[B" := (Q72.ext E78)
      have F89 : Keep h0 h78 [] := (F77.ext E78)
      obtain ⟨_, _, ⟨T85, L85, k85, n85⟩, -, X85, ⟨Lc85, hQ85, l85, y85, z85⟩, st85⟩ := X78.specialBack hx (y := (⟨"com/example/whole_commit/wholecommit/Batch", "<init>", "()V"⟩ : MethodName)) rfl hown (mvT hZ (hw _ (List.mem_of_getElem? (i := 4) rfl))) (mvT hZ (hw _ (List.mem_of_getElem? (i := 5) rfl))) (mvT hZ (hw _ (List.mem_of_getElem? (i := 6) rfl))) (by decide) (backOf (W := 1) (b_init l Z a0 hw [] b78 em h78 n0 F86 P0 A78 F81 F82 F83 F84 ge78) hZ (hw _ (List.mem_of_getElem? (i := 6) rfl)) (hw _ (List.mem_of_getElem? (i := 3) rfl)) (by decide) (by decide)) (g := (mkF m 33 #[.val (.int ia), .val (.int ib), .val (.int ic), .val (.int j_a), .val (.int j_b), .val (.int (2 : Int32)), .val (.ref b68), .val (.ref b72), .unset, .unset] [(.ref b78), (.ref b78)])) rfl (by rw [hml]; rfl) (Steps.refl _) (a := b78) (argsL := []) (rest := [(.ref b78)]) (lenOf pd_0 rfl) rfl (by show 2 * 0 + _ ≤ _; exact Nat.le_of_eq rfl) (hb hby at_33) (fun _ _ => ⟨rfl, e78, (by decide : 3 + 3 ≤ _), (by decide : 1029 + 267 ≤ _)⟩)
      dsimp only [Pt.U, Pt.locs, Pt.cells, Pt.slots] at X85 l85 y85 z85 st85 hQ85
      subst l85 y85 z85
      obtain ⟨bya_85, rfl, N85q, K85, fz85_bya, F85_0, F85_1, F85_2, F85_3⟩ := hQ85
      have N85 := Fr.app N0 N85q
      have ge_bya_85 : n0 ≤ bya_85 := Nat.le_trans (own_old_size F86) fz85_bya
      have sz_bya_85 : h0.size ≤ bya_85 := Nat.le_trans F89.1 fz85_bya
      have ne90 : b68 ≠ bya_85 := Nat.ne_of_lt (Nat.lt_of_lt_of_le F87.lt fz85_bya)
      have ne91 : b72 ≠ bya_85 := Nat.ne_of_lt (Nat.lt_of_lt_of_le F88.lt fz85_bya)
      have ne92 : b78 ≠ bya_85 := Nat.ne_of_lt (Nat.lt_of_lt_of_le A78.lt fz85_bya)
      refine Go.tr st85 ?_
      show Go p e below _ (T85.setTop (mkF m 36 #[.val (.int ia), .val (.int ib), .val (.int ic), .val (.int j_a), .val (.int j_b), .val (.int (2 : Int32)), .val (.ref b68), .val (.ref b72), .unset, .unset] [(.ref b78)]))
      refine Go.by (fun t k => XS.astore X85.here hx rfl (hb hby at_36) rfl rfl (l' := #[.val (.int ia), .val (.int ib), .val (.int ic), .val (.int j_a), .val (.int j_b), .val (.int (2 : Int32)), .val (.ref b68), .val (.ref b72), .val (.ref b78), .unset]) rfl k) ?_
      show Go p e below _ (T85.setTop (mkF m 38 #[.val (.int ia), .val (.int ib), .val (.int ic), .val (.int j_a), .val (.int j_b), .val (.int (2 : Int32)), .val (.ref b68), .val (.ref b72), .val (.ref b78), .unset] []))
      refine Go.by (fun t k => XS.aload X85.here hx rfl (hb hby at_38) rfl rfl k) ?_
      show Go p e below _ (T85.setTop (mkF m 40 #[.val (.int ia), .val (.int ib), .val (.int ic), .val (.int j_a), .val (.int j_b), .val (.int (2 : Int32)), .val (.ref b68), .val (.ref b72), .val (.ref b78), .unset] [(.ref b78)]))
      have F94 : Old Z n0 T85.heap := (F86.keep K85 (allS ge78 all0))
      have F95 : Keep h0 T85.heap [] := (F89.trans K85 (allS (Or.inr sz78) all0))
      obtain ⟨cq93, kq93, q93a, q93b, q93c⟩ := isOf hZ rfl F85_0
      obtain ⟨_, _, ⟨T93, L93, k93, n93⟩, -, X93, ⟨Lc93, hQ93, l93, y93, z93⟩, st93⟩ := X85.virtualBack hx (y := (⟨"com/example/whole_commit/wholecommit/Batch", "size", "()I"⟩ : MethodName)) (z := (⟨"com/example/whole_commit/wholecommit/Batch", "size", "()I"⟩ : MethodName)) hown (mvT hZ (hw _ (List.mem_of_getElem? (i := 58) rfl))) (mvT hZ (hw _ (List.mem_of_getElem? (i := 59) rfl))) (notFace_of_selects (args := #[]) (mvT hZ (hw _ (List.mem_of_getElem? (i := 61) rfl)))) (mvT hZ (hw _ (List.mem_of_getElem? (i := 61) rfl))) (mvT hZ (hw _ (List.mem_of_getElem? (i := 60) rfl))) (by decide) (backOf (W := 0) (b_size l Z a0 hw [] b78 (8 : Int32) T85.heap n0 F94 F85_2) hZ (hw _ (List.mem_of_getElem? (i := 62) rfl)) (hw _ (List.mem_of_getElem? (i := 3) rfl)) (by decide) (by decide)) q93a q93c (g := (mkF m 40 #[.val (.int ia), .val (.int ib), .val (.int ic), .val (.int j_a), .val (.int j_b), .val (.int (2 : Int32)), .val (.ref b68), .val (.ref b72), .val (.ref b78), .unset] [(.ref b78)])) rfl (by rw [hml]; rfl) (Steps.refl _) (argsL := []) (rest := []) (lenOf pd_3 rfl) rfl (by show 2 * 0 + _ ≤ _; exact Nat.le_of_eq rfl) (hb hby at_40) (fun _ _ => ⟨rfl, rfl, (by decide : 6 + 0 ≤ _), (by decide : 1296 + 0 ≤ _)⟩)
      dsimp only [Pt.U, Pt.locs, Pt.cells, Pt.slots] at X93 l93 y93 z93 st93 hQ93
      subst l93 y93 z93
      obtain ⟨rfl, N93q, e93⟩ := hQ93
      have N93 := Fr.app N85 N93q
      refine Go.tr st93 ?_
      show Go p e below _ (T93.setTop (mkF m 43 #[.val (.int ia), .val (.int ib), .val (.int ic), .val (.int j_a), .val (.int j_b), .val (.int (2 : Int32)), .val (.ref b68), .val (.ref b72), .val (.ref b78), .unset] [(.int (own_sz (8 : Int32)))]))
      refine Go.by (fun t k => XS.ifNo X93.here hx rfl (hb hby at_43) rfl ((if0 _ _).trans (teq own_sz8).2) k) ?_
      show Go p e below _ (T93.setTop (mkF m 46 #[.val (.int ia), .val (.int ib), .val (.int ic), .val (.int j_a), .val (.int j_b), .val (.int (2 : Int32)), .val (.ref b68), .val (.ref b72), .val (.ref b78), .unset] []))
      refine Go.by (fun t k => XS.iconst X93.here hx rfl (hb hby at_46) k) ?_
      show Go p e below _ (T93.setTop (mkF m 47 #[.val (.int ia), .val (.int ib), .val (.int ic), .val (.int j_a), .val (.int j_b), .val (.int (2 : Int32)), .val (.ref b68), .val (.ref b72), .val (.ref b78), .unset] [(.int (1 : Int32))]))
      refine Go.by (fun t k => XS.goto X93.here hx rfl (pc0 := 47) (pc' := 51) rfl (hb hby at_47) (by decide) (by decide) k) ?_
      show Go p e below _ (T93.setTop (mkF m 51 #[.val (.int ia), .val (.int ib), .val (.int ic), .val (.int j_a), .val (.int j_b), .val (.int (2 : Int32)), .val (.ref b68), .val (.ref b72), .val (.ref b78), .unset] [(.int (1 : Int32))]))
      refine Go.by (fun t k => XS.istore X93.here hx rfl (hb hby at_51) rfl (l' := #[.val (.int ia), .val (.int ib), .val (.int ic), .val (.int j_a), .val (.int j_b), .val (.int (2 : Int32)), .val (.ref b68), .val (.ref b72), .val (.ref b78), .val (.int (1 : Int32))]) rfl k) ?_
      show Go p e below _ (T93.setTop (mkF m 53 #[.val (.int ia), .val (.int ib), .val (.int ic), .val (.int j_a), .val (.int j_b), .val (.int (2 : Int32)), .val (.ref b68), .val (.ref b72), .val (.ref b78), .val (.int (1 : Int32))] []))
      refine Go.by (fun t k => XS.iload X93.here hx rfl (hb hby at_53) rfl k) ?_
      show Go p e below _ (T93.setTop (mkF m 55 #[.val (.int ia), .val (.int ib), .val (.int ic), .val (.int j_a), .val (.int j_b), .val (.int (2 : Int32)), .val (.ref b68), .val (.ref b72), .val (.ref b78), .val (.int (1 : Int32))] [(.int (2 : Int32))]))
      refine Go.by (fun t k => XS.iconst X93.here hx rfl (hb hby at_55) k) ?_
      show Go p e below _ (T93.setTop (mkF m 56 #[.val (.int ia), .val (.int ib), .val (.int ic), .val (.int j_a), .val (.int j_b), .val (.int (2 : Int32)), .val (.ref b68), .val (.ref b72), .val (.ref b78), .val (.int (1 : Int32))] [(.int (1 : Int32)), (.int (2 : Int32))]))
      refine Go.by (fun t k => XS.icmpNo X93.here hx rfl (hb hby at_56) rfl (flt (by decide : ¬ ((2 : Int32) < (1 : Int32)))).1 k) ?_
      show Go p e below _ (T93.setTop (mkF m 59 #[.val (.int ia), .val (.int ib), .val (.int ic), .val (.int j_a), .val (.int j_b), .val (.int (2 : Int32)), .val (.ref b68), .val (.ref b72), .val (.ref b78), .val (.int (1 : Int32))] []))
      refine Go.by (fun t k => XS.aload X93.here hx rfl (hb hby at_59) rfl rfl k) ?_
      show Go p e below _ (T93.setTop (mkF m 61 #[.val (.int ia), .val (.int ib), .val (.int ic), .val (.int j_a), .val (.int j_b), .val (.int (2 : Int32)), .val (.ref b68), .val (.ref b72), .val (.ref b78), .val (.int (1 : Int32))] [(.ref b78)]))
      refine Go.by (fun t k => XS.aload X93.here hx rfl (hb hby at_61) rfl rfl k) ?_
      show Go p e below _ (T93.setTop (mkF m 63 #[.val (.int ia), .val (.int ib), .val (.int ic), .val (.int j_a), .val (.int j_b), .val (.int (2 : Int32)), .val (.ref b68), .val (.ref b72), .val (.ref b78), .val (.int (1 : Int32))] [(.ref b68), (.ref b78)]))
      have F97 : own_By Z T85.heap b68 j_a := (((F69.ext E72).ext E78).keep K85 (ninS ne79 nin0))
      have F98 : Exa Z T85.heap b68 "[B" := (F87.keep K85)
      have F99 : Exa Z T85.heap b72 "[B" := (F88.keep K85)
      obtain ⟨cq96, kq96, q96a, q96b, q96c⟩ := isOf hZ e93 F85_0
      obtain ⟨_, _, ⟨T96, L96, k96, n96⟩, -, X96, ⟨Lc96, hQ96, l96, y96, z96⟩, st96⟩ := X93.virtualBack hx (y := (⟨"com/example/whole_commit/wholecommit/Batch", "add", "([B)V"⟩ : MethodName)) (z := (⟨"com/example/whole_commit/wholecommit/Batch", "add", "([B)V"⟩ : MethodName)) hown (mvT hZ (hw _ (List.mem_of_getElem? (i := 63) rfl))) (mvT hZ (hw _ (List.mem_of_getElem? (i := 64) rfl))) (notFace_of_selects (args := #[]) (mvT hZ (hw _ (List.mem_of_getElem? (i := 66) rfl)))) (mvT hZ (hw _ (List.mem_of_getElem? (i := 66) rfl))) (mvT hZ (hw _ (List.mem_of_getElem? (i := 65) rfl))) (by decide) (backOf (W := 0) (b_add l Z a0 hw [] b78 b68 (8 : Int32) bya_85 (256 : Int32) j_a T85.heap n0 F94 F85_0 F85_2 F85_1 F85_3 F97 ge78 ge_bya_85 ne90 ne79 (Ne.symm ne92) (by have e8 : (8 : Int32).toInt = 8 := rfl; have e256 : (256 : Int32).toInt = 256 := rfl; have ea := own_add (x := (8 : Int32)) (y := j_a) (by omega) (by omega); have eb := own_add (x := (8 : Int32) + j_a) (y := j_b) (by omega) (by omega); omega : 0 ≤ (8 : Int32).toInt ∧ (8 : Int32).toInt ≤ 1030) (by have e8 : (8 : Int32).toInt = 8 := rfl; have e256 : (256 : Int32).toInt = 256 := rfl; have ea := own_add (x := (8 : Int32)) (y := j_a) (by omega) (by omega); have eb := own_add (x := (8 : Int32) + j_a) (y := j_b) (by omega) (by omega); omega : (8 : Int32).toInt ≤ (256 : Int32).toInt ∧ (256 : Int32).toInt ≤ 1038) (by have e8 : (8 : Int32).toInt = 8 := rfl; have e256 : (256 : Int32).toInt = 256 := rfl; have ea := own_add (x := (8 : Int32)) (y := j_a) (by omega) (by omega); have eb := own_add (x := (8 : Int32) + j_a) (y := j_b) (by omega) (by omega); omega : 0 ≤ j_a.toInt ∧ j_a.toInt ≤ 511)) hZ (hw _ (List.mem_of_getElem? (i := 67) rfl)) (hw _ (List.mem_of_getElem? (i := 3) rfl)) (by decide) (by decide)) q96a q96c (g := (mkF m 63 #[.val (.int ia), .val (.int ib), .val (.int ic), .val (.int j_a), .val (.int j_b), .val (.int (2 : Int32)), .val (.ref b68), .val (.ref b72), .val (.ref b78), .val (.int (1 : Int32))] [(.ref b68), (.ref b78)])) rfl (by rw [hml]; rfl) (Steps.refl _) (argsL := [(.ref b68)]) (rest := []) (lenOf pd_4 rfl) rfl (by show 2 * 0 + _ ≤ _; exact Nat.le_of_eq rfl) (hb hby at_63) (fun _ _ => ⟨rfl, e93, (by decide : 6 + 1 ≤ _), (by decide : 1296 + 2076 ≤ _)⟩)
      dsimp only [Pt.U, Pt.locs, Pt.cells, Pt.slots] at X96 l96 y96 z96 st96 hQ96
      subst l96 y96 z96
      obtain ⟨by2_96, zb2_96, rfl, N96q, K96, my96_by2, F96_0, F96_1, F96_2, F96_3, F96_4, bnd_96, nby_96⟩ := hQ96
      have N96 := Fr.app N93 N96q
      have ge_by2_96 : n0 ≤ by2_96 := my96_by2.elim (fun q => by rw [q]; exact ge_bya_85) (fun q => Nat.le_trans (own_old_size F94) q)
      have sz_by2_96 : h0.size ≤ by2_96 := my96_by2.elim (fun q => by rw [q]; exact sz_bya_85) (fun q => Nat.le_trans F95.1 q)
      have ne100 : b68 ≠ by2_96 := my96_by2.elim (fun q => by rw [q]; exact ne90) (fun q => Nat.ne_of_lt (Nat.lt_of_lt_of_le F98.lt q))
      have ne101 : b72 ≠ by2_96 := my96_by2.elim (fun q => by rw [q]; exact ne91) (fun q => Nat.ne_of_lt (Nat.lt_of_lt_of_le F99.lt q))
      have ne102 : b78 ≠ by2_96 := my96_by2.elim (fun q => by rw [q]; exact ne92) (fun q => Nat.ne_of_lt (Nat.lt_of_lt_of_le F85_0.lt q))
      refine Go.tr st96 ?_
      show Go p e below _ (T96.setTop (mkF m 66 #[.val (.int ia), .val (.int ib), .val (.int ic), .val (.int j_a), .val (.int j_b), .val (.int (2 : Int32)), .val (.ref b68), .val (.ref b72), .val (.ref b78), .val (.int (1 : Int32))] []))
      refine Go.by (fun t k => XS.iload X96.here hx rfl (hb hby at_66) rfl k) ?_
      show Go p e below _ (T96.setTop (mkF m 68 #[.val (.int ia), .val (.int ib), .val (.int ic), .val (.int j_a), .val (.int j_b), .val (.int (2 : Int32)), .val (.ref b68), .val (.ref b72), .val (.ref b78), .val (.int (1 : Int32))] [(.int (1 : Int32))]))
      refine Go.by (fun t k => XS.ifNo X96.here hx rfl (hb hby at_68) rfl ((if0 _ _).trans (feq (by decide : ¬ ((1 : Int32) = (0 : Int32)))).1) k) ?_
      show Go p e below _ (T96.setTop (mkF m 71 #[.val (.int ia), .val (.int ib), .val (.int ic), .val (.int j_a), .val (.int j_b), .val (.int (2 : Int32)), .val (.ref b68), .val (.ref b72), .val (.ref b78), .val (.int (1 : Int32))] []))
      refine Go.by (fun t k => XS.aload X96.here hx rfl (hb hby at_71) rfl rfl k) ?_
      show Go p e below _ (T96.setTop (mkF m 73 #[.val (.int ia), .val (.int ib), .val (.int ic), .val (.int j_a), .val (.int j_b), .val (.int (2 : Int32)), .val (.ref b68), .val (.ref b72), .val (.ref b78), .val (.int (1 : Int32))] [(.ref b78)]))
      have F104 : Old Z n0 T96.heap := (F94.keep K96 (allS ge78 (allS ge_bya_85 all0)))
      have F105 : Keep h0 T96.heap [] := (F95.trans K96 (allS (Or.inr sz78) (allS (Or.inr sz_bya_85) all0)))
      obtain ⟨cq103, kq103, q103a, q103b, q103c⟩ := isOf hZ rfl F96_0
      obtain ⟨_, _, ⟨T103, L103, k103, n103⟩, -, X103, ⟨Lc103, hQ103, l103, y103, z103⟩, st103⟩ := X96.virtualBack hx (y := (⟨"com/example/whole_commit/wholecommit/Batch", "size", "()I"⟩ : MethodName)) (z := (⟨"com/example/whole_commit/wholecommit/Batch", "size", "()I"⟩ : MethodName)) hown (mvT hZ (hw _ (List.mem_of_getElem? (i := 58) rfl))) (mvT hZ (hw _ (List.mem_of_getElem? (i := 59) rfl))) (notFace_of_selects (args := #[]) (mvT hZ (hw _ (List.mem_of_getElem? (i := 61) rfl)))) (mvT hZ (hw _ (List.mem_of_getElem? (i := 61) rfl))) (mvT hZ (hw _ (List.mem_of_getElem? (i := 60) rfl))) (by decide) (backOf (W := 0) (b_size l Z a0 hw [] b78 ((8 : Int32) + j_a) T96.heap n0 F104 F96_1) hZ (hw _ (List.mem_of_getElem? (i := 62) rfl)) (hw _ (List.mem_of_getElem? (i := 3) rfl)) (by decide) (by decide)) q103a q103c (g := (mkF m 73 #[.val (.int ia), .val (.int ib), .val (.int ic), .val (.int j_a), .val (.int j_b), .val (.int (2 : Int32)), .val (.ref b68), .val (.ref b72), .val (.ref b78), .val (.int (1 : Int32))] [(.ref b78)])) rfl (by rw [hml]; rfl) (Steps.refl _) (argsL := []) (rest := []) (lenOf pd_3 rfl) rfl (by show 2 * 0 + _ ≤ _; exact Nat.le_of_eq rfl) (hb hby at_73) (fun _ _ => ⟨rfl, rfl, (by decide : 7 + 0 ≤ _), (by decide : 3372 + 0 ≤ _)⟩)
      dsimp only [Pt.U, Pt.locs, Pt.cells, Pt.slots] at X103 l103 y103 z103 st103 hQ103
      subst l103 y103 z103
      obtain ⟨rfl, N103q, e103⟩ := hQ103
      have N103 := Fr.app N96 N103q
      refine Go.tr st103 ?_
      show Go p e below _ (T103.setTop (mkF m 76 #[.val (.int ia), .val (.int ib), .val (.int ic), .val (.int j_a), .val (.int j_b), .val (.int (2 : Int32)), .val (.ref b68), .val (.ref b72), .val (.ref b78), .val (.int (1 : Int32))] [(.int (own_sz ((8 : Int32) + j_a)))]))
      refine Go.by (fun t k => XS.iloadN X103.here hx rfl (hb hby at_76) rfl k) ?_
      show Go p e below _ (T103.setTop (mkF m 77 #[.val (.int ia), .val (.int ib), .val (.int ic), .val (.int j_a), .val (.int j_b), .val (.int (2 : Int32)), .val (.ref b68), .val (.ref b72), .val (.ref b78), .val (.int (1 : Int32))] [(.int j_a), (.int (own_sz ((8 : Int32) + j_a)))]))
      obtain ⟨_, _, ⟨T106, L106, k106, n106⟩, -, X106, ⟨Lc106, hQ106, l106, y106, z106⟩, st106⟩ := Jvm.LawKit.callS X103 hx (y := (⟨"com/example/whole_commit/wholecommit/BatchSizePinLaw", "expect", "(I)I"⟩ : MethodName)) hown (mvT hZ (hw _ (List.mem_of_getElem? (i := 72) rfl))) (mvT hZ (hw _ (List.mem_of_getElem? (i := 73) rfl))) (mvT hZ (hw _ (List.mem_of_getElem? (i := 74) rfl))) (mvT hZ (hw _ (List.mem_of_getElem? (i := 75) rfl))) (by decide) (backOf (W := 1) (expect l Z a0 hw [] j_a T96.heap n0 F104) hZ (hw _ (List.mem_of_getElem? (i := 75) rfl)) (hw _ (List.mem_of_getElem? (i := 74) rfl)) (by decide) (by decide)) (g := (mkF m 77 #[.val (.int ia), .val (.int ib), .val (.int ic), .val (.int j_a), .val (.int j_b), .val (.int (2 : Int32)), .val (.ref b68), .val (.ref b72), .val (.ref b78), .val (.int (1 : Int32))] [(.int j_a), (.int (own_sz ((8 : Int32) + j_a)))])) rfl (by rw [hml]; rfl) (argsL := [(.int j_a)]) (rest := [(.int (own_sz ((8 : Int32) + j_a)))]) (lenOf pd_5 rfl) rfl (by show 2 * 0 + _ ≤ _; exact Nat.le_of_eq rfl) (hb hby at_77) (fun _ _ => ⟨rfl, e103, (by decide : 7 + 0 ≤ _), (by decide : 3372 + 0 ≤ _)⟩)
      dsimp only [Pt.U, Pt.locs, Pt.cells, Pt.slots] at X106 l106 y106 z106 st106 hQ106
      subst l106 y106 z106
      obtain ⟨rfl, N106q, e106⟩ := hQ106
      have N106 := Fr.app N103 N106q
      refine Go.by st106 ?_
      show Go p e below _ (T106.setTop (mkF m 80 #[.val (.int ia), .val (.int ib), .val (.int ic), .val (.int j_a), .val (.int j_b), .val (.int (2 : Int32)), .val (.ref b68), .val (.ref b72), .val (.ref b78), .val (.int (1 : Int32))] [(.int (own_ex j_a)), (.int (own_sz ((8 : Int32) + j_a)))]))
      refine Go.by (fun t k => XS.icmpNo X106.here hx rfl (hb hby at_80) rfl (teq (own_cmp _)).2 k) ?_
      show Go p e below _ (T106.setTop (mkF m 83 #[.val (.int ia), .val (.int ib), .val (.int ic), .val (.int j_a), .val (.int j_b), .val (.int (2 : Int32)), .val (.ref b68), .val (.ref b72), .val (.ref b78), .val (.int (1 : Int32))] []))
      refine Go.by (fun t k => XS.iconst X106.here hx rfl (hb hby at_83) k) ?_
      show Go p e below _ (T106.setTop (mkF m 84 #[.val (.int ia), .val (.int ib), .val (.int ic), .val (.int j_a), .val (.int j_b), .val (.int (2 : Int32)), .val (.ref b68), .val (.ref b72), .val (.ref b78), .val (.int (1 : Int32))] [(.int (1 : Int32))]))
      refine Go.by (fun t k => XS.goto X106.here hx rfl (pc0 := 84) (pc' := 88) rfl (hb hby at_84) (by decide) (by decide) k) ?_
      show Go p e below _ (T106.setTop (mkF m 88 #[.val (.int ia), .val (.int ib), .val (.int ic), .val (.int j_a), .val (.int j_b), .val (.int (2 : Int32)), .val (.ref b68), .val (.ref b72), .val (.ref b78), .val (.int (1 : Int32))] [(.int (1 : Int32))]))
      refine Go.by (fun t k => XS.istore X106.here hx rfl (hb hby at_88) rfl (l' := #[.val (.int ia), .val (.int ib), .val (.int ic), .val (.int j_a), .val (.int j_b), .val (.int (2 : Int32)), .val (.ref b68), .val (.ref b72), .val (.ref b78), .val (.int (1 : Int32))]) rfl k) ?_
      show Go p e below _ (T106.setTop (mkF m 90 #[.val (.int ia), .val (.int ib), .val (.int ic), .val (.int j_a), .val (.int j_b), .val (.int (2 : Int32)), .val (.ref b68), .val (.ref b72), .val (.ref b78), .val (.int (1 : Int32))] []))
      refine Go.by (fun t k => XS.iload X106.here hx rfl (hb hby at_90) rfl k) ?_
      show Go p e below _ (T106.setTop (mkF m 92 #[.val (.int ia), .val (.int ib), .val (.int ic), .val (.int j_a), .val (.int j_b), .val (.int (2 : Int32)), .val (.ref b68), .val (.ref b72), .val (.ref b78), .val (.int (1 : Int32))] [(.int (2 : Int32))]))
      refine Go.by (fun t k => XS.iconst X106.here hx rfl (hb hby at_92) k) ?_
      show Go p e below _ (T106.setTop (mkF m 93 #[.val (.int ia), .val (.int ib), .val (.int ic), .val (.int j_a), .val (.int j_b), .val (.int (2 : Int32)), .val (.ref b68), .val (.ref b72), .val (.ref b78), .val (.int (1 : Int32))] [(.int (2 : Int32)), (.int (2 : Int32))]))
      refine Go.by (fun t k => XS.icmpNo X106.here hx rfl (hb hby at_93) rfl (flt Int32.lt_irrefl).1 k) ?_
      show Go p e below _ (T106.setTop (mkF m 96 #[.val (.int ia), .val (.int ib), .val (.int ic), .val (.int j_a), .val (.int j_b), .val (.int (2 : Int32)), .val (.ref b68), .val (.ref b72), .val (.ref b78), .val (.int (1 : Int32))] []))
      refine Go.by (fun t k => XS.aload X106.here hx rfl (hb hby at_96) rfl rfl k) ?_
      show Go p e below _ (T106.setTop (mkF m 98 #[.val (.int ia), .val (.int ib), .val (.int ic), .val (.int j_a), .val (.int j_b), .val (.int (2 : Int32)), .val (.ref b68), .val (.ref b72), .val (.ref b78), .val (.int (1 : Int32))] [(.ref b78)]))
      refine Go.by (fun t k => XS.aload X106.here hx rfl (hb hby at_98) rfl rfl k) ?_
      show Go p e below _ (T106.setTop (mkF m 100 #[.val (.int ia), .val (.int ib), .val (.int ic), .val (.int j_a), .val (.int j_b), .val (.int (2 : Int32)), .val (.ref b68), .val (.ref b72), .val (.ref b78), .val (.int (1 : Int32))] [(.ref b72), (.ref b78)]))
      have F108 : own_By Z T96.heap b72 j_b := (((F74.ext E78).keep K85 (ninS ne80 nin0)).keep K96 (ninS ne80 (ninS ne91 nin0)))
      have F109 : Exa Z T96.heap b68 "[B" := (F98.keep K96)
      have F110 : Exa Z T96.heap b72 "[B" := (F99.keep K96)
      obtain ⟨cq107, kq107, q107a, q107b, q107c⟩ := isOf hZ e106 F96_0
      obtain ⟨_, _, ⟨T107, L107, k107, n107⟩, -, X107, ⟨Lc107, hQ107, l107, y107, z107⟩, st107⟩ := X106.virtualBack hx (y := (⟨"com/example/whole_commit/wholecommit/Batch", "add", "([B)V"⟩ : MethodName)) (z := (⟨"com/example/whole_commit/wholecommit/Batch", "add", "([B)V"⟩ : MethodName)) hown (mvT hZ (hw _ (List.mem_of_getElem? (i := 63) rfl))) (mvT hZ (hw _ (List.mem_of_getElem? (i := 64) rfl))) (notFace_of_selects (args := #[]) (mvT hZ (hw _ (List.mem_of_getElem? (i := 66) rfl)))) (mvT hZ (hw _ (List.mem_of_getElem? (i := 66) rfl))) (mvT hZ (hw _ (List.mem_of_getElem? (i := 65) rfl))) (by decide) (backOf (W := 0) (b_add l Z a0 hw [] b78 b72 ((8 : Int32) + j_a) by2_96 zb2_96 j_b T96.heap n0 F104 F96_0 F96_1 F96_2 F96_3 F108 ge78 ge_by2_96 ne101 ne80 nby_96 (by have e8 : (8 : Int32).toInt = 8 := rfl; have e256 : (256 : Int32).toInt = 256 := rfl; have ea := own_add (x := (8 : Int32)) (y := j_a) (by omega) (by omega); have eb := own_add (x := (8 : Int32) + j_a) (y := j_b) (by omega) (by omega); omega : 0 ≤ ((8 : Int32) + j_a).toInt ∧ ((8 : Int32) + j_a).toInt ≤ 1030) (by have e8 : (8 : Int32).toInt = 8 := rfl; have e256 : (256 : Int32).toInt = 256 := rfl; have ea := own_add (x := (8 : Int32)) (y := j_a) (by omega) (by omega); have eb := own_add (x := (8 : Int32) + j_a) (y := j_b) (by omega) (by omega); omega : ((8 : Int32) + j_a).toInt ≤ zb2_96.toInt ∧ zb2_96.toInt ≤ 1038) (by have e8 : (8 : Int32).toInt = 8 := rfl; have e256 : (256 : Int32).toInt = 256 := rfl; have ea := own_add (x := (8 : Int32)) (y := j_a) (by omega) (by omega); have eb := own_add (x := (8 : Int32) + j_a) (y := j_b) (by omega) (by omega); omega : 0 ≤ j_b.toInt ∧ j_b.toInt ≤ 511)) hZ (hw _ (List.mem_of_getElem? (i := 67) rfl)) (hw _ (List.mem_of_getElem? (i := 3) rfl)) (by decide) (by decide)) q107a q107c (g := (mkF m 100 #[.val (.int ia), .val (.int ib), .val (.int ic), .val (.int j_a), .val (.int j_b), .val (.int (2 : Int32)), .val (.ref b68), .val (.ref b72), .val (.ref b78), .val (.int (1 : Int32))] [(.ref b72), (.ref b78)])) rfl (by rw [hml]; rfl) (Steps.refl _) (argsL := [(.ref b72)]) (rest := []) (lenOf pd_4 rfl) rfl (by show 2 * 0 + _ ≤ _; exact Nat.le_of_eq rfl) (hb hby at_100) (fun _ _ => ⟨rfl, e106, (by decide : 7 + 1 ≤ _), (by decide : 3372 + 2076 ≤ _)⟩)
      dsimp only [Pt.U, Pt.locs, Pt.cells, Pt.slots] at X107 l107 y107 z107 st107 hQ107
      subst l107 y107 z107
      obtain ⟨by2_107, zb2_107, rfl, N107q, K107, my107_by2, F107_0, F107_1, F107_2, F107_3, F107_4, bnd_107, nby_107⟩ := hQ107
      have N107 := Fr.app N106 N107q
      have ge_by2_107 : n0 ≤ by2_107 := my107_by2.elim (fun q => by rw [q]; exact ge_by2_96) (fun q => Nat.le_trans (own_old_size F104) q)
      have sz_by2_107 : h0.size ≤ by2_107 := my107_by2.elim (fun q => by rw [q]; exact sz_by2_96) (fun q => Nat.le_trans F105.1 q)
      have ne111 : b68 ≠ by2_107 := my107_by2.elim (fun q => by rw [q]; exact ne100) (fun q => Nat.ne_of_lt (Nat.lt_of_lt_of_le F109.lt q))
      have ne112 : b72 ≠ by2_107 := my107_by2.elim (fun q => by rw [q]; exact ne101) (fun q => Nat.ne_of_lt (Nat.lt_of_lt_of_le F110.lt q))
      have ne113 : b78 ≠ by2_107 := my107_by2.elim (fun q => by rw [q]; exact ne102) (fun q => Nat.ne_of_lt (Nat.lt_of_lt_of_le F96_0.lt q))
      refine Go.tr st107 ?_
      show Go p e below _ (T107.setTop (mkF m 103 #[.val (.int ia), .val (.int ib), .val (.int ic), .val (.int j_a), .val (.int j_b), .val (.int (2 : Int32)), .val (.ref b68), .val (.ref b72), .val (.ref b78), .val (.int (1 : Int32))] []))
      refine Go.by (fun t k => XS.iload X107.here hx rfl (hb hby at_103) rfl k) ?_
      show Go p e below _ (T107.setTop (mkF m 105 #[.val (.int ia), .val (.int ib), .val (.int ic), .val (.int j_a), .val (.int j_b), .val (.int (2 : Int32)), .val (.ref b68), .val (.ref b72), .val (.ref b78), .val (.int (1 : Int32))] [(.int (1 : Int32))]))
      refine Go.by (fun t k => XS.ifNo X107.here hx rfl (hb hby at_105) rfl ((if0 _ _).trans (feq (by decide : ¬ ((1 : Int32) = (0 : Int32)))).1) k) ?_
      show Go p e below _ (T107.setTop (mkF m 108 #[.val (.int ia), .val (.int ib), .val (.int ic), .val (.int j_a), .val (.int j_b), .val (.int (2 : Int32)), .val (.ref b68), .val (.ref b72), .val (.ref b78), .val (.int (1 : Int32))] []))
      refine Go.by (fun t k => XS.aload X107.here hx rfl (hb hby at_108) rfl rfl k) ?_
      show Go p e below _ (T107.setTop (mkF m 110 #[.val (.int ia), .val (.int ib), .val (.int ic), .val (.int j_a), .val (.int j_b), .val (.int (2 : Int32)), .val (.ref b68), .val (.ref b72), .val (.ref b78), .val (.int (1 : Int32))] [(.ref b78)]))
      have F115 : Old Z n0 T107.heap := (F104.keep K107 (allS ge78 (allS ge_by2_96 all0)))
      have F116 : Keep h0 T107.heap [] := (F105.trans K107 (allS (Or.inr sz78) (allS (Or.inr sz_by2_96) all0)))
      obtain ⟨cq114, kq114, q114a, q114b, q114c⟩ := isOf hZ rfl F107_0
      obtain ⟨_, _, ⟨T114, L114, k114, n114⟩, -, X114, ⟨Lc114, hQ114, l114, y114, z114⟩, st114⟩ := X107.virtualBack hx (y := (⟨"com/example/whole_commit/wholecommit/Batch", "size", "()I"⟩ : MethodName)) (z := (⟨"com/example/whole_commit/wholecommit/Batch", "size", "()I"⟩ : MethodName)) hown (mvT hZ (hw _ (List.mem_of_getElem? (i := 58) rfl))) (mvT hZ (hw _ (List.mem_of_getElem? (i := 59) rfl))) (notFace_of_selects (args := #[]) (mvT hZ (hw _ (List.mem_of_getElem? (i := 61) rfl)))) (mvT hZ (hw _ (List.mem_of_getElem? (i := 61) rfl))) (mvT hZ (hw _ (List.mem_of_getElem? (i := 60) rfl))) (by decide) (backOf (W := 0) (b_size l Z a0 hw [] b78 (((8 : Int32) + j_a) + j_b) T107.heap n0 F115 F107_1) hZ (hw _ (List.mem_of_getElem? (i := 62) rfl)) (hw _ (List.mem_of_getElem? (i := 3) rfl)) (by decide) (by decide)) q114a q114c (g := (mkF m 110 #[.val (.int ia), .val (.int ib), .val (.int ic), .val (.int j_a), .val (.int j_b), .val (.int (2 : Int32)), .val (.ref b68), .val (.ref b72), .val (.ref b78), .val (.int (1 : Int32))] [(.ref b78)])) rfl (by rw [hml]; rfl) (Steps.refl _) (argsL := []) (rest := []) (lenOf pd_3 rfl) rfl (by show 2 * 0 + _ ≤ _; exact Nat.le_of_eq rfl) (hb hby at_110) (fun _ _ => ⟨rfl, rfl, (by decide : 8 + 0 ≤ _), (by decide : 5448 + 0 ≤ _)⟩)
      dsimp only [Pt.U, Pt.locs, Pt.cells, Pt.slots] at X114 l114 y114 z114 st114 hQ114
      subst l114 y114 z114
      obtain ⟨rfl, N114q, e114⟩ := hQ114
      have N114 := Fr.app N107 N114q
      refine Go.tr st114 ?_
      show Go p e below _ (T114.setTop (mkF m 113 #[.val (.int ia), .val (.int ib), .val (.int ic), .val (.int j_a), .val (.int j_b), .val (.int (2 : Int32)), .val (.ref b68), .val (.ref b72), .val (.ref b78), .val (.int (1 : Int32))] [(.int (own_sz (((8 : Int32) + j_a) + j_b)))]))
      refine Go.by (fun t k => XS.iloadN X114.here hx rfl (hb hby at_113) rfl k) ?_
      show Go p e below _ (T114.setTop (mkF m 114 #[.val (.int ia), .val (.int ib), .val (.int ic), .val (.int j_a), .val (.int j_b), .val (.int (2 : Int32)), .val (.ref b68), .val (.ref b72), .val (.ref b78), .val (.int (1 : Int32))] [(.int j_a), (.int (own_sz (((8 : Int32) + j_a) + j_b)))]))
      refine Go.by (fun t k => XS.iload X114.here hx rfl (hb hby at_114) rfl k) ?_
      show Go p e below _ (T114.setTop (mkF m 116 #[.val (.int ia), .val (.int ib), .val (.int ic), .val (.int j_a), .val (.int j_b), .val (.int (2 : Int32)), .val (.ref b68), .val (.ref b72), .val (.ref b78), .val (.int (1 : Int32))] [(.int j_b), (.int j_a), (.int (own_sz (((8 : Int32) + j_a) + j_b)))]))
      refine Go.by (fun t k => XS.iadd X114.here hx rfl (hb hby at_116) rfl k) ?_
      show Go p e below _ (T114.setTop (mkF m 117 #[.val (.int ia), .val (.int ib), .val (.int ic), .val (.int j_a), .val (.int j_b), .val (.int (2 : Int32)), .val (.ref b68), .val (.ref b72), .val (.ref b78), .val (.int (1 : Int32))] [(.int (j_a + j_b)), (.int (own_sz (((8 : Int32) + j_a) + j_b)))]))
      obtain ⟨_, _, ⟨T117, L117, k117, n117⟩, -, X117, ⟨Lc117, hQ117, l117, y117, z117⟩, st117⟩ := Jvm.LawKit.callS X114 hx (y := (⟨"com/example/whole_commit/wholecommit/BatchSizePinLaw", "expect", "(I)I"⟩ : MethodName)) hown (mvT hZ (hw _ (List.mem_of_getElem? (i := 72) rfl))) (mvT hZ (hw _ (List.mem_of_getElem? (i := 73) rfl))) (mvT hZ (hw _ (List.mem_of_getElem? (i := 74) rfl))) (mvT hZ (hw _ (List.mem_of_getElem? (i := 75) rfl))) (by decide) (backOf (W := 1) (expect l Z a0 hw [] (j_a + j_b) T107.heap n0 F115) hZ (hw _ (List.mem_of_getElem? (i := 75) rfl)) (hw _ (List.mem_of_getElem? (i := 74) rfl)) (by decide) (by decide)) (g := (mkF m 117 #[.val (.int ia), .val (.int ib), .val (.int ic), .val (.int j_a), .val (.int j_b), .val (.int (2 : Int32)), .val (.ref b68), .val (.ref b72), .val (.ref b78), .val (.int (1 : Int32))] [(.int (j_a + j_b)), (.int (own_sz (((8 : Int32) + j_a) + j_b)))])) rfl (by rw [hml]; rfl) (argsL := [(.int (j_a + j_b))]) (rest := [(.int (own_sz (((8 : Int32) + j_a) + j_b)))]) (lenOf pd_5 rfl) rfl (by show 2 * 0 + _ ≤ _; exact Nat.le_of_eq rfl) (hb hby at_117) (fun _ _ => ⟨rfl, e114, (by decide : 8 + 0 ≤ _), (by decide : 5448 + 0 ≤ _)⟩)
      dsimp only [Pt.U, Pt.locs, Pt.cells, Pt.slots] at X117 l117 y117 z117 st117 hQ117
      subst l117 y117 z117
      obtain ⟨rfl, N117q, e117⟩ := hQ117
      have N117 := Fr.app N114 N117q
      refine Go.by st117 ?_
      show Go p e below _ (T117.setTop (mkF m 120 #[.val (.int ia), .val (.int ib), .val (.int ic), .val (.int j_a), .val (.int j_b), .val (.int (2 : Int32)), .val (.ref b68), .val (.ref b72), .val (.ref b78), .val (.int (1 : Int32))] [(.int (own_ex (j_a + j_b))), (.int (own_sz (((8 : Int32) + j_a) + j_b)))]))
      refine Go.by (fun t k => XS.icmpNo X117.here hx rfl (hb hby at_120) rfl (teq (by rw [Int32.add_assoc]; exact own_cmp _)).2 k) ?_
      show Go p e below _ (T117.setTop (mkF m 123 #[.val (.int ia), .val (.int ib), .val (.int ic), .val (.int j_a), .val (.int j_b), .val (.int (2 : Int32)), .val (.ref b68), .val (.ref b72), .val (.ref b78), .val (.int (1 : Int32))] []))
      refine Go.by (fun t k => XS.iconst X117.here hx rfl (hb hby at_123) k) ?_
      show Go p e below _ (T117.setTop (mkF m 124 #[.val (.int ia), .val (.int ib), .val (.int ic), .val (.int j_a), .val (.int j_b), .val (.int (2 : Int32)), .val (.ref b68), .val (.ref b72), .val (.ref b78), .val (.int (1 : Int32))] [(.int (1 : Int32))]))
      refine Go.by (fun t k => XS.goto X117.here hx rfl (pc0 := 124) (pc' := 128) rfl (hb hby at_124) (by decide) (by decide) k) ?_
      show Go p e below _ (T117.setTop (mkF m 128 #[.val (.int ia), .val (.int ib), .val (.int ic), .val (.int j_a), .val (.int j_b), .val (.int (2 : Int32)), .val (.ref b68), .val (.ref b72), .val (.ref b78), .val (.int (1 : Int32))] [(.int (1 : Int32))]))
      refine Go.by (fun t k => XS.istore X117.here hx rfl (hb hby at_128) rfl (l' := #[.val (.int ia), .val (.int ib), .val (.int ic), .val (.int j_a), .val (.int j_b), .val (.int (2 : Int32)), .val (.ref b68), .val (.ref b72), .val (.ref b78), .val (.int (1 : Int32))]) rfl k) ?_
      show Go p e below _ (T117.setTop (mkF m 130 #[.val (.int ia), .val (.int ib), .val (.int ic), .val (.int j_a), .val (.int j_b), .val (.int (2 : Int32)), .val (.ref b68), .val (.ref b72), .val (.ref b78), .val (.int (1 : Int32))] []))
      refine Go.by (fun t k => XS.iload X117.here hx rfl (hb hby at_130) rfl k) ?_
      show Go p e below _ (T117.setTop (mkF m 132 #[.val (.int ia), .val (.int ib), .val (.int ic), .val (.int j_a), .val (.int j_b), .val (.int (2 : Int32)), .val (.ref b68), .val (.ref b72), .val (.ref b78), .val (.int (1 : Int32))] [(.int (2 : Int32))]))
      refine Go.by (fun t k => XS.iconst X117.here hx rfl (hb hby at_132) k) ?_
      show Go p e below _ (T117.setTop (mkF m 133 #[.val (.int ia), .val (.int ib), .val (.int ic), .val (.int j_a), .val (.int j_b), .val (.int (2 : Int32)), .val (.ref b68), .val (.ref b72), .val (.ref b78), .val (.int (1 : Int32))] [(.int (3 : Int32)), (.int (2 : Int32))]))
      refine Go.by (fun t k => XS.icmpYes X117.here hx rfl (pc0 := 133) (pc' := 172) rfl (hb hby at_133) rfl (tlt (by decide : (2 : Int32) < (3 : Int32))).1 (by decide) (by decide) k) ?_
      show Go p e below _ (T117.setTop (mkF m 172 #[.val (.int ia), .val (.int ib), .val (.int ic), .val (.int j_a), .val (.int j_b), .val (.int (2 : Int32)), .val (.ref b68), .val (.ref b72), .val (.ref b78), .val (.int (1 : Int32))] []))
      refine Go.by (fun t k => XS.iload X117.here hx rfl (hb hby at_172) rfl k) ?_
      show Go p e below _ (T117.setTop (mkF m 174 #[.val (.int ia), .val (.int ib), .val (.int ic), .val (.int j_a), .val (.int j_b), .val (.int (2 : Int32)), .val (.ref b68), .val (.ref b72), .val (.ref b78), .val (.int (1 : Int32))] [(.int (1 : Int32))]))
      have hq : Q_law Z ia ib ic em h0 n0 (some (.int (nar .boolean (1 : Int32)))) T107.heap _ := ⟨rfl, N117, F116⟩
      exact Go.retN X117 hx (t := .boolean) Bd.returns (by simp) hlk (hb hby at_174) (by decide) (by decide) (by rw [e117]; exact hq)
    · skip
      show Go p e below _ (s₁.setTop (mkF m 18 #[.val (.int ia), .val (.int ib), .val (.int ic), .val (.int j_a), .val (.int j_b), .val (.int (3 : Int32)), .unset, .unset, .unset, .unset] []))
      refine Go.by (fun t k => XS.iloadN X0.here hx rfl (hb hby at_18) rfl k) ?_
      show Go p e below _ (s₁.setTop (mkF m 19 #[.val (.int ia), .val (.int ib), .val (.int ic), .val (.int j_a), .val (.int j_b), .val (.int (3 : Int32)), .unset, .unset, .unset, .unset] [(.int j_a)]))
      obtain ⟨T118, h118, k118, X118, e118, E118, A118, Q118, st118⟩ := newPE X0 hx hZ (hw _ (List.mem_of_getElem? (i := 0) rfl)) e0 (g := (mkF m 19 #[.val (.int ia), .val (.int ib), .val (.int ic), .val (.int j_a), .val (.int j_b), .val (.int (3 : Int32)), .unset, .unset, .unset, .unset] [(.int j_a)])) rfl (hb hby at_19) rfl (own_nn (by omega)) (cap := 511) (by have := own_nat (x := j_a) (by omega); omega) (by decide) (by decide) (by decide) (ad := "[B") (by decide)
      obtain ⟨b118, g118⟩ : ∃ z, z = h0.size := ⟨_, rfl⟩
      rw [← g118] at A118 Q118 st118
      have gl118 : h0.size ≤ b118 := Nat.le_of_eq g118.symm
      have ge118 : n0 ≤ b118 := Nat.le_trans (own_old_size O0) gl118
      have sz118 : h0.size ≤ b118 := Nat.le_trans (Keep.refl h0 []).1 gl118
      have F119 : own_By Z h118 b118 j_a := own_By.new A118 (own_nn (by omega))
      refine Go.by st118 ?_
      show Go p e below _ (T118.setTop (mkF m 21 #[.val (.int ia), .val (.int ib), .val (.int ic), .val (.int j_a), .val (.int j_b), .val (.int (3 : Int32)), .unset, .unset, .unset, .unset] [(.ref b118)]))
      refine Go.by (fun t k => XS.astore X118.here hx rfl (hb hby at_21) rfl rfl (l' := #[.val (.int ia), .val (.int ib), .val (.int ic), .val (.int j_a), .val (.int j_b), .val (.int (3 : Int32)), .val (.ref b118), .unset, .unset, .unset]) rfl k) ?_
      show Go p e below _ (T118.setTop (mkF m 23 #[.val (.int ia), .val (.int ib), .val (.int ic), .val (.int j_a), .val (.int j_b), .val (.int (3 : Int32)), .val (.ref b118), .unset, .unset, .unset] []))
      refine Go.by (fun t k => XS.iload X118.here hx rfl (hb hby at_23) rfl k) ?_
      show Go p e below _ (T118.setTop (mkF m 25 #[.val (.int ia), .val (.int ib), .val (.int ic), .val (.int j_a), .val (.int j_b), .val (.int (3 : Int32)), .val (.ref b118), .unset, .unset, .unset] [(.int j_b)]))
      have F120 : Old Z n0 h118 := (O0.ext E118)
      have F121 : Keep h0 h118 [] := ((Keep.refl h0 []).ext E118)
      obtain ⟨T122, h122, k122, X122, e122, E122, A122, Q122, st122⟩ := newPE X118 hx hZ (hw _ (List.mem_of_getElem? (i := 0) rfl)) e118 (g := (mkF m 25 #[.val (.int ia), .val (.int ib), .val (.int ic), .val (.int j_a), .val (.int j_b), .val (.int (3 : Int32)), .val (.ref b118), .unset, .unset, .unset] [(.int j_b)])) rfl (hb hby at_25) rfl (own_nn (by omega)) (cap := 511) (by have := own_nat (x := j_b) (by omega); omega) (by decide) (by decide) (by decide) (ad := "[B") (by decide)
      obtain ⟨b122, g122⟩ : ∃ z, z = h118.size := ⟨_, rfl⟩
      rw [← g122] at A122 Q122 st122
      have gl122 : h118.size ≤ b122 := Nat.le_of_eq g122.symm
      have ge122 : n0 ≤ b122 := Nat.le_trans (own_old_size F120) gl122
      have sz122 : h0.size ≤ b122 := Nat.le_trans F121.1 gl122
      have ne123 : b118 ≠ b122 := Nat.ne_of_lt (Nat.lt_of_lt_of_le Q118.lt gl122)
      have F124 : own_By Z h122 b122 j_b := own_By.new A122 (own_nn (by omega))
      refine Go.by st122 ?_
      show Go p e below _ (T122.setTop (mkF m 27 #[.val (.int ia), .val (.int ib), .val (.int ic), .val (.int j_a), .val (.int j_b), .val (.int (3 : Int32)), .val (.ref b118), .unset, .unset, .unset] [(.ref b122)]))
      refine Go.by (fun t k => XS.astore X122.here hx rfl (hb hby at_27) rfl rfl (l' := #[.val (.int ia), .val (.int ib), .val (.int ic), .val (.int j_a), .val (.int j_b), .val (.int (3 : Int32)), .val (.ref b118), .val (.ref b122), .unset, .unset]) rfl k) ?_
      show Go p e below _ (T122.setTop (mkF m 29 #[.val (.int ia), .val (.int ib), .val (.int ic), .val (.int j_a), .val (.int j_b), .val (.int (3 : Int32)), .val (.ref b118), .val (.ref b122), .unset, .unset] []))
      have F125 : Exa Z h122 b118 "[B" := (Q118.ext E122)
      have F126 : Old Z n0 h122 := (F120.ext E122)
      have F127 : Keep h0 h122 [] := (F121.ext E122)
      obtain ⟨T128, h128, X128, e128, E128, A128, D128, -, st128⟩ := newO X122 hx hZ hown (hw _ (List.mem_of_getElem? (i := 1) rfl)) (hw _ (List.mem_of_getElem? (i := 2) rfl)) (hw _ (List.mem_of_getElem? (i := 3) rfl)) e122 (g := (mkF m 29 #[.val (.int ia), .val (.int ib), .val (.int ic), .val (.int j_a), .val (.int j_b), .val (.int (3 : Int32)), .val (.ref b118), .val (.ref b122), .unset, .unset] [])) rfl (hb hby at_29) (by decide) (by decide)
      obtain ⟨b128, g128⟩ : ∃ z, z = h122.size := ⟨_, rfl⟩
      rw [← g128] at A128 D128 st128
      have gl128 : h122.size ≤ b128 := Nat.le_of_eq g128.symm
      have ge128 : n0 ≤ b128 := Nat.le_trans (own_old_size F126) gl128
      have sz128 : h0.size ≤ b128 := Nat.le_trans F127.1 gl128
      have ne129 : b118 ≠ b128 := Nat.ne_of_lt (Nat.lt_of_lt_of_le F125.lt gl128)
      have ne130 : b122 ≠ b128 := Nat.ne_of_lt (Nat.lt_of_lt_of_le Q122.lt gl128)
      have F131 : Fld Z h128 b128 "com/example/whole_commit/wholecommit/Batch" "waiting" "Ljava/util/List;" .null := D128 (Or.inr (hw _ (List.mem_of_getElem? (i := 35) rfl))) (ty := (.object "java/util/List")) (by decide)
      have F132 : Fld Z h128 b128 "com/example/whole_commit/wholecommit/Batch" "decisions" "Ljava/util/Map;" .null := D128 (Or.inr (hw _ (List.mem_of_getElem? (i := 53) rfl))) (ty := (.object "java/util/Map")) (by decide)
      have F133 : Fld Z h128 b128 "com/example/whole_commit/wholecommit/Batch" "bytes" "[B" .null := D128 (Or.inl (hw _ (List.mem_of_getElem? (i := 55) rfl))) (ty := (.array .byte)) (by decide)
      have F134 : Fld Z h128 b128 "com/example/whole_commit/wholecommit/Batch" "size" "I" (.int (0 : Int32)) := D128 (Or.inl (hw _ (List.mem_of_getElem? (i := 57) rfl))) (ty := .int) (by decide)
      refine Go.by st128 ?_
      show Go p e below _ (T128.setTop (mkF m 32 #[.val (.int ia), .val (.int ib), .val (.int ic), .val (.int j_a), .val (.int j_b), .val (.int (3 : Int32)), .val (.ref b118), .val (.ref b122), .unset, .unset] [(.ref b128)]))
      refine Go.by (fun t k => XS.dup X128.here hx rfl (hb hby at_32) rfl rfl k) ?_
      show Go p e below _ (T128.setTop (mkF m 33 #[.val (.int ia), .val (.int ib), .val (.int ic), .val (.int j_a), .val (.int j_b), .val (.int (3 : Int32)), .val (.ref b118), .val (.ref b122), .unset, .unset] [(.ref b128), (.ref b128)]))
      have F136 : Old Z n0 h128 := (F126.ext E128)
      have F137 : Exa Z h128 b118 "[B" := (F125.ext E128)
      have F138 : Exa Z h128 b122 "[B" := (Q122.ext E128)
      have F139 : Keep h0 h128 [] := (F127.ext E128)
      obtain ⟨_, _, ⟨T135, L135, k135, n135⟩, -, X135, ⟨Lc135, hQ135, l135, y135, z135⟩, st135⟩ := X128.specialBack hx (y := (⟨"com/example/whole_commit/wholecommit/Batch", "<init>", "()V"⟩ : MethodName)) rfl hown (mvT hZ (hw _ (List.mem_of_getElem? (i := 4) rfl))) (mvT hZ (hw _ (List.mem_of_getElem? (i := 5) rfl))) (mvT hZ (hw _ (List.mem_of_getElem? (i := 6) rfl))) (by decide) (backOf (W := 1) (b_init l Z a0 hw [] b128 em h128 n0 F136 P0 A128 F131 F132 F133 F134 ge128) hZ (hw _ (List.mem_of_getElem? (i := 6) rfl)) (hw _ (List.mem_of_getElem? (i := 3) rfl)) (by decide) (by decide)) (g := (mkF m 33 #[.val (.int ia), .val (.int ib), .val (.int ic), .val (.int j_a), .val (.int j_b), .val (.int (3 : Int32)), .val (.ref b118), .val (.ref b122), .unset, .unset] [(.ref b128), (.ref b128)])) rfl (by rw [hml]; rfl) (Steps.refl _) (a := b128) (argsL := []) (rest := [(.ref b128)]) (lenOf pd_0 rfl) rfl (by show 2 * 0 + _ ≤ _; exact Nat.le_of_eq rfl) (hb hby at_33) (fun _ _ => ⟨rfl, e128, (by decide : 3 + 3 ≤ _), (by decide : 1029 + 267 ≤ _)⟩)
      dsimp only [Pt.U, Pt.locs, Pt.cells, Pt.slots] at X135 l135 y135 z135 st135 hQ135
      subst l135 y135 z135
      obtain ⟨bya_135, rfl, N135q, K135, fz135_bya, F135_0, F135_1, F135_2, F135_3⟩ := hQ135
      have N135 := Fr.app N0 N135q
      have ge_bya_135 : n0 ≤ bya_135 := Nat.le_trans (own_old_size F136) fz135_bya
      have sz_bya_135 : h0.size ≤ bya_135 := Nat.le_trans F139.1 fz135_bya
      have ne140 : b118 ≠ bya_135 := Nat.ne_of_lt (Nat.lt_of_lt_of_le F137.lt fz135_bya)
      have ne141 : b122 ≠ bya_135 := Nat.ne_of_lt (Nat.lt_of_lt_of_le F138.lt fz135_bya)
      have ne142 : b128 ≠ bya_135 := Nat.ne_of_lt (Nat.lt_of_lt_of_le A128.lt fz135_bya)
      refine Go.tr st135 ?_
      show Go p e below _ (T135.setTop (mkF m 36 #[.val (.int ia), .val (.int ib), .val (.int ic), .val (.int j_a), .val (.int j_b), .val (.int (3 : Int32)), .val (.ref b118), .val (.ref b122), .unset, .unset] [(.ref b128)]))
      refine Go.by (fun t k => XS.astore X135.here hx rfl (hb hby at_36) rfl rfl (l' := #[.val (.int ia), .val (.int ib), .val (.int ic), .val (.int j_a), .val (.int j_b), .val (.int (3 : Int32)), .val (.ref b118), .val (.ref b122), .val (.ref b128), .unset]) rfl k) ?_
      show Go p e below _ (T135.setTop (mkF m 38 #[.val (.int ia), .val (.int ib), .val (.int ic), .val (.int j_a), .val (.int j_b), .val (.int (3 : Int32)), .val (.ref b118), .val (.ref b122), .val (.ref b128), .unset] []))
      refine Go.by (fun t k => XS.aload X135.here hx rfl (hb hby at_38) rfl rfl k) ?_
      show Go p e below _ (T135.setTop (mkF m 40 #[.val (.int ia), .val (.int ib), .val (.int ic), .val (.int j_a), .val (.int j_b), .val (.int (3 : Int32)), .val (.ref b118), .val (.ref b122), .val (.ref b128), .unset] [(.ref b128)]))
      have F144 : Old Z n0 T135.heap := (F136.keep K135 (allS ge128 all0))
      have F145 : Keep h0 T135.heap [] := (F139.trans K135 (allS (Or.inr sz128) all0))
      obtain ⟨cq143, kq143, q143a, q143b, q143c⟩ := isOf hZ rfl F135_0
      obtain ⟨_, _, ⟨T143, L143, k143, n143⟩, -, X143, ⟨Lc143, hQ143, l143, y143, z143⟩, st143⟩ := X135.virtualBack hx (y := (⟨"com/example/whole_commit/wholecommit/Batch", "size", "()I"⟩ : MethodName)) (z := (⟨"com/example/whole_commit/wholecommit/Batch", "size", "()I"⟩ : MethodName)) hown (mvT hZ (hw _ (List.mem_of_getElem? (i := 58) rfl))) (mvT hZ (hw _ (List.mem_of_getElem? (i := 59) rfl))) (notFace_of_selects (args := #[]) (mvT hZ (hw _ (List.mem_of_getElem? (i := 61) rfl)))) (mvT hZ (hw _ (List.mem_of_getElem? (i := 61) rfl))) (mvT hZ (hw _ (List.mem_of_getElem? (i := 60) rfl))) (by decide) (backOf (W := 0) (b_size l Z a0 hw [] b128 (8 : Int32) T135.heap n0 F144 F135_2) hZ (hw _ (List.mem_of_getElem? (i := 62) rfl)) (hw _ (List.mem_of_getElem? (i := 3) rfl)) (by decide) (by decide)) q143a q143c (g := (mkF m 40 #[.val (.int ia), .val (.int ib), .val (.int ic), .val (.int j_a), .val (.int j_b), .val (.int (3 : Int32)), .val (.ref b118), .val (.ref b122), .val (.ref b128), .unset] [(.ref b128)])) rfl (by rw [hml]; rfl) (Steps.refl _) (argsL := []) (rest := []) (lenOf pd_3 rfl) rfl (by show 2 * 0 + _ ≤ _; exact Nat.le_of_eq rfl) (hb hby at_40) (fun _ _ => ⟨rfl, rfl, (by decide : 6 + 0 ≤ _), (by decide : 1296 + 0 ≤ _)⟩)
      dsimp only [Pt.U, Pt.locs, Pt.cells, Pt.slots] at X143 l143 y143 z143 st143 hQ143
      subst l143 y143 z143
      obtain ⟨rfl, N143q, e143⟩ := hQ143
      have N143 := Fr.app N135 N143q
      refine Go.tr st143 ?_
      show Go p e below _ (T143.setTop (mkF m 43 #[.val (.int ia), .val (.int ib), .val (.int ic), .val (.int j_a), .val (.int j_b), .val (.int (3 : Int32)), .val (.ref b118), .val (.ref b122), .val (.ref b128), .unset] [(.int (own_sz (8 : Int32)))]))
      refine Go.by (fun t k => XS.ifNo X143.here hx rfl (hb hby at_43) rfl ((if0 _ _).trans (teq own_sz8).2) k) ?_
      show Go p e below _ (T143.setTop (mkF m 46 #[.val (.int ia), .val (.int ib), .val (.int ic), .val (.int j_a), .val (.int j_b), .val (.int (3 : Int32)), .val (.ref b118), .val (.ref b122), .val (.ref b128), .unset] []))
      refine Go.by (fun t k => XS.iconst X143.here hx rfl (hb hby at_46) k) ?_
      show Go p e below _ (T143.setTop (mkF m 47 #[.val (.int ia), .val (.int ib), .val (.int ic), .val (.int j_a), .val (.int j_b), .val (.int (3 : Int32)), .val (.ref b118), .val (.ref b122), .val (.ref b128), .unset] [(.int (1 : Int32))]))
      refine Go.by (fun t k => XS.goto X143.here hx rfl (pc0 := 47) (pc' := 51) rfl (hb hby at_47) (by decide) (by decide) k) ?_
      show Go p e below _ (T143.setTop (mkF m 51 #[.val (.int ia), .val (.int ib), .val (.int ic), .val (.int j_a), .val (.int j_b), .val (.int (3 : Int32)), .val (.ref b118), .val (.ref b122), .val (.ref b128), .unset] [(.int (1 : Int32))]))
      refine Go.by (fun t k => XS.istore X143.here hx rfl (hb hby at_51) rfl (l' := #[.val (.int ia), .val (.int ib), .val (.int ic), .val (.int j_a), .val (.int j_b), .val (.int (3 : Int32)), .val (.ref b118), .val (.ref b122), .val (.ref b128), .val (.int (1 : Int32))]) rfl k) ?_
      show Go p e below _ (T143.setTop (mkF m 53 #[.val (.int ia), .val (.int ib), .val (.int ic), .val (.int j_a), .val (.int j_b), .val (.int (3 : Int32)), .val (.ref b118), .val (.ref b122), .val (.ref b128), .val (.int (1 : Int32))] []))
      refine Go.by (fun t k => XS.iload X143.here hx rfl (hb hby at_53) rfl k) ?_
      show Go p e below _ (T143.setTop (mkF m 55 #[.val (.int ia), .val (.int ib), .val (.int ic), .val (.int j_a), .val (.int j_b), .val (.int (3 : Int32)), .val (.ref b118), .val (.ref b122), .val (.ref b128), .val (.int (1 : Int32))] [(.int (3 : Int32))]))
      refine Go.by (fun t k => XS.iconst X143.here hx rfl (hb hby at_55) k) ?_
      show Go p e below _ (T143.setTop (mkF m 56 #[.val (.int ia), .val (.int ib), .val (.int ic), .val (.int j_a), .val (.int j_b), .val (.int (3 : Int32)), .val (.ref b118), .val (.ref b122), .val (.ref b128), .val (.int (1 : Int32))] [(.int (1 : Int32)), (.int (3 : Int32))]))
      refine Go.by (fun t k => XS.icmpNo X143.here hx rfl (hb hby at_56) rfl (flt (by decide : ¬ ((3 : Int32) < (1 : Int32)))).1 k) ?_
      show Go p e below _ (T143.setTop (mkF m 59 #[.val (.int ia), .val (.int ib), .val (.int ic), .val (.int j_a), .val (.int j_b), .val (.int (3 : Int32)), .val (.ref b118), .val (.ref b122), .val (.ref b128), .val (.int (1 : Int32))] []))
      refine Go.by (fun t k => XS.aload X143.here hx rfl (hb hby at_59) rfl rfl k) ?_
      show Go p e below _ (T143.setTop (mkF m 61 #[.val (.int ia), .val (.int ib), .val (.int ic), .val (.int j_a), .val (.int j_b), .val (.int (3 : Int32)), .val (.ref b118), .val (.ref b122), .val (.ref b128), .val (.int (1 : Int32))] [(.ref b128)]))
      refine Go.by (fun t k => XS.aload X143.here hx rfl (hb hby at_61) rfl rfl k) ?_
      show Go p e below _ (T143.setTop (mkF m 63 #[.val (.int ia), .val (.int ib), .val (.int ic), .val (.int j_a), .val (.int j_b), .val (.int (3 : Int32)), .val (.ref b118), .val (.ref b122), .val (.ref b128), .val (.int (1 : Int32))] [(.ref b118), (.ref b128)]))
      have F147 : own_By Z T135.heap b118 j_a := (((F119.ext E122).ext E128).keep K135 (ninS ne129 nin0))
      have F148 : Exa Z T135.heap b118 "[B" := (F137.keep K135)
      have F149 : Exa Z T135.heap b122 "[B" := (F138.keep K135)
      obtain ⟨cq146, kq146, q146a, q146b, q146c⟩ := isOf hZ e143 F135_0
      obtain ⟨_, _, ⟨T146, L146, k146, n146⟩, -, X146, ⟨Lc146, hQ146, l146, y146, z146⟩, st146⟩ := X143.virtualBack hx (y := (⟨"com/example/whole_commit/wholecommit/Batch", "add", "([B)V"⟩ : MethodName)) (z := (⟨"com/example/whole_commit/wholecommit/Batch", "add", "([B)V"⟩ : MethodName)) hown (mvT hZ (hw _ (List.mem_of_getElem? (i := 63) rfl))) (mvT hZ (hw _ (List.mem_of_getElem? (i := 64) rfl))) (notFace_of_selects (args := #[]) (mvT hZ (hw _ (List.mem_of_getElem? (i := 66) rfl)))) (mvT hZ (hw _ (List.mem_of_getElem? (i := 66) rfl))) (mvT hZ (hw _ (List.mem_of_getElem? (i := 65) rfl))) (by decide) (backOf (W := 0) (b_add l Z a0 hw [] b128 b118 (8 : Int32) bya_135 (256 : Int32) j_a T135.heap n0 F144 F135_0 F135_2 F135_1 F135_3 F147 ge128 ge_bya_135 ne140 ne129 (Ne.symm ne142) (by have e8 : (8 : Int32).toInt = 8 := rfl; have e256 : (256 : Int32).toInt = 256 := rfl; have ea := own_add (x := (8 : Int32)) (y := j_a) (by omega) (by omega); have eb := own_add (x := (8 : Int32) + j_a) (y := j_b) (by omega) (by omega); omega : 0 ≤ (8 : Int32).toInt ∧ (8 : Int32).toInt ≤ 1030) (by have e8 : (8 : Int32).toInt = 8 := rfl; have e256 : (256 : Int32).toInt = 256 := rfl; have ea := own_add (x := (8 : Int32)) (y := j_a) (by omega) (by omega); have eb := own_add (x := (8 : Int32) + j_a) (y := j_b) (by omega) (by omega); omega : (8 : Int32).toInt ≤ (256 : Int32).toInt ∧ (256 : Int32).toInt ≤ 1038) (by have e8 : (8 : Int32).toInt = 8 := rfl; have e256 : (256 : Int32).toInt = 256 := rfl; have ea := own_add (x := (8 : Int32)) (y := j_a) (by omega) (by omega); have eb := own_add (x := (8 : Int32) + j_a) (y := j_b) (by omega) (by omega); omega : 0 ≤ j_a.toInt ∧ j_a.toInt ≤ 511)) hZ (hw _ (List.mem_of_getElem? (i := 67) rfl)) (hw _ (List.mem_of_getElem? (i := 3) rfl)) (by decide) (by decide)) q146a q146c (g := (mkF m 63 #[.val (.int ia), .val (.int ib), .val (.int ic), .val (.int j_a), .val (.int j_b), .val (.int (3 : Int32)), .val (.ref b118), .val (.ref b122), .val (.ref b128), .val (.int (1 : Int32))] [(.ref b118), (.ref b128)])) rfl (by rw [hml]; rfl) (Steps.refl _) (argsL := [(.ref b118)]) (rest := []) (lenOf pd_4 rfl) rfl (by show 2 * 0 + _ ≤ _; exact Nat.le_of_eq rfl) (hb hby at_63) (fun _ _ => ⟨rfl, e143, (by decide : 6 + 1 ≤ _), (by decide : 1296 + 2076 ≤ _)⟩)
      dsimp only [Pt.U, Pt.locs, Pt.cells, Pt.slots] at X146 l146 y146 z146 st146 hQ146
      subst l146 y146 z146
      obtain ⟨by2_146, zb2_146, rfl, N146q, K146, my146_by2, F146_0, F146_1, F146_2, F146_3, F146_4, bnd_146, nby_146⟩ := hQ146
      have N146 := Fr.app N143 N146q
      have ge_by2_146 : n0 ≤ by2_146 := my146_by2.elim (fun q => by rw [q]; exact ge_bya_135) (fun q => Nat.le_trans (own_old_size F144) q)
      have sz_by2_146 : h0.size ≤ by2_146 := my146_by2.elim (fun q => by rw [q]; exact sz_bya_135) (fun q => Nat.le_trans F145.1 q)
      have ne150 : b118 ≠ by2_146 := my146_by2.elim (fun q => by rw [q]; exact ne140) (fun q => Nat.ne_of_lt (Nat.lt_of_lt_of_le F148.lt q))
      have ne151 : b122 ≠ by2_146 := my146_by2.elim (fun q => by rw [q]; exact ne141) (fun q => Nat.ne_of_lt (Nat.lt_of_lt_of_le F149.lt q))
      have ne152 : b128 ≠ by2_146 := my146_by2.elim (fun q => by rw [q]; exact ne142) (fun q => Nat.ne_of_lt (Nat.lt_of_lt_of_le F135_0.lt q))
      refine Go.tr st146 ?_
      show Go p e below _ (T146.setTop (mkF m 66 #[.val (.int ia), .val (.int ib), .val (.int ic), .val (.int j_a), .val (.int j_b), .val (.int (3 : Int32)), .val (.ref b118), .val (.ref b122), .val (.ref b128), .val (.int (1 : Int32))] []))
      refine Go.by (fun t k => XS.iload X146.here hx rfl (hb hby at_66) rfl k) ?_
      show Go p e below _ (T146.setTop (mkF m 68 #[.val (.int ia), .val (.int ib), .val (.int ic), .val (.int j_a), .val (.int j_b), .val (.int (3 : Int32)), .val (.ref b118), .val (.ref b122), .val (.ref b128), .val (.int (1 : Int32))] [(.int (1 : Int32))]))
      refine Go.by (fun t k => XS.ifNo X146.here hx rfl (hb hby at_68) rfl ((if0 _ _).trans (feq (by decide : ¬ ((1 : Int32) = (0 : Int32)))).1) k) ?_
      show Go p e below _ (T146.setTop (mkF m 71 #[.val (.int ia), .val (.int ib), .val (.int ic), .val (.int j_a), .val (.int j_b), .val (.int (3 : Int32)), .val (.ref b118), .val (.ref b122), .val (.ref b128), .val (.int (1 : Int32))] []))
      refine Go.by (fun t k => XS.aload X146.here hx rfl (hb hby at_71) rfl rfl k) ?_
      show Go p e below _ (T146.setTop (mkF m 73 #[.val (.int ia), .val (.int ib), .val (.int ic), .val (.int j_a), .val (.int j_b), .val (.int (3 : Int32)), .val (.ref b118), .val (.ref b122), .val (.ref b128), .val (.int (1 : Int32))] [(.ref b128)]))
      have F154 : Old Z n0 T146.heap := (F144.keep K146 (allS ge128 (allS ge_bya_135 all0)))
      have F155 : Keep h0 T146.heap [] := (F145.trans K146 (allS (Or.inr sz128) (allS (Or.inr sz_bya_135) all0)))
      obtain ⟨cq153, kq153, q153a, q153b, q153c⟩ := isOf hZ rfl F146_0
      obtain ⟨_, _, ⟨T153, L153, k153, n153⟩, -, X153, ⟨Lc153, hQ153, l153, y153, z153⟩, st153⟩ := X146.virtualBack hx (y := (⟨"com/example/whole_commit/wholecommit/Batch", "size", "()I"⟩ : MethodName)) (z := (⟨"com/example/whole_commit/wholecommit/Batch", "size", "()I"⟩ : MethodName)) hown (mvT hZ (hw _ (List.mem_of_getElem? (i := 58) rfl))) (mvT hZ (hw _ (List.mem_of_getElem? (i := 59) rfl))) (notFace_of_selects (args := #[]) (mvT hZ (hw _ (List.mem_of_getElem? (i := 61) rfl)))) (mvT hZ (hw _ (List.mem_of_getElem? (i := 61) rfl))) (mvT hZ (hw _ (List.mem_of_getElem? (i := 60) rfl))) (by decide) (backOf (W := 0) (b_size l Z a0 hw [] b128 ((8 : Int32) + j_a) T146.heap n0 F154 F146_1) hZ (hw _ (List.mem_of_getElem? (i := 62) rfl)) (hw _ (List.mem_of_getElem? (i := 3) rfl)) (by decide) (by decide)) q153a q153c (g := (mkF m 73 #[.val (.int ia), .val (.int ib), .val (.int ic), .val (.int j_a), .val (.int j_b), .val (.int (3 : Int32)), .val (.ref b118), .val (.ref b122), .val (.ref b128), .val (.int (1 : Int32))] [(.ref b128)])) rfl (by rw [hml]; rfl) (Steps.refl _) (argsL := []) (rest := []) (lenOf pd_3 rfl) rfl (by show 2 * 0 + _ ≤ _; exact Nat.le_of_eq rfl) (hb hby at_73) (fun _ _ => ⟨rfl, rfl, (by decide : 7 + 0 ≤ _), (by decide : 3372 + 0 ≤ _)⟩)
      dsimp only [Pt.U, Pt.locs, Pt.cells, Pt.slots] at X153 l153 y153 z153 st153 hQ153
      subst l153 y153 z153
      obtain ⟨rfl, N153q, e153⟩ := hQ153
      have N153 := Fr.app N146 N153q
      refine Go.tr st153 ?_
      show Go p e below _ (T153.setTop (mkF m 76 #[.val (.int ia), .val (.int ib), .val (.int ic), .val (.int j_a), .val (.int j_b), .val (.int (3 : Int32)), .val (.ref b118), .val (.ref b122), .val (.ref b128), .val (.int (1 : Int32))] [(.int (own_sz ((8 : Int32) + j_a)))]))
      refine Go.by (fun t k => XS.iloadN X153.here hx rfl (hb hby at_76) rfl k) ?_
      show Go p e below _ (T153.setTop (mkF m 77 #[.val (.int ia), .val (.int ib), .val (.int ic), .val (.int j_a), .val (.int j_b), .val (.int (3 : Int32)), .val (.ref b118), .val (.ref b122), .val (.ref b128), .val (.int (1 : Int32))] [(.int j_a), (.int (own_sz ((8 : Int32) + j_a)))]))
      obtain ⟨_, _, ⟨T156, L156, k156, n156⟩, -, X156, ⟨Lc156, hQ156, l156, y156, z156⟩, st156⟩ := Jvm.LawKit.callS X153 hx (y := (⟨"com/example/whole_commit/wholecommit/BatchSizePinLaw", "expect", "(I)I"⟩ : MethodName)) hown (mvT hZ (hw _ (List.mem_of_getElem? (i := 72) rfl))) (mvT hZ (hw _ (List.mem_of_getElem? (i := 73) rfl))) (mvT hZ (hw _ (List.mem_of_getElem? (i := 74) rfl))) (mvT hZ (hw _ (List.mem_of_getElem? (i := 75) rfl))) (by decide) (backOf (W := 1) (expect l Z a0 hw [] j_a T146.heap n0 F154) hZ (hw _ (List.mem_of_getElem? (i := 75) rfl)) (hw _ (List.mem_of_getElem? (i := 74) rfl)) (by decide) (by decide)) (g := (mkF m 77 #[.val (.int ia), .val (.int ib), .val (.int ic), .val (.int j_a), .val (.int j_b), .val (.int (3 : Int32)), .val (.ref b118), .val (.ref b122), .val (.ref b128), .val (.int (1 : Int32))] [(.int j_a), (.int (own_sz ((8 : Int32) + j_a)))])) rfl (by rw [hml]; rfl) (argsL := [(.int j_a)]) (rest := [(.int (own_sz ((8 : Int32) + j_a)))]) (lenOf pd_5 rfl) rfl (by show 2 * 0 + _ ≤ _; exact Nat.le_of_eq rfl) (hb hby at_77) (fun _ _ => ⟨rfl, e153, (by decide : 7 + 0 ≤ _), (by decide : 3372 + 0 ≤ _)⟩)
      dsimp only [Pt.U, Pt.locs, Pt.cells, Pt.slots] at X156 l156 y156 z156 st156 hQ156
      subst l156 y156 z156
      obtain ⟨rfl, N156q, e156⟩ := hQ156
      have N156 := Fr.app N153 N156q
      refine Go.by st156 ?_
      show Go p e below _ (T156.setTop (mkF m 80 #[.val (.int ia), .val (.int ib), .val (.int ic), .val (.int j_a), .val (.int j_b), .val (.int (3 : Int32)), .val (.ref b118), .val (.ref b122), .val (.ref b128), .val (.int (1 : Int32))] [(.int (own_ex j_a)), (.int (own_sz ((8 : Int32) + j_a)))]))
      refine Go.by (fun t k => XS.icmpNo X156.here hx rfl (hb hby at_80) rfl (teq (own_cmp _)).2 k) ?_
      show Go p e below _ (T156.setTop (mkF m 83 #[.val (.int ia), .val (.int ib), .val (.int ic), .val (.int j_a), .val (.int j_b), .val (.int (3 : Int32)), .val (.ref b118), .val (.ref b122), .val (.ref b128), .val (.int (1 : Int32))] []))
      refine Go.by (fun t k => XS.iconst X156.here hx rfl (hb hby at_83) k) ?_
      show Go p e below _ (T156.setTop (mkF m 84 #[.val (.int ia), .val (.int ib), .val (.int ic), .val (.int j_a), .val (.int j_b), .val (.int (3 : Int32)), .val (.ref b118), .val (.ref b122), .val (.ref b128), .val (.int (1 : Int32))] [(.int (1 : Int32))]))
      refine Go.by (fun t k => XS.goto X156.here hx rfl (pc0 := 84) (pc' := 88) rfl (hb hby at_84) (by decide) (by decide) k) ?_
      show Go p e below _ (T156.setTop (mkF m 88 #[.val (.int ia), .val (.int ib), .val (.int ic), .val (.int j_a), .val (.int j_b), .val (.int (3 : Int32)), .val (.ref b118), .val (.ref b122), .val (.ref b128), .val (.int (1 : Int32))] [(.int (1 : Int32))]))
      refine Go.by (fun t k => XS.istore X156.here hx rfl (hb hby at_88) rfl (l' := #[.val (.int ia), .val (.int ib), .val (.int ic), .val (.int j_a), .val (.int j_b), .val (.int (3 : Int32)), .val (.ref b118), .val (.ref b122), .val (.ref b128), .val (.int (1 : Int32))]) rfl k) ?_
      show Go p e below _ (T156.setTop (mkF m 90 #[.val (.int ia), .val (.int ib), .val (.int ic), .val (.int j_a), .val (.int j_b), .val (.int (3 : Int32)), .val (.ref b118), .val (.ref b122), .val (.ref b128), .val (.int (1 : Int32))] []))
      refine Go.by (fun t k => XS.iload X156.here hx rfl (hb hby at_90) rfl k) ?_
      show Go p e below _ (T156.setTop (mkF m 92 #[.val (.int ia), .val (.int ib), .val (.int ic), .val (.int j_a), .val (.int j_b), .val (.int (3 : Int32)), .val (.ref b118), .val (.ref b122), .val (.ref b128), .val (.int (1 : Int32))] [(.int (3 : Int32))]))
      refine Go.by (fun t k => XS.iconst X156.here hx rfl (hb hby at_92) k) ?_
      show Go p e below _ (T156.setTop (mkF m 93 #[.val (.int ia), .val (.int ib), .val (.int ic), .val (.int j_a), .val (.int j_b), .val (.int (3 : Int32)), .val (.ref b118), .val (.ref b122), .val (.ref b128), .val (.int (1 : Int32))] [(.int (2 : Int32)), (.int (3 : Int32))]))
      refine Go.by (fun t k => XS.icmpNo X156.here hx rfl (hb hby at_93) rfl (flt (by decide : ¬ ((3 : Int32) < (2 : Int32)))).1 k) ?_
      show Go p e below _ (T156.setTop (mkF m 96 #[.val (.int ia), .val (.int ib), .val (.int ic), .val (.int j_a), .val (.int j_b), .val (.int (3 : Int32)), .val (.ref b118), .val (.ref b122), .val (.ref b128), .val (.int (1 : Int32))] []))
      refine Go.by (fun t k => XS.aload X156.here hx rfl (hb hby at_96) rfl rfl k) ?_
      show Go p e below _ (T156.setTop (mkF m 98 #[.val (.int ia), .val (.int ib), .val (.int ic), .val (.int j_a), .val (.int j_b), .val (.int (3 : Int32)), .val (.ref b118), .val (.ref b122), .val (.ref b128), .val (.int (1 : Int32))] [(.ref b128)]))
      refine Go.by (fun t k => XS.aload X156.here hx rfl (hb hby at_98) rfl rfl k) ?_
      show Go p e below _ (T156.setTop (mkF m 100 #[.val (.int ia), .val (.int ib), .val (.int ic), .val (.int j_a), .val (.int j_b), .val (.int (3 : Int32)), .val (.ref b118), .val (.ref b122), .val (.ref b128), .val (.int (1 : Int32))] [(.ref b122), (.ref b128)]))
      have F158 : own_By Z T146.heap b122 j_b := (((F124.ext E128).keep K135 (ninS ne130 nin0)).keep K146 (ninS ne130 (ninS ne141 nin0)))
      have F159 : Exa Z T146.heap b118 "[B" := (F148.keep K146)
      have F160 : Exa Z T146.heap b122 "[B" := (F149.keep K146)
      obtain ⟨cq157, kq157, q157a, q157b, q157c⟩ := isOf hZ e156 F146_0
      obtain ⟨_, _, ⟨T157, L157, k157, n157⟩, -, X157, ⟨Lc157, hQ157, l157, y157, z157⟩, st157⟩ := X156.virtualBack hx (y := (⟨"com/example/whole_commit/wholecommit/Batch", "add", "([B)V"⟩ : MethodName)) (z := (⟨"com/example/whole_commit/wholecommit/Batch", "add", "([B)V"⟩ : MethodName)) hown (mvT hZ (hw _ (List.mem_of_getElem? (i := 63) rfl))) (mvT hZ (hw _ (List.mem_of_getElem? (i := 64) rfl))) (notFace_of_selects (args := #[]) (mvT hZ (hw _ (List.mem_of_getElem? (i := 66) rfl)))) (mvT hZ (hw _ (List.mem_of_getElem? (i := 66) rfl))) (mvT hZ (hw _ (List.mem_of_getElem? (i := 65) rfl))) (by decide) (backOf (W := 0) (b_add l Z a0 hw [] b128 b122 ((8 : Int32) + j_a) by2_146 zb2_146 j_b T146.heap n0 F154 F146_0 F146_1 F146_2 F146_3 F158 ge128 ge_by2_146 ne151 ne130 nby_146 (by have e8 : (8 : Int32).toInt = 8 := rfl; have e256 : (256 : Int32).toInt = 256 := rfl; have ea := own_add (x := (8 : Int32)) (y := j_a) (by omega) (by omega); have eb := own_add (x := (8 : Int32) + j_a) (y := j_b) (by omega) (by omega); omega : 0 ≤ ((8 : Int32) + j_a).toInt ∧ ((8 : Int32) + j_a).toInt ≤ 1030) (by have e8 : (8 : Int32).toInt = 8 := rfl; have e256 : (256 : Int32).toInt = 256 := rfl; have ea := own_add (x := (8 : Int32)) (y := j_a) (by omega) (by omega); have eb := own_add (x := (8 : Int32) + j_a) (y := j_b) (by omega) (by omega); omega : ((8 : Int32) + j_a).toInt ≤ zb2_146.toInt ∧ zb2_146.toInt ≤ 1038) (by have e8 : (8 : Int32).toInt = 8 := rfl; have e256 : (256 : Int32).toInt = 256 := rfl; have ea := own_add (x := (8 : Int32)) (y := j_a) (by omega) (by omega); have eb := own_add (x := (8 : Int32) + j_a) (y := j_b) (by omega) (by omega); omega : 0 ≤ j_b.toInt ∧ j_b.toInt ≤ 511)) hZ (hw _ (List.mem_of_getElem? (i := 67) rfl)) (hw _ (List.mem_of_getElem? (i := 3) rfl)) (by decide) (by decide)) q157a q157c (g := (mkF m 100 #[.val (.int ia), .val (.int ib), .val (.int ic), .val (.int j_a), .val (.int j_b), .val (.int (3 : Int32)), .val (.ref b118), .val (.ref b122), .val (.ref b128), .val (.int (1 : Int32))] [(.ref b122), (.ref b128)])) rfl (by rw [hml]; rfl) (Steps.refl _) (argsL := [(.ref b122)]) (rest := []) (lenOf pd_4 rfl) rfl (by show 2 * 0 + _ ≤ _; exact Nat.le_of_eq rfl) (hb hby at_100) (fun _ _ => ⟨rfl, e156, (by decide : 7 + 1 ≤ _), (by decide : 3372 + 2076 ≤ _)⟩)
      dsimp only [Pt.U, Pt.locs, Pt.cells, Pt.slots] at X157 l157 y157 z157 st157 hQ157
      subst l157 y157 z157
      obtain ⟨by2_157, zb2_157, rfl, N157q, K157, my157_by2, F157_0, F157_1, F157_2, F157_3, F157_4, bnd_157, nby_157⟩ := hQ157
      have N157 := Fr.app N156 N157q
      have ge_by2_157 : n0 ≤ by2_157 := my157_by2.elim (fun q => by rw [q]; exact ge_by2_146) (fun q => Nat.le_trans (own_old_size F154) q)
      have sz_by2_157 : h0.size ≤ by2_157 := my157_by2.elim (fun q => by rw [q]; exact sz_by2_146) (fun q => Nat.le_trans F155.1 q)
      have ne161 : b118 ≠ by2_157 := my157_by2.elim (fun q => by rw [q]; exact ne150) (fun q => Nat.ne_of_lt (Nat.lt_of_lt_of_le F159.lt q))
      have ne162 : b122 ≠ by2_157 := my157_by2.elim (fun q => by rw [q]; exact ne151) (fun q => Nat.ne_of_lt (Nat.lt_of_lt_of_le F160.lt q))
      have ne163 : b128 ≠ by2_157 := my157_by2.elim (fun q => by rw [q]; exact ne152) (fun q => Nat.ne_of_lt (Nat.lt_of_lt_of_le F146_0.lt q))
      refine Go.tr st157 ?_
      show Go p e below _ (T157.setTop (mkF m 103 #[.val (.int ia), .val (.int ib), .val (.int ic), .val (.int j_a), .val (.int j_b), .val (.int (3 : Int32)), .val (.ref b118), .val (.ref b122), .val (.ref b128), .val (.int (1 : Int32))] []))
      refine Go.by (fun t k => XS.iload X157.here hx rfl (hb hby at_103) rfl k) ?_
      show Go p e below _ (T157.setTop (mkF m 105 #[.val (.int ia), .val (.int ib), .val (.int ic), .val (.int j_a), .val (.int j_b), .val (.int (3 : Int32)), .val (.ref b118), .val (.ref b122), .val (.ref b128), .val (.int (1 : Int32))] [(.int (1 : Int32))]))
      refine Go.by (fun t k => XS.ifNo X157.here hx rfl (hb hby at_105) rfl ((if0 _ _).trans (feq (by decide : ¬ ((1 : Int32) = (0 : Int32)))).1) k) ?_
      show Go p e below _ (T157.setTop (mkF m 108 #[.val (.int ia), .val (.int ib), .val (.int ic), .val (.int j_a), .val (.int j_b), .val (.int (3 : Int32)), .val (.ref b118), .val (.ref b122), .val (.ref b128), .val (.int (1 : Int32))] []))
      refine Go.by (fun t k => XS.aload X157.here hx rfl (hb hby at_108) rfl rfl k) ?_
      show Go p e below _ (T157.setTop (mkF m 110 #[.val (.int ia), .val (.int ib), .val (.int ic), .val (.int j_a), .val (.int j_b), .val (.int (3 : Int32)), .val (.ref b118), .val (.ref b122), .val (.ref b128), .val (.int (1 : Int32))] [(.ref b128)]))
      have F165 : Old Z n0 T157.heap := (F154.keep K157 (allS ge128 (allS ge_by2_146 all0)))
      have F166 : Keep h0 T157.heap [] := (F155.trans K157 (allS (Or.inr sz128) (allS (Or.inr sz_by2_146) all0)))
      obtain ⟨cq164, kq164, q164a, q164b, q164c⟩ := isOf hZ rfl F157_0
      obtain ⟨_, _, ⟨T164, L164, k164, n164⟩, -, X164, ⟨Lc164, hQ164, l164, y164, z164⟩, st164⟩ := X157.virtualBack hx (y := (⟨"com/example/whole_commit/wholecommit/Batch", "size", "()I"⟩ : MethodName)) (z := (⟨"com/example/whole_commit/wholecommit/Batch", "size", "()I"⟩ : MethodName)) hown (mvT hZ (hw _ (List.mem_of_getElem? (i := 58) rfl))) (mvT hZ (hw _ (List.mem_of_getElem? (i := 59) rfl))) (notFace_of_selects (args := #[]) (mvT hZ (hw _ (List.mem_of_getElem? (i := 61) rfl)))) (mvT hZ (hw _ (List.mem_of_getElem? (i := 61) rfl))) (mvT hZ (hw _ (List.mem_of_getElem? (i := 60) rfl))) (by decide) (backOf (W := 0) (b_size l Z a0 hw [] b128 (((8 : Int32) + j_a) + j_b) T157.heap n0 F165 F157_1) hZ (hw _ (List.mem_of_getElem? (i := 62) rfl)) (hw _ (List.mem_of_getElem? (i := 3) rfl)) (by decide) (by decide)) q164a q164c (g := (mkF m 110 #[.val (.int ia), .val (.int ib), .val (.int ic), .val (.int j_a), .val (.int j_b), .val (.int (3 : Int32)), .val (.ref b118), .val (.ref b122), .val (.ref b128), .val (.int (1 : Int32))] [(.ref b128)])) rfl (by rw [hml]; rfl) (Steps.refl _) (argsL := []) (rest := []) (lenOf pd_3 rfl) rfl (by show 2 * 0 + _ ≤ _; exact Nat.le_of_eq rfl) (hb hby at_110) (fun _ _ => ⟨rfl, rfl, (by decide : 8 + 0 ≤ _), (by decide : 5448 + 0 ≤ _)⟩)
      dsimp only [Pt.U, Pt.locs, Pt.cells, Pt.slots] at X164 l164 y164 z164 st164 hQ164
      subst l164 y164 z164
      obtain ⟨rfl, N164q, e164⟩ := hQ164
      have N164 := Fr.app N157 N164q
      refine Go.tr st164 ?_
      show Go p e below _ (T164.setTop (mkF m 113 #[.val (.int ia), .val (.int ib), .val (.int ic), .val (.int j_a), .val (.int j_b), .val (.int (3 : Int32)), .val (.ref b118), .val (.ref b122), .val (.ref b128), .val (.int (1 : Int32))] [(.int (own_sz (((8 : Int32) + j_a) + j_b)))]))
      refine Go.by (fun t k => XS.iloadN X164.here hx rfl (hb hby at_113) rfl k) ?_
      show Go p e below _ (T164.setTop (mkF m 114 #[.val (.int ia), .val (.int ib), .val (.int ic), .val (.int j_a), .val (.int j_b), .val (.int (3 : Int32)), .val (.ref b118), .val (.ref b122), .val (.ref b128), .val (.int (1 : Int32))] [(.int j_a), (.int (own_sz (((8 : Int32) + j_a) + j_b)))]))
      refine Go.by (fun t k => XS.iload X164.here hx rfl (hb hby at_114) rfl k) ?_
      show Go p e below _ (T164.setTop (mkF m 116 #[.val (.int ia), .val (.int ib), .val (.int ic), .val (.int j_a), .val (.int j_b), .val (.int (3 : Int32)), .val (.ref b118), .val (.ref b122), .val (.ref b128), .val (.int (1 : Int32))] [(.int j_b), (.int j_a), (.int (own_sz (((8 : Int32) + j_a) + j_b)))]))
      refine Go.by (fun t k => XS.iadd X164.here hx rfl (hb hby at_116) rfl k) ?_
      show Go p e below _ (T164.setTop (mkF m 117 #[.val (.int ia), .val (.int ib), .val (.int ic), .val (.int j_a), .val (.int j_b), .val (.int (3 : Int32)), .val (.ref b118), .val (.ref b122), .val (.ref b128), .val (.int (1 : Int32))] [(.int (j_a + j_b)), (.int (own_sz (((8 : Int32) + j_a) + j_b)))]))
      obtain ⟨_, _, ⟨T167, L167, k167, n167⟩, -, X167, ⟨Lc167, hQ167, l167, y167, z167⟩, st167⟩ := Jvm.LawKit.callS X164 hx (y := (⟨"com/example/whole_commit/wholecommit/BatchSizePinLaw", "expect", "(I)I"⟩ : MethodName)) hown (mvT hZ (hw _ (List.mem_of_getElem? (i := 72) rfl))) (mvT hZ (hw _ (List.mem_of_getElem? (i := 73) rfl))) (mvT hZ (hw _ (List.mem_of_getElem? (i := 74) rfl))) (mvT hZ (hw _ (List.mem_of_getElem? (i := 75) rfl))) (by decide) (backOf (W := 1) (expect l Z a0 hw [] (j_a + j_b) T157.heap n0 F165) hZ (hw _ (List.mem_of_getElem? (i := 75) rfl)) (hw _ (List.mem_of_getElem? (i := 74) rfl)) (by decide) (by decide)) (g := (mkF m 117 #[.val (.int ia), .val (.int ib), .val (.int ic), .val (.int j_a), .val (.int j_b), .val (.int (3 : Int32)), .val (.ref b118), .val (.ref b122), .val (.ref b128), .val (.int (1 : Int32))] [(.int (j_a + j_b)), (.int (own_sz (((8 : Int32) + j_a) + j_b)))])) rfl (by rw [hml]; rfl) (argsL := [(.int (j_a + j_b))]) (rest := [(.int (own_sz (((8 : Int32) + j_a) + j_b)))]) (lenOf pd_5 rfl) rfl (by show 2 * 0 + _ ≤ _; exact Nat.le_of_eq rfl) (hb hby at_117) (fun _ _ => ⟨rfl, e164, (by decide : 8 + 0 ≤ _), (by decide : 5448 + 0 ≤ _)⟩)
      dsimp only [Pt.U, Pt.locs, Pt.cells, Pt.slots] at X167 l167 y167 z167 st167 hQ167
      subst l167 y167 z167
      obtain ⟨rfl, N167q, e167⟩ := hQ167
      have N167 := Fr.app N164 N167q
      refine Go.by st167 ?_
      show Go p e below _ (T167.setTop (mkF m 120 #[.val (.int ia), .val (.int ib), .val (.int ic), .val (.int j_a), .val (.int j_b), .val (.int (3 : Int32)), .val (.ref b118), .val (.ref b122), .val (.ref b128), .val (.int (1 : Int32))] [(.int (own_ex (j_a + j_b))), (.int (own_sz (((8 : Int32) + j_a) + j_b)))]))
      refine Go.by (fun t k => XS.icmpNo X167.here hx rfl (hb hby at_120) rfl (teq (by rw [Int32.add_assoc]; exact own_cmp _)).2 k) ?_
      show Go p e below _ (T167.setTop (mkF m 123 #[.val (.int ia), .val (.int ib), .val (.int ic), .val (.int j_a), .val (.int j_b), .val (.int (3 : Int32)), .val (.ref b118), .val (.ref b122), .val (.ref b128), .val (.int (1 : Int32))] []))
      refine Go.by (fun t k => XS.iconst X167.here hx rfl (hb hby at_123) k) ?_
      show Go p e below _ (T167.setTop (mkF m 124 #[.val (.int ia), .val (.int ib), .val (.int ic), .val (.int j_a), .val (.int j_b), .val (.int (3 : Int32)), .val (.ref b118), .val (.ref b122), .val (.ref b128), .val (.int (1 : Int32))] [(.int (1 : Int32))]))
      refine Go.by (fun t k => XS.goto X167.here hx rfl (pc0 := 124) (pc' := 128) rfl (hb hby at_124) (by decide) (by decide) k) ?_
      show Go p e below _ (T167.setTop (mkF m 128 #[.val (.int ia), .val (.int ib), .val (.int ic), .val (.int j_a), .val (.int j_b), .val (.int (3 : Int32)), .val (.ref b118), .val (.ref b122), .val (.ref b128), .val (.int (1 : Int32))] [(.int (1 : Int32))]))
      refine Go.by (fun t k => XS.istore X167.here hx rfl (hb hby at_128) rfl (l' := #[.val (.int ia), .val (.int ib), .val (.int ic), .val (.int j_a), .val (.int j_b), .val (.int (3 : Int32)), .val (.ref b118), .val (.ref b122), .val (.ref b128), .val (.int (1 : Int32))]) rfl k) ?_
      show Go p e below _ (T167.setTop (mkF m 130 #[.val (.int ia), .val (.int ib), .val (.int ic), .val (.int j_a), .val (.int j_b), .val (.int (3 : Int32)), .val (.ref b118), .val (.ref b122), .val (.ref b128), .val (.int (1 : Int32))] []))
      refine Go.by (fun t k => XS.iload X167.here hx rfl (hb hby at_130) rfl k) ?_
      show Go p e below _ (T167.setTop (mkF m 132 #[.val (.int ia), .val (.int ib), .val (.int ic), .val (.int j_a), .val (.int j_b), .val (.int (3 : Int32)), .val (.ref b118), .val (.ref b122), .val (.ref b128), .val (.int (1 : Int32))] [(.int (3 : Int32))]))
      refine Go.by (fun t k => XS.iconst X167.here hx rfl (hb hby at_132) k) ?_
      show Go p e below _ (T167.setTop (mkF m 133 #[.val (.int ia), .val (.int ib), .val (.int ic), .val (.int j_a), .val (.int j_b), .val (.int (3 : Int32)), .val (.ref b118), .val (.ref b122), .val (.ref b128), .val (.int (1 : Int32))] [(.int (3 : Int32)), (.int (3 : Int32))]))
      refine Go.by (fun t k => XS.icmpNo X167.here hx rfl (hb hby at_133) rfl (flt Int32.lt_irrefl).1 k) ?_
      show Go p e below _ (T167.setTop (mkF m 136 #[.val (.int ia), .val (.int ib), .val (.int ic), .val (.int j_a), .val (.int j_b), .val (.int (3 : Int32)), .val (.ref b118), .val (.ref b122), .val (.ref b128), .val (.int (1 : Int32))] []))
      refine Go.by (fun t k => XS.aload X167.here hx rfl (hb hby at_136) rfl rfl k) ?_
      show Go p e below _ (T167.setTop (mkF m 138 #[.val (.int ia), .val (.int ib), .val (.int ic), .val (.int j_a), .val (.int j_b), .val (.int (3 : Int32)), .val (.ref b118), .val (.ref b122), .val (.ref b128), .val (.int (1 : Int32))] [(.ref b128)]))
      refine Go.by (fun t k => XS.aload X167.here hx rfl (hb hby at_138) rfl rfl k) ?_
      show Go p e below _ (T167.setTop (mkF m 140 #[.val (.int ia), .val (.int ib), .val (.int ic), .val (.int j_a), .val (.int j_b), .val (.int (3 : Int32)), .val (.ref b118), .val (.ref b122), .val (.ref b128), .val (.int (1 : Int32))] [(.ref b118), (.ref b128)]))
      have F169 : own_By Z T157.heap b118 j_a := (F146_4.keep K157 (ninS ne129 (ninS ne150 nin0)))
      have F170 : Exa Z T157.heap b118 "[B" := (F159.keep K157)
      have F171 : Exa Z T157.heap b122 "[B" := (F160.keep K157)
      obtain ⟨cq168, kq168, q168a, q168b, q168c⟩ := isOf hZ e167 F157_0
      obtain ⟨_, _, ⟨T168, L168, k168, n168⟩, -, X168, ⟨Lc168, hQ168, l168, y168, z168⟩, st168⟩ := X167.virtualBack hx (y := (⟨"com/example/whole_commit/wholecommit/Batch", "add", "([B)V"⟩ : MethodName)) (z := (⟨"com/example/whole_commit/wholecommit/Batch", "add", "([B)V"⟩ : MethodName)) hown (mvT hZ (hw _ (List.mem_of_getElem? (i := 63) rfl))) (mvT hZ (hw _ (List.mem_of_getElem? (i := 64) rfl))) (notFace_of_selects (args := #[]) (mvT hZ (hw _ (List.mem_of_getElem? (i := 66) rfl)))) (mvT hZ (hw _ (List.mem_of_getElem? (i := 66) rfl))) (mvT hZ (hw _ (List.mem_of_getElem? (i := 65) rfl))) (by decide) (backOf (W := 0) (b_add l Z a0 hw [] b128 b118 (((8 : Int32) + j_a) + j_b) by2_157 zb2_157 j_a T157.heap n0 F165 F157_0 F157_1 F157_2 F157_3 F169 ge128 ge_by2_157 ne161 ne129 nby_157 (by have e8 : (8 : Int32).toInt = 8 := rfl; have e256 : (256 : Int32).toInt = 256 := rfl; have ea := own_add (x := (8 : Int32)) (y := j_a) (by omega) (by omega); have eb := own_add (x := (8 : Int32) + j_a) (y := j_b) (by omega) (by omega); omega : 0 ≤ (((8 : Int32) + j_a) + j_b).toInt ∧ (((8 : Int32) + j_a) + j_b).toInt ≤ 1030) (by have e8 : (8 : Int32).toInt = 8 := rfl; have e256 : (256 : Int32).toInt = 256 := rfl; have ea := own_add (x := (8 : Int32)) (y := j_a) (by omega) (by omega); have eb := own_add (x := (8 : Int32) + j_a) (y := j_b) (by omega) (by omega); omega : (((8 : Int32) + j_a) + j_b).toInt ≤ zb2_157.toInt ∧ zb2_157.toInt ≤ 1038) (by have e8 : (8 : Int32).toInt = 8 := rfl; have e256 : (256 : Int32).toInt = 256 := rfl; have ea := own_add (x := (8 : Int32)) (y := j_a) (by omega) (by omega); have eb := own_add (x := (8 : Int32) + j_a) (y := j_b) (by omega) (by omega); omega : 0 ≤ j_a.toInt ∧ j_a.toInt ≤ 511)) hZ (hw _ (List.mem_of_getElem? (i := 67) rfl)) (hw _ (List.mem_of_getElem? (i := 3) rfl)) (by decide) (by decide)) q168a q168c (g := (mkF m 140 #[.val (.int ia), .val (.int ib), .val (.int ic), .val (.int j_a), .val (.int j_b), .val (.int (3 : Int32)), .val (.ref b118), .val (.ref b122), .val (.ref b128), .val (.int (1 : Int32))] [(.ref b118), (.ref b128)])) rfl (by rw [hml]; rfl) (Steps.refl _) (argsL := [(.ref b118)]) (rest := []) (lenOf pd_4 rfl) rfl (by show 2 * 0 + _ ≤ _; exact Nat.le_of_eq rfl) (hb hby at_140) (fun _ _ => ⟨rfl, e167, (by decide : 8 + 1 ≤ _), (by decide : 5448 + 2076 ≤ _)⟩)
      dsimp only [Pt.U, Pt.locs, Pt.cells, Pt.slots] at X168 l168 y168 z168 st168 hQ168
      subst l168 y168 z168
      obtain ⟨by2_168, zb2_168, rfl, N168q, K168, my168_by2, F168_0, F168_1, F168_2, F168_3, F168_4, bnd_168, nby_168⟩ := hQ168
      have N168 := Fr.app N167 N168q
      have ge_by2_168 : n0 ≤ by2_168 := my168_by2.elim (fun q => by rw [q]; exact ge_by2_157) (fun q => Nat.le_trans (own_old_size F165) q)
      have sz_by2_168 : h0.size ≤ by2_168 := my168_by2.elim (fun q => by rw [q]; exact sz_by2_157) (fun q => Nat.le_trans F166.1 q)
      have ne172 : b118 ≠ by2_168 := my168_by2.elim (fun q => by rw [q]; exact ne161) (fun q => Nat.ne_of_lt (Nat.lt_of_lt_of_le F170.lt q))
      have ne173 : b122 ≠ by2_168 := my168_by2.elim (fun q => by rw [q]; exact ne162) (fun q => Nat.ne_of_lt (Nat.lt_of_lt_of_le F171.lt q))
      have ne174 : b128 ≠ by2_168 := my168_by2.elim (fun q => by rw [q]; exact ne163) (fun q => Nat.ne_of_lt (Nat.lt_of_lt_of_le F157_0.lt q))
      refine Go.tr st168 ?_
      show Go p e below _ (T168.setTop (mkF m 143 #[.val (.int ia), .val (.int ib), .val (.int ic), .val (.int j_a), .val (.int j_b), .val (.int (3 : Int32)), .val (.ref b118), .val (.ref b122), .val (.ref b128), .val (.int (1 : Int32))] []))
      refine Go.by (fun t k => XS.iload X168.here hx rfl (hb hby at_143) rfl k) ?_
      show Go p e below _ (T168.setTop (mkF m 145 #[.val (.int ia), .val (.int ib), .val (.int ic), .val (.int j_a), .val (.int j_b), .val (.int (3 : Int32)), .val (.ref b118), .val (.ref b122), .val (.ref b128), .val (.int (1 : Int32))] [(.int (1 : Int32))]))
      refine Go.by (fun t k => XS.ifNo X168.here hx rfl (hb hby at_145) rfl ((if0 _ _).trans (feq (by decide : ¬ ((1 : Int32) = (0 : Int32)))).1) k) ?_
      show Go p e below _ (T168.setTop (mkF m 148 #[.val (.int ia), .val (.int ib), .val (.int ic), .val (.int j_a), .val (.int j_b), .val (.int (3 : Int32)), .val (.ref b118), .val (.ref b122), .val (.ref b128), .val (.int (1 : Int32))] []))
      refine Go.by (fun t k => XS.aload X168.here hx rfl (hb hby at_148) rfl rfl k) ?_
      show Go p e below _ (T168.setTop (mkF m 150 #[.val (.int ia), .val (.int ib), .val (.int ic), .val (.int j_a), .val (.int j_b), .val (.int (3 : Int32)), .val (.ref b118), .val (.ref b122), .val (.ref b128), .val (.int (1 : Int32))] [(.ref b128)]))
      have F176 : Old Z n0 T168.heap := (F165.keep K168 (allS ge128 (allS ge_by2_157 all0)))
      have F177 : Keep h0 T168.heap [] := (F166.trans K168 (allS (Or.inr sz128) (allS (Or.inr sz_by2_157) all0)))
      obtain ⟨cq175, kq175, q175a, q175b, q175c⟩ := isOf hZ rfl F168_0
      obtain ⟨_, _, ⟨T175, L175, k175, n175⟩, -, X175, ⟨Lc175, hQ175, l175, y175, z175⟩, st175⟩ := X168.virtualBack hx (y := (⟨"com/example/whole_commit/wholecommit/Batch", "size", "()I"⟩ : MethodName)) (z := (⟨"com/example/whole_commit/wholecommit/Batch", "size", "()I"⟩ : MethodName)) hown (mvT hZ (hw _ (List.mem_of_getElem? (i := 58) rfl))) (mvT hZ (hw _ (List.mem_of_getElem? (i := 59) rfl))) (notFace_of_selects (args := #[]) (mvT hZ (hw _ (List.mem_of_getElem? (i := 61) rfl)))) (mvT hZ (hw _ (List.mem_of_getElem? (i := 61) rfl))) (mvT hZ (hw _ (List.mem_of_getElem? (i := 60) rfl))) (by decide) (backOf (W := 0) (b_size l Z a0 hw [] b128 ((((8 : Int32) + j_a) + j_b) + j_a) T168.heap n0 F176 F168_1) hZ (hw _ (List.mem_of_getElem? (i := 62) rfl)) (hw _ (List.mem_of_getElem? (i := 3) rfl)) (by decide) (by decide)) q175a q175c (g := (mkF m 150 #[.val (.int ia), .val (.int ib), .val (.int ic), .val (.int j_a), .val (.int j_b), .val (.int (3 : Int32)), .val (.ref b118), .val (.ref b122), .val (.ref b128), .val (.int (1 : Int32))] [(.ref b128)])) rfl (by rw [hml]; rfl) (Steps.refl _) (argsL := []) (rest := []) (lenOf pd_3 rfl) rfl (by show 2 * 0 + _ ≤ _; exact Nat.le_of_eq rfl) (hb hby at_150) (fun _ _ => ⟨rfl, rfl, (by decide : 9 + 0 ≤ _), (by decide : 7524 + 0 ≤ _)⟩)
      dsimp only [Pt.U, Pt.locs, Pt.cells, Pt.slots] at X175 l175 y175 z175 st175 hQ175
      subst l175 y175 z175
      obtain ⟨rfl, N175q, e175⟩ := hQ175
      have N175 := Fr.app N168 N175q
      refine Go.tr st175 ?_
      show Go p e below _ (T175.setTop (mkF m 153 #[.val (.int ia), .val (.int ib), .val (.int ic), .val (.int j_a), .val (.int j_b), .val (.int (3 : Int32)), .val (.ref b118), .val (.ref b122), .val (.ref b128), .val (.int (1 : Int32))] [(.int (own_sz ((((8 : Int32) + j_a) + j_b) + j_a)))]))
      refine Go.by (fun t k => XS.iloadN X175.here hx rfl (hb hby at_153) rfl k) ?_
      show Go p e below _ (T175.setTop (mkF m 154 #[.val (.int ia), .val (.int ib), .val (.int ic), .val (.int j_a), .val (.int j_b), .val (.int (3 : Int32)), .val (.ref b118), .val (.ref b122), .val (.ref b128), .val (.int (1 : Int32))] [(.int j_a), (.int (own_sz ((((8 : Int32) + j_a) + j_b) + j_a)))]))
      refine Go.by (fun t k => XS.iload X175.here hx rfl (hb hby at_154) rfl k) ?_
      show Go p e below _ (T175.setTop (mkF m 156 #[.val (.int ia), .val (.int ib), .val (.int ic), .val (.int j_a), .val (.int j_b), .val (.int (3 : Int32)), .val (.ref b118), .val (.ref b122), .val (.ref b128), .val (.int (1 : Int32))] [(.int j_b), (.int j_a), (.int (own_sz ((((8 : Int32) + j_a) + j_b) + j_a)))]))
      refine Go.by (fun t k => XS.iadd X175.here hx rfl (hb hby at_156) rfl k) ?_
      show Go p e below _ (T175.setTop (mkF m 157 #[.val (.int ia), .val (.int ib), .val (.int ic), .val (.int j_a), .val (.int j_b), .val (.int (3 : Int32)), .val (.ref b118), .val (.ref b122), .val (.ref b128), .val (.int (1 : Int32))] [(.int (j_a + j_b)), (.int (own_sz ((((8 : Int32) + j_a) + j_b) + j_a)))]))
      refine Go.by (fun t k => XS.iloadN X175.here hx rfl (hb hby at_157) rfl k) ?_
      show Go p e below _ (T175.setTop (mkF m 158 #[.val (.int ia), .val (.int ib), .val (.int ic), .val (.int j_a), .val (.int j_b), .val (.int (3 : Int32)), .val (.ref b118), .val (.ref b122), .val (.ref b128), .val (.int (1 : Int32))] [(.int j_a), (.int (j_a + j_b)), (.int (own_sz ((((8 : Int32) + j_a) + j_b) + j_a)))]))
      refine Go.by (fun t k => XS.iadd X175.here hx rfl (hb hby at_158) rfl k) ?_
      show Go p e below _ (T175.setTop (mkF m 159 #[.val (.int ia), .val (.int ib), .val (.int ic), .val (.int j_a), .val (.int j_b), .val (.int (3 : Int32)), .val (.ref b118), .val (.ref b122), .val (.ref b128), .val (.int (1 : Int32))] [(.int ((j_a + j_b) + j_a)), (.int (own_sz ((((8 : Int32) + j_a) + j_b) + j_a)))]))
      obtain ⟨_, _, ⟨T178, L178, k178, n178⟩, -, X178, ⟨Lc178, hQ178, l178, y178, z178⟩, st178⟩ := Jvm.LawKit.callS X175 hx (y := (⟨"com/example/whole_commit/wholecommit/BatchSizePinLaw", "expect", "(I)I"⟩ : MethodName)) hown (mvT hZ (hw _ (List.mem_of_getElem? (i := 72) rfl))) (mvT hZ (hw _ (List.mem_of_getElem? (i := 73) rfl))) (mvT hZ (hw _ (List.mem_of_getElem? (i := 74) rfl))) (mvT hZ (hw _ (List.mem_of_getElem? (i := 75) rfl))) (by decide) (backOf (W := 1) (expect l Z a0 hw [] ((j_a + j_b) + j_a) T168.heap n0 F176) hZ (hw _ (List.mem_of_getElem? (i := 75) rfl)) (hw _ (List.mem_of_getElem? (i := 74) rfl)) (by decide) (by decide)) (g := (mkF m 159 #[.val (.int ia), .val (.int ib), .val (.int ic), .val (.int j_a), .val (.int j_b), .val (.int (3 : Int32)), .val (.ref b118), .val (.ref b122), .val (.ref b128), .val (.int (1 : Int32))] [(.int ((j_a + j_b) + j_a)), (.int (own_sz ((((8 : Int32) + j_a) + j_b) + j_a)))])) rfl (by rw [hml]; rfl) (argsL := [(.int ((j_a + j_b) + j_a))]) (rest := [(.int (own_sz ((((8 : Int32) + j_a) + j_b) + j_a)))]) (lenOf pd_5 rfl) rfl (by show 2 * 0 + _ ≤ _; exact Nat.le_of_eq rfl) (hb hby at_159) (fun _ _ => ⟨rfl, e175, (by decide : 9 + 0 ≤ _), (by decide : 7524 + 0 ≤ _)⟩)
      dsimp only [Pt.U, Pt.locs, Pt.cells, Pt.slots] at X178 l178 y178 z178 st178 hQ178
      subst l178 y178 z178
      obtain ⟨rfl, N178q, e178⟩ := hQ178
      have N178 := Fr.app N175 N178q
      refine Go.by st178 ?_
      show Go p e below _ (T178.setTop (mkF m 162 #[.val (.int ia), .val (.int ib), .val (.int ic), .val (.int j_a), .val (.int j_b), .val (.int (3 : Int32)), .val (.ref b118), .val (.ref b122), .val (.ref b128), .val (.int (1 : Int32))] [(.int (own_ex ((j_a + j_b) + j_a))), (.int (own_sz ((((8 : Int32) + j_a) + j_b) + j_a)))]))
      refine Go.by (fun t k => XS.icmpNo X178.here hx rfl (hb hby at_162) rfl (teq (by rw [Int32.add_assoc, Int32.add_assoc, ← Int32.add_assoc j_a]; exact own_cmp _)).2 k) ?_
      show Go p e below _ (T178.setTop (mkF m 165 #[.val (.int ia), .val (.int ib), .val (.int ic), .val (.int j_a), .val (.int j_b), .val (.int (3 : Int32)), .val (.ref b118), .val (.ref b122), .val (.ref b128), .val (.int (1 : Int32))] []))
      refine Go.by (fun t k => XS.iconst X178.here hx rfl (hb hby at_165) k) ?_
      show Go p e below _ (T178.setTop (mkF m 166 #[.val (.int ia), .val (.int ib), .val (.int ic), .val (.int j_a), .val (.int j_b), .val (.int (3 : Int32)), .val (.ref b118), .val (.ref b122), .val (.ref b128), .val (.int (1 : Int32))] [(.int (1 : Int32))]))
      refine Go.by (fun t k => XS.goto X178.here hx rfl (pc0 := 166) (pc' := 170) rfl (hb hby at_166) (by decide) (by decide) k) ?_
      show Go p e below _ (T178.setTop (mkF m 170 #[.val (.int ia), .val (.int ib), .val (.int ic), .val (.int j_a), .val (.int j_b), .val (.int (3 : Int32)), .val (.ref b118), .val (.ref b122), .val (.ref b128), .val (.int (1 : Int32))] [(.int (1 : Int32))]))
      refine Go.by (fun t k => XS.istore X178.here hx rfl (hb hby at_170) rfl (l' := #[.val (.int ia), .val (.int ib), .val (.int ic), .val (.int j_a), .val (.int j_b), .val (.int (3 : Int32)), .val (.ref b118), .val (.ref b122), .val (.ref b128), .val (.int (1 : Int32))]) rfl k) ?_
      show Go p e below _ (T178.setTop (mkF m 172 #[.val (.int ia), .val (.int ib), .val (.int ic), .val (.int j_a), .val (.int j_b), .val (.int (3 : Int32)), .val (.ref b118), .val (.ref b122), .val (.ref b128), .val (.int (1 : Int32))] []))
      refine Go.by (fun t k => XS.iload X178.here hx rfl (hb hby at_172) rfl k) ?_
      show Go p e below _ (T178.setTop (mkF m 174 #[.val (.int ia), .val (.int ib), .val (.int ic), .val (.int j_a), .val (.int j_b), .val (.int (3 : Int32)), .val (.ref b118), .val (.ref b122), .val (.ref b128), .val (.int (1 : Int32))] [(.int (1 : Int32))]))
      have hq : Q_law Z ia ib ic em h0 n0 (some (.int (nar .boolean (1 : Int32)))) T168.heap _ := ⟨rfl, N178, F177⟩
      exact Go.retN X178 hx (t := .boolean) Bd.returns (by simp) hlk (hb hby at_174) (by decide) (by decide) (by rw [e178]; exact hq)
  exact J18 _ _ _ (own_mask _) (own_mask _) (own_mod4 _)
set_option maxRecDepth 65536 in
set_option maxHeartbeats 40000000 in
theorem comes_1 {Post : Tables → Env → Array Value → State → Outcome → State → Prop} (hpost : ∀ tb e args s v u, (limb_1_1.after args s (.returned v) u = true ∧ limb_1_2.after args s (.returned v) u = true ∧ True) → FrameEnd s (.returned v) u (Jvm.fieldLocs frame_1_writes args s ++ Jvm.arrayLocs frame_1_arrays args s ++ Jvm.staticLocs frame_1_statics s) 32 9984 → Post tb e args s (.returned v) u) :
    ArmFor flags0 classFile x code maxLocals ret World_1 tables_1 room_1 Calls_1 rest_1 Pre_1 Post := by
  intro l hfl _ _ p e ha hc hk s m args below hf hA hF happ hP
  obtain ⟨hcalls, hrest, hpre⟩ := hP
  obtain ⟨-, -, -, hnamed, -, -, -, hat⟩ := (Spec.applies_iff hf).mp happ
  obtain ⟨hg, hn⟩ := and_e (Cond.before_iff.mp (show (Jvm.Cond.and given_1 narrow_1).before args s = true from hpre))
  obtain ⟨hcnt, hr1⟩ := and_e hg
  obtain ⟨hv0, hr2⟩ := and_e hr1
  obtain ⟨hv1, hv2⟩ := and_e hr2
  obtain ⟨w0, w1, w2, rfl⟩ : ∃ w0 w1 w2 : Value, args = #[w0, w1, w2] := by
    have hs : args.size = 3 := by simpa [Cond.value, given_1] using hcnt
    obtain ⟨L⟩ := args
    match L, hs with
    | [w0, w1, w2], _ => exact ⟨w0, w1, w2, rfl⟩
  have hw := fun d (hd : d ∈ tables_1) => atoms_spec (ws := Jvm.Cond.code x code maxLocals ret :: tables_1) hat d (List.mem_cons_of_mem _ hd)
  have hfit : Fit s := fun {y c} hc i hi => by
    obtain ⟨ha, rfl⟩ := Array.getElem?_eq_some_iff.mp hc
    have q := List.all_eq_true.mp ((Array.all_eq_true_iff_forall_mem.mp hF) _ (Array.getElem_mem ha)) i (List.mem_range.mpr hi)
    simpa [Array.getElem?_eq_getElem hi] using q
  obtain ⟨i0, ei0⟩ := is_v hv0
  obtain rfl : w0 = (.int i0) := Option.some.inj ei0
  obtain ⟨i1, ei1⟩ := is_v hv1
  obtain rfl : w1 = (.int i1) := Option.some.inj ei1
  obtain ⟨i2, ei2⟩ := is_v hv2
  obtain rfl : w2 = (.int i2) := Option.some.inj ei2
  obtain ⟨hsets, hown0⟩ := atoms_of _ (rest_1_c_eq ▸ (show rest_1_c.before _ s = true from hrest))
  obtain ⟨em, hem⟩ := exa_v (Cond.before_iff.mp (hsets _ (List.mem_of_getElem? (i := 7) rfl)))
  have SE := Sta.start hem (Or.inr ⟨(hw _ (List.mem_of_getElem? (i := 12) rfl)), (hsets _ (List.mem_of_getElem? (i := 2) rfl))⟩)
  obtain ⟨n, o, h1, h2, h3, _, L, rfl, ⟨rfl, N, -⟩, hq⟩ := law l s _ hw tables_1 i0 i1 i2 em s.heap s.heap.size (Old.start s) SE p e ha hc hk s m _ below hf ((Spec.applies_iff_loose hf).mp happ).1 ⟨rfl, State.Warmed39.refl s, rfl⟩ trivial
  refine ⟨n, _, h1, h2, h3, hpost _ _ _ _ _ _ ⟨Cond.after_iff.mpr rfl, Cond.after_iff.mpr (eq_i res_at (Term.int_eval (1)) rfl), trivial⟩ ⟨hq.1, hq.2.1, (hq.2.2.sift fun y hy => Or.inr (N y hy)).mono (by decide) (by decide)⟩⟩
theorem main_1_1 : Claimed_1_1 := comes_1 fun _ _ _ _ _ _ h hF => ⟨h.1, hF⟩
theorem main_1_2 : Claimed_1_2 := comes_1 fun _ _ _ _ _ _ h hF => ⟨h.2.1, hF⟩
end Jvm.Pilot.@@N@@
namespace Jvm.Pilot.@@N@@
open Jvm Jvm.ClassFile Sem Op Lib Jvm.Free Jvm.Stand Jvm.Pilot.@@N@@.Jvm.D
/-! MADE BY PROGRAM (witnessworld.py) out of the Statement's table words and the real class files: 24 classes; the members and pool entries that the words name. The judged class is class 1, her method 2. -/
namespace start1
open Jvm.ClassFile
def u (s : String) : CpInfo := .utf8 (stringToUtf16 s)
/-- a pool by its gaps: so many unusable entries, then the entry; so many at the end -/
def gap : Nat → List CpInfo → List CpInfo
  | 0, r => r
  | n + 1, r => .unusable :: gap n r
def poolList (es : List (Nat × CpInfo)) (last : Nat) : List CpInfo := es.foldr (fun e r => gap e.1 (e.2 :: r)) (gap last [])
def pool (es : List (Nat × CpInfo)) (last : Nat) : Array CpInfo := ⟨poolList es last⟩
def fileOf (pool : Array CpInfo) (this : Nat) (attrs : Array Attribute := #[]) (ms : Array MethodInfo := #[]) (fl : Nat := 33) (sup : Nat := 0) (ifs : Array Nat := #[]) (fds : Array FieldInfo := #[]) : ClassFile where
  minorVersion := 0
  majorVersion := 65
  constantPool := pool
  accessFlags := fl
  thisClass := this
  superClass := sup
  interfaces := ifs
  fields := fds
  methods := ms
  attributes := attrs
def plain (name : String) (sup : Option ClassId) : Class where
  name := name
  kind := .ordinary
  loader := none
  accessFlags := 33
  super := sup
  interfaces := #[]
  cf := none
  fields := #[]
  methods := #[]
  instanceTypes := #[]
  staticTypes := #[]
  resolved := #[]
  callSites := []
  init := .initialized
  statics := none
  mirror := none

def pool0 : Array CpInfo := pool [(5, u "<init>"), (0, u "()V"), (1, .class_ 10), (1, u "java/lang/Object")] 113

def k0c0 : Code := { maxStack := 0, maxLocals := 1, code := object_method_1_code, exceptionTable := #[], attributes := #[] }
def k0m0 : Method := { name := "<init>", desc := "()V", sig := { parameters := [], returnType := none }, accessFlags := 1, code := some k0c0 }
/-- java/lang/Object -/
def k0 : Class := { plain "java/lang/Object" none with
  accessFlags := 33
  interfaces := #[]
  cf := some (fileOf pool0 8 #[] #[{ accessFlags := 1, nameIndex := 5, descriptorIndex := 6, attributes := #[] }] 33 0 #[] #[])
  fields := #[]
  methods := #[k0m0]
  instanceTypes := #[]
  staticTypes := #[]
  resolved := Array.replicate 124 none
  statics := none }

def pool1 : Array CpInfo := pool [(2, .class_ 4), (0, .nameAndType 5 6), (0, u "java/lang/Object"), (0, u "<init>"), (0, u "()V"), (0, .class_ 8), (0, u "com/example/whole_commit/wholecommit/Batch"), (0, .methodref 7 3), (0, .methodref 7 11), (0, .nameAndType 12 13), (0, u "size"), (0, u "()I"), (0, .methodref 7 15), (0, .nameAndType 16 17), (0, u "add"), (0, u "([B)V"), (0, .methodref 19 20), (0, .class_ 21), (0, .nameAndType 22 23), (0, u "com/example/whole_commit/wholecommit/BatchSizePinLaw"), (0, u "expect"), (0, u "(I)I"), (3, u "law"), (0, u "(III)Z")] 4

def k1m0 : Method := { name := "<init>", desc := "()V", sig := { parameters := [], returnType := none }, accessFlags := 1, code := none }
def k1c1 : Code := { maxStack := 2, maxLocals := 1, code := method_2_code, exceptionTable := #[], attributes := #[] }
def k1m1 : Method := { name := "expect", desc := "(I)I", sig := { parameters := [.int], returnType := some .int }, accessFlags := 10, code := some k1c1 }
def k1c2 : Code := { maxStack := 3, maxLocals := 10, code := code, exceptionTable := #[], attributes := #[] }
def k1m2 : Method := { name := "law", desc := "(III)Z", sig := { parameters := [.int, .int, .int], returnType := some .boolean }, accessFlags := 9, code := some k1c2 }
/-- com/example/whole_commit/wholecommit/BatchSizePinLaw -/
def k1 : Class := { plain "com/example/whole_commit/wholecommit/BatchSizePinLaw" (some 0) with
  accessFlags := 49
  interfaces := #[]
  cf := some (fileOf pool1 19 #[] #[{ accessFlags := 1, nameIndex := 5, descriptorIndex := 6, attributes := #[] }, { accessFlags := 10, nameIndex := 22, descriptorIndex := 23, attributes := #[] }, { accessFlags := 9, nameIndex := 27, descriptorIndex := 28, attributes := #[] }] 49 2 #[] #[])
  fields := #[]
  methods := #[k1m0, k1m1, k1m2]
  instanceTypes := #[]
  staticTypes := #[]
  resolved := Array.replicate 33 none
  statics := none }

def pool2 : Array CpInfo := pool [(1, .methodref 2 3), (0, .class_ 4), (0, .nameAndType 5 6), (0, u "java/lang/Object"), (0, u "<init>"), (0, u "()V"), (0, .class_ 8), (0, u "java/util/ArrayList"), (0, .methodref 7 3), (0, .fieldref 11 12), (0, .class_ 13), (0, .nameAndType 14 15), (0, u "com/example/whole_commit/wholecommit/Batch"), (0, u "waiting"), (0, u "Ljava/util/List;"), (0, .class_ 17), (0, u "java/util/HashMap"), (0, .methodref 16 3), (0, .fieldref 11 20), (0, .nameAndType 21 22), (0, u "decisions"), (0, u "Ljava/util/Map;"), (0, .fieldref 11 24), (0, .nameAndType 25 26), (0, u "bytes"), (0, u "[B"), (2, .fieldref 11 30), (0, .nameAndType 31 32), (0, u "size"), (0, u "I"), (2, u "add"), (0, u "([B)V"), (21, .methodref 59 60), (0, .class_ 61), (0, .nameAndType 62 63), (0, u "java/lang/Math"), (0, u "max"), (0, u "(II)I"), (0, .methodref 65 66), (0, .class_ 67), (0, .nameAndType 68 69), (0, u "java/util/Arrays"), (0, u "copyOf"), (0, u "([BI)[B"), (0, .methodref 71 72), (0, .class_ 73), (0, .nameAndType 74 75), (0, u "java/lang/System"), (0, u "arraycopy"), (0, u "(Ljava/lang/Object;ILjava/lang/Object;II)V"), (10, u "inDoubt"), (0, u "Z"), (2, u "()I"), (12, u "failure"), (0, u "Ljava/io/IOException;"), (2, u "complete")] 77

def k2c0 : Code := { maxStack := 3, maxLocals := 1, code := prog_1_method_1_code, exceptionTable := #[], attributes := #[] }
def k2m0 : Method := { name := "<init>", desc := "()V", sig := { parameters := [], returnType := none }, accessFlags := 0, code := some k2c0 }
def k2c1 : Code := { maxStack := 5, maxLocals := 2, code := prog_1_method_3_code, exceptionTable := #[], attributes := #[] }
def k2m1 : Method := { name := "add", desc := "([B)V", sig := { parameters := [(.array .byte)], returnType := none }, accessFlags := 0, code := some k2c1 }
def k2c2 : Code := { maxStack := 2, maxLocals := 1, code := prog_1_method_5_code, exceptionTable := #[], attributes := #[] }
def k2m2 : Method := { name := "size", desc := "()I", sig := { parameters := [], returnType := some .int }, accessFlags := 0, code := some k2c2 }
/-- com/example/whole_commit/wholecommit/Batch -/
def k2 : Class := { plain "com/example/whole_commit/wholecommit/Batch" (some 0) with
  accessFlags := 32
  interfaces := #[]
  cf := some (fileOf pool2 11 #[] #[{ accessFlags := 0, nameIndex := 5, descriptorIndex := 6, attributes := #[] }, { accessFlags := 0, nameIndex := 35, descriptorIndex := 36, attributes := #[] }, { accessFlags := 0, nameIndex := 31, descriptorIndex := 90, attributes := #[] }] 32 2 #[] #[{ accessFlags := 18, nameIndex := 14, descriptorIndex := 15, attributes := #[] }, { accessFlags := 18, nameIndex := 21, descriptorIndex := 22, attributes := #[] }, { accessFlags := 2, nameIndex := 25, descriptorIndex := 26, attributes := #[] }, { accessFlags := 2, nameIndex := 31, descriptorIndex := 32, attributes := #[] }, { accessFlags := 2, nameIndex := 86, descriptorIndex := 87, attributes := #[] }, { accessFlags := 66, nameIndex := 103, descriptorIndex := 104, attributes := #[] }, { accessFlags := 66, nameIndex := 107, descriptorIndex := 87, attributes := #[] }])
  fields := #[{ name := "waiting", type := (.object "java/util/List"), accessFlags := 18, slot := 0, constantValue := 0 }, { name := "decisions", type := (.object "java/util/Map"), accessFlags := 18, slot := 1, constantValue := 0 }, { name := "bytes", type := (.array .byte), accessFlags := 2, slot := 2, constantValue := 0 }, { name := "size", type := .int, accessFlags := 2, slot := 3, constantValue := 0 }, { name := "inDoubt", type := .boolean, accessFlags := 2, slot := 4, constantValue := 0 }, { name := "failure", type := (.object "java/io/IOException"), accessFlags := 66, slot := 5, constantValue := 0 }, { name := "complete", type := .boolean, accessFlags := 66, slot := 6, constantValue := 0 }]
  methods := #[k2m0, k2m1, k2m2]
  instanceTypes := #[(.object "java/util/List"), (.object "java/util/Map"), (.array .byte), .int, .boolean, (.object "java/io/IOException"), .boolean]
  staticTypes := #[]
  resolved := Array.replicate 185 none
  statics := none }

def pool3 : Array CpInfo := pool [(8, .class_ 10), (1, u "java/lang/Iterable"), (24, .class_ 36), (0, u "java/lang/Object")] 25

/-- java/lang/Iterable -/
def k3 : Class := { plain "java/lang/Iterable" (some 0) with
  accessFlags := 1537
  interfaces := #[]
  cf := some (fileOf pool3 8 #[] #[] 1537 35 #[] #[])
  fields := #[]
  methods := #[]
  instanceTypes := #[]
  staticTypes := #[]
  resolved := Array.replicate 62 none
  statics := none }

def pool4 : Array CpInfo := pool [(10, .class_ 12), (1, u "java/util/Collection"), (47, .class_ 61), (0, u "java/lang/Object"), (0, .class_ 63), (0, u "java/lang/Iterable")] 51

/-- java/util/Collection -/
def k4 : Class := { plain "java/util/Collection" (some 0) with
  accessFlags := 1537
  interfaces := #[3]
  cf := some (fileOf pool4 10 #[] #[] 1537 60 #[62] #[])
  fields := #[]
  methods := #[]
  instanceTypes := #[]
  staticTypes := #[]
  resolved := Array.replicate 115 none
  statics := none }

def pool5 : Array CpInfo := pool [(1, .methodref 2 3), (0, .class_ 4), (0, .nameAndType 5 6), (0, u "java/lang/Object"), (0, u "<init>"), (0, u "()V"), (1, .class_ 10), (1, u "java/util/AbstractCollection"), (66, .class_ 78), (0, u "java/util/Collection")] 81

def k5c0 : Code := { maxStack := 1, maxLocals := 1, code := jdk_22_method_1_code, exceptionTable := #[], attributes := #[] }
def k5m0 : Method := { name := "<init>", desc := "()V", sig := { parameters := [], returnType := none }, accessFlags := 4, code := some k5c0 }
/-- java/util/AbstractCollection -/
def k5 : Class := { plain "java/util/AbstractCollection" (some 0) with
  accessFlags := 1057
  interfaces := #[4]
  cf := some (fileOf pool5 8 #[] #[{ accessFlags := 4, nameIndex := 5, descriptorIndex := 6, attributes := #[] }] 1057 2 #[77] #[])
  fields := #[]
  methods := #[k5m0]
  instanceTypes := #[]
  staticTypes := #[]
  resolved := Array.replicate 160 none
  statics := none }

def pool6 : Array CpInfo := pool [(8, .class_ 10), (1, u "java/util/SequencedCollection"), (15, .class_ 27), (0, u "java/lang/Object"), (0, .class_ 29), (0, u "java/util/Collection")] 27

/-- java/util/SequencedCollection -/
def k6 : Class := { plain "java/util/SequencedCollection" (some 0) with
  accessFlags := 1537
  interfaces := #[4]
  cf := some (fileOf pool6 8 #[] #[] 1537 26 #[28] #[])
  fields := #[]
  methods := #[]
  instanceTypes := #[]
  staticTypes := #[]
  resolved := Array.replicate 57 none
  statics := none }

def pool7 : Array CpInfo := pool [(8, .class_ 10), (1, u "java/util/List"), (92, .class_ 104), (0, u "java/lang/Object"), (15, .class_ 121), (0, u "java/util/SequencedCollection")] 129

/-- java/util/List -/
def k7 : Class := { plain "java/util/List" (some 0) with
  accessFlags := 1537
  interfaces := #[6]
  cf := some (fileOf pool7 8 #[] #[] 1537 103 #[120] #[])
  fields := #[]
  methods := #[]
  instanceTypes := #[]
  staticTypes := #[]
  resolved := Array.replicate 251 none
  statics := none }

def pool8 : Array CpInfo := pool [(1, .methodref 2 3), (0, .class_ 4), (0, .nameAndType 5 6), (0, u "java/util/AbstractCollection"), (0, u "<init>"), (0, u "()V"), (0, .fieldref 8 9), (0, .class_ 10), (0, .nameAndType 11 12), (0, u "java/util/AbstractList"), (0, u "modCount"), (0, u "I"), (64, .class_ 78), (0, u "java/util/AbstractList$Itr"), (3, .class_ 83), (0, u "java/util/AbstractList$ListItr"), (9, .class_ 94), (0, u "java/util/AbstractList$RandomAccessSubList"), (3, .class_ 99), (0, u "java/util/AbstractList$SubList"), (33, .class_ 134), (0, u "java/util/List"), (73, .class_ 209), (0, u "java/util/AbstractList$SubList$1"), (0, .class_ 211), (0, u "java/util/AbstractList$RandomAccessSpliterator")] 6

def k8c0 : Code := { maxStack := 2, maxLocals := 1, code := jdk_39_method_1_code, exceptionTable := #[], attributes := #[] }
def k8m0 : Method := { name := "<init>", desc := "()V", sig := { parameters := [], returnType := none }, accessFlags := 4, code := some k8c0 }
/-- java/util/AbstractList -/
def k8 : Class := { plain "java/util/AbstractList" (some 5) with
  accessFlags := 1057
  interfaces := #[7]
  cf := some (fileOf pool8 8 #[.nestMembers #[93, 98, 208, 210, 82, 77]] #[{ accessFlags := 4, nameIndex := 5, descriptorIndex := 6, attributes := #[] }] 1057 2 #[133] #[{ accessFlags := 132, nameIndex := 11, descriptorIndex := 12, attributes := #[] }])
  fields := #[{ name := "modCount", type := .int, accessFlags := 132, slot := 0, constantValue := 0 }]
  methods := #[k8m0]
  instanceTypes := #[.int]
  staticTypes := #[]
  resolved := Array.replicate 218 none
  statics := none }

def pool9 : Array CpInfo := pool [(1, .class_ 2), (0, u "java/util/RandomAccess"), (0, .class_ 4), (0, u "java/lang/Object")] 2

/-- java/util/RandomAccess -/
def k9 : Class := { plain "java/util/RandomAccess" (some 0) with
  accessFlags := 1537
  interfaces := #[]
  cf := some (fileOf pool9 1 #[] #[] 1537 3 #[] #[])
  fields := #[]
  methods := #[]
  instanceTypes := #[]
  staticTypes := #[]
  resolved := Array.replicate 7 none
  statics := none }

def pool10 : Array CpInfo := pool [(1, .class_ 2), (0, u "java/lang/Cloneable"), (0, .class_ 4), (0, u "java/lang/Object")] 2

/-- java/lang/Cloneable -/
def k10 : Class := { plain "java/lang/Cloneable" (some 0) with
  accessFlags := 1537
  interfaces := #[]
  cf := some (fileOf pool10 1 #[] #[] 1537 3 #[] #[])
  fields := #[]
  methods := #[]
  instanceTypes := #[]
  staticTypes := #[]
  resolved := Array.replicate 7 none
  statics := none }

def pool11 : Array CpInfo := pool [(1, .class_ 2), (0, u "java/io/Serializable"), (0, .class_ 4), (0, u "java/lang/Object")] 2

/-- java/io/Serializable -/
def k11 : Class := { plain "java/io/Serializable" (some 0) with
  accessFlags := 1537
  interfaces := #[]
  cf := some (fileOf pool11 1 #[] #[] 1537 3 #[] #[])
  fields := #[]
  methods := #[]
  instanceTypes := #[]
  staticTypes := #[]
  resolved := Array.replicate 7 none
  statics := none }

def pool12 : Array CpInfo := pool [(1, .methodref 2 3), (0, .class_ 4), (0, .nameAndType 5 6), (0, u "java/util/AbstractList"), (0, u "<init>"), (0, u "()V"), (2, .fieldref 10 11), (0, .class_ 12), (0, .nameAndType 13 14), (0, u "java/util/ArrayList"), (0, u "elementData"), (0, u "[Ljava/lang/Object;"), (2, u "EMPTY_ELEMENTDATA"), (21, .fieldref 10 40), (0, .nameAndType 41 14), (0, u "DEFAULTCAPACITY_EMPTY_ELEMENTDATA"), (8, u "size"), (0, u "I"), (96, .class_ 149), (0, u "java/util/List"), (112, .class_ 263), (0, u "java/util/ArrayList$ListItr"), (3, .class_ 268), (0, u "java/util/ArrayList$Itr"), (7, .class_ 277), (0, u "java/util/ArrayList$SubList"), (12, .class_ 291), (0, u "java/util/ArrayList$ArrayListSpliterator"), (37, .class_ 330), (0, u "java/util/RandomAccess"), (0, .class_ 332), (0, u "java/lang/Cloneable"), (0, .class_ 334), (0, u "java/io/Serializable"), (0, u "serialVersionUID"), (0, u "J"), (3, u "DEFAULT_CAPACITY"), (159, .class_ 501), (0, u "java/util/ArrayList$SubList$2"), (0, .class_ 503), (0, u "java/util/ArrayList$SubList$1")] 5

def k12c0 : Code := { maxStack := 2, maxLocals := 1, code := jdk_38_method_2_code, exceptionTable := #[], attributes := #[] }
def k12m0 : Method := { name := "<init>", desc := "()V", sig := { parameters := [], returnType := none }, accessFlags := 1, code := some k12c0 }
/-- java/util/ArrayList -/
def k12 : Class := { plain "java/util/ArrayList" (some 8) with
  accessFlags := 33
  interfaces := #[7, 9, 10, 11]
  cf := some (fileOf pool12 10 #[.nestMembers #[290, 276, 500, 502, 262, 267]] #[{ accessFlags := 1, nameIndex := 5, descriptorIndex := 6, attributes := #[] }] 33 2 #[148, 329, 331, 333] #[{ accessFlags := 26, nameIndex := 335, descriptorIndex := 336, attributes := #[] }, { accessFlags := 26, nameIndex := 340, descriptorIndex := 51, attributes := #[] }, { accessFlags := 26, nameIndex := 17, descriptorIndex := 14, attributes := #[] }, { accessFlags := 26, nameIndex := 41, descriptorIndex := 14, attributes := #[] }, { accessFlags := 128, nameIndex := 13, descriptorIndex := 14, attributes := #[] }, { accessFlags := 2, nameIndex := 50, descriptorIndex := 51, attributes := #[] }])
  fields := #[{ name := "serialVersionUID", type := .long, accessFlags := 26, slot := 0, constantValue := 0 }, { name := "DEFAULT_CAPACITY", type := .int, accessFlags := 26, slot := 1, constantValue := 0 }, { name := "EMPTY_ELEMENTDATA", type := (.array (.object "java/lang/Object")), accessFlags := 26, slot := 2, constantValue := 0 }, { name := "DEFAULTCAPACITY_EMPTY_ELEMENTDATA", type := (.array (.object "java/lang/Object")), accessFlags := 26, slot := 3, constantValue := 0 }, { name := "elementData", type := (.array (.object "java/lang/Object")), accessFlags := 128, slot := 1, constantValue := 0 }, { name := "size", type := .int, accessFlags := 2, slot := 2, constantValue := 0 }]
  methods := #[k12m0]
  instanceTypes := #[.int, (.array (.object "java/lang/Object")), .int]
  staticTypes := #[.long, .int, (.array (.object "java/lang/Object")), (.array (.object "java/lang/Object"))]
  resolved := Array.replicate 509 none
  statics := some 0 }

def pool13 : Array CpInfo := pool [(2, .class_ 4), (1, u "java/util/Map"), (31, .class_ 37), (0, u "java/util/Map$Entry"), (55, .class_ 94), (0, u "java/lang/Object")] 168

/-- java/util/Map -/
def k13 : Class := { plain "java/util/Map" (some 0) with
  accessFlags := 1537
  interfaces := #[]
  cf := some (fileOf pool13 2 #[.nestMembers #[36]] #[] 1537 93 #[] #[])
  fields := #[]
  methods := #[]
  instanceTypes := #[]
  staticTypes := #[]
  resolved := Array.replicate 263 none
  statics := none }

def pool14 : Array CpInfo := pool [(1, .methodref 2 3), (0, .class_ 4), (0, .nameAndType 5 6), (0, u "java/lang/Object"), (0, u "<init>"), (0, u "()V"), (1, .class_ 10), (1, u "java/util/AbstractMap"), (42, .class_ 54), (0, u "java/util/Map"), (9, u "keySet"), (0, u "Ljava/util/Set;"), (0, .class_ 67), (0, u "java/util/AbstractMap$1"), (5, u "values"), (0, u "Ljava/util/Collection;"), (0, .class_ 76), (0, u "java/util/AbstractMap$2"), (104, .class_ 182), (0, u "java/util/AbstractMap$ViewCollection"), (0, .class_ 184), (0, u "java/util/AbstractMap$SimpleImmutableEntry"), (0, .class_ 186), (0, u "java/util/AbstractMap$SimpleEntry"), (0, .class_ 188), (0, u "java/util/AbstractMap$2$1"), (0, .class_ 190), (0, u "java/util/AbstractMap$1$1")] 5

def k14c0 : Code := { maxStack := 1, maxLocals := 1, code := jdk_71_method_1_code, exceptionTable := #[], attributes := #[] }
def k14m0 : Method := { name := "<init>", desc := "()V", sig := { parameters := [], returnType := none }, accessFlags := 4, code := some k14c0 }
/-- java/util/AbstractMap -/
def k14 : Class := { plain "java/util/AbstractMap" (some 0) with
  accessFlags := 1057
  interfaces := #[13]
  cf := some (fileOf pool14 8 #[.nestMembers #[181, 183, 185, 75, 187, 66, 189]] #[{ accessFlags := 4, nameIndex := 5, descriptorIndex := 6, attributes := #[] }] 1057 2 #[53] #[{ accessFlags := 128, nameIndex := 64, descriptorIndex := 65, attributes := #[] }, { accessFlags := 128, nameIndex := 73, descriptorIndex := 74, attributes := #[] }])
  fields := #[{ name := "keySet", type := (.object "java/util/Set"), accessFlags := 128, slot := 0, constantValue := 0 }, { name := "values", type := (.object "java/util/Collection"), accessFlags := 128, slot := 1, constantValue := 0 }]
  methods := #[k14m0]
  instanceTypes := #[(.object "java/util/Set"), (.object "java/util/Collection")]
  staticTypes := #[]
  resolved := Array.replicate 196 none
  statics := none }

def pool15 : Array CpInfo := pool [(40, .class_ 41), (0, u "java/util/HashMap"), (1, .methodref 44 45), (0, .class_ 46), (0, .nameAndType 47 48), (0, u "java/util/AbstractMap"), (0, u "<init>"), (0, u "()V"), (32, .fieldref 40 82), (0, .nameAndType 83 84), (0, u "loadFactor"), (0, u "F"), (5, u "threshold"), (0, u "I"), (0, .float 1061158912), (8, .class_ 103), (1, u "java/util/Map"), (0, u "size"), (2, u "table"), (0, u "[Ljava/util/HashMap$Node;"), (14, u "entrySet"), (39, .class_ 165), (1, u "java/util/HashMap$Node"), (14, .class_ 181), (0, u "java/util/HashMap$TreeNode"), (22, u "modCount"), (37, u "Ljava/util/Set;"), (0, .class_ 244), (0, u "java/util/HashMap$KeySet"), (18, .class_ 264), (0, u "java/util/HashMap$Values"), (3, .class_ 269), (0, u "java/util/HashMap$EntrySet"), (76, .class_ 348), (1, u "java/util/HashMap$UnsafeHolder"), (43, .class_ 393), (0, u "java/lang/Cloneable"), (0, .class_ 395), (0, u "java/io/Serializable"), (0, u "serialVersionUID"), (0, u "J"), (3, u "DEFAULT_INITIAL_CAPACITY"), (1, u "MAXIMUM_CAPACITY"), (0, u "DEFAULT_LOAD_FACTOR"), (0, u "TREEIFY_THRESHOLD"), (1, u "UNTREEIFY_THRESHOLD"), (1, u "MIN_TREEIFY_CAPACITY"), (186, .class_ 597), (0, u "java/util/HashMap$EntrySpliterator"), (0, .class_ 599), (0, u "java/util/HashMap$ValueSpliterator"), (0, .class_ 601), (0, u "java/util/HashMap$KeySpliterator"), (0, .class_ 603), (0, u "java/util/HashMap$HashMapSpliterator"), (0, .class_ 605), (0, u "java/util/HashMap$EntryIterator"), (0, .class_ 607), (0, u "java/util/HashMap$ValueIterator"), (0, .class_ 609), (0, u "java/util/HashMap$KeyIterator"), (0, .class_ 611), (0, u "java/util/HashMap$HashIterator")] 17

def k15c0 : Code := { maxStack := 2, maxLocals := 1, code := jdk_69_method_7_code, exceptionTable := #[], attributes := #[] }
def k15m0 : Method := { name := "<init>", desc := "()V", sig := { parameters := [], returnType := none }, accessFlags := 1, code := some k15c0 }
/-- java/util/HashMap -/
def k15 : Class := { plain "java/util/HashMap" (some 14) with
  accessFlags := 33
  interfaces := #[13, 10, 11]
  cf := some (fileOf pool15 40 #[.nestMembers #[180, 596, 598, 600, 602, 604, 606, 608, 610, 346, 268, 263, 243, 163]] #[{ accessFlags := 1, nameIndex := 47, descriptorIndex := 48, attributes := #[] }] 33 44 #[101, 392, 394] #[{ accessFlags := 26, nameIndex := 396, descriptorIndex := 397, attributes := #[] }, { accessFlags := 24, nameIndex := 401, descriptorIndex := 91, attributes := #[] }, { accessFlags := 24, nameIndex := 403, descriptorIndex := 91, attributes := #[] }, { accessFlags := 24, nameIndex := 404, descriptorIndex := 84, attributes := #[] }, { accessFlags := 24, nameIndex := 405, descriptorIndex := 91, attributes := #[] }, { accessFlags := 24, nameIndex := 407, descriptorIndex := 91, attributes := #[] }, { accessFlags := 24, nameIndex := 409, descriptorIndex := 91, attributes := #[] }, { accessFlags := 128, nameIndex := 107, descriptorIndex := 108, attributes := #[] }, { accessFlags := 128, nameIndex := 123, descriptorIndex := 242, attributes := #[] }, { accessFlags := 128, nameIndex := 104, descriptorIndex := 91, attributes := #[] }, { accessFlags := 128, nameIndex := 204, descriptorIndex := 91, attributes := #[] }, { accessFlags := 0, nameIndex := 90, descriptorIndex := 91, attributes := #[] }, { accessFlags := 16, nameIndex := 83, descriptorIndex := 84, attributes := #[] }])
  fields := #[{ name := "serialVersionUID", type := .long, accessFlags := 26, slot := 0, constantValue := 0 }, { name := "DEFAULT_INITIAL_CAPACITY", type := .int, accessFlags := 24, slot := 1, constantValue := 0 }, { name := "MAXIMUM_CAPACITY", type := .int, accessFlags := 24, slot := 2, constantValue := 0 }, { name := "DEFAULT_LOAD_FACTOR", type := .float, accessFlags := 24, slot := 3, constantValue := 0 }, { name := "TREEIFY_THRESHOLD", type := .int, accessFlags := 24, slot := 4, constantValue := 0 }, { name := "UNTREEIFY_THRESHOLD", type := .int, accessFlags := 24, slot := 5, constantValue := 0 }, { name := "MIN_TREEIFY_CAPACITY", type := .int, accessFlags := 24, slot := 6, constantValue := 0 }, { name := "table", type := (.array (.object "java/util/HashMap$Node")), accessFlags := 128, slot := 2, constantValue := 0 }, { name := "entrySet", type := (.object "java/util/Set"), accessFlags := 128, slot := 3, constantValue := 0 }, { name := "size", type := .int, accessFlags := 128, slot := 4, constantValue := 0 }, { name := "modCount", type := .int, accessFlags := 128, slot := 5, constantValue := 0 }, { name := "threshold", type := .int, accessFlags := 0, slot := 6, constantValue := 0 }, { name := "loadFactor", type := .float, accessFlags := 16, slot := 7, constantValue := 0 }]
  methods := #[k15m0]
  instanceTypes := #[(.object "java/util/Set"), (.object "java/util/Collection"), (.array (.object "java/util/HashMap$Node")), (.object "java/util/Set"), .int, .int, .int, .float]
  staticTypes := #[.long, .int, .int, .float, .int, .int, .int]
  resolved := Array.replicate 629 none
  statics := none }

def pool16 : Array CpInfo := pool [(2, .class_ 4), (1, u "java/lang/Object"), (0, u "<init>"), (0, u "()V"), (1, .class_ 10), (1, u "java/lang/System"), (0, u "allowSecurityManager"), (0, u "I"), (16, u "cons"), (0, u "Ljava/io/Console;"), (77, .class_ 110), (1, u "java/lang/System$CallersHolder"), (43, u "initialErrStream"), (0, u "Ljava/io/PrintStream;"), (19, u "security"), (0, u "Ljava/lang/SecurityManager;"), (31, .class_ 209), (0, u "java/lang/System$1"), (7, u "props"), (0, u "Ljava/util/Properties;"), (2, u "lineSeparator"), (0, u "Ljava/lang/String;"), (96, .class_ 321), (1, u "java/lang/System$LoggerFinder"), (5, .class_ 328), (0, u "java/lang/System$Logger"), (67, u "err"), (2, u "out"), (91, u "notSupportedJnuEncoding"), (15, u "in"), (17, u "initialIn"), (0, u "Ljava/io/InputStream;"), (35, u "bootLayer"), (0, u "Ljava/lang/ModuleLayer;"), (99, .class_ 664), (0, u "java/lang/System$2"), (9, u "NEVER"), (2, u "MAYBE"), (49, u "arraycopy"), (0, u "(Ljava/lang/Object;ILjava/lang/Object;II)V"), (72, .class_ 802), (0, u "java/lang/System$Logger$Level")] 31

def k16m0 : Method := { name := "<init>", desc := "()V", sig := { parameters := [], returnType := none }, accessFlags := 2, code := none }
def k16m1 : Method := { name := "arraycopy", desc := "(Ljava/lang/Object;ILjava/lang/Object;II)V", sig := { parameters := [(.object "java/lang/Object"), .int, (.object "java/lang/Object"), .int, .int], returnType := none }, accessFlags := 265, code := none }
/-- java/lang/System -/
def k16 : Class := { plain "java/lang/System" (some 0) with
  accessFlags := 49
  interfaces := #[]
  cf := some (fileOf pool16 8 #[.nestMembers #[319, 327, 801, 108, 663, 208]] #[{ accessFlags := 2, nameIndex := 5, descriptorIndex := 6, attributes := #[] }, { accessFlags := 265, nameIndex := 727, descriptorIndex := 728, attributes := #[] }] 49 2 #[] #[{ accessFlags := 25, nameIndex := 507, descriptorIndex := 526, attributes := #[] }, { accessFlags := 25, nameIndex := 399, descriptorIndex := 155, attributes := #[] }, { accessFlags := 25, nameIndex := 396, descriptorIndex := 155, attributes := #[] }, { accessFlags := 10, nameIndex := 525, descriptorIndex := 526, attributes := #[] }, { accessFlags := 26, nameIndex := 674, descriptorIndex := 12, attributes := #[] }, { accessFlags := 26, nameIndex := 677, descriptorIndex := 12, attributes := #[] }, { accessFlags := 10, nameIndex := 11, descriptorIndex := 12, attributes := #[] }, { accessFlags := 74, nameIndex := 175, descriptorIndex := 176, attributes := #[] }, { accessFlags := 10, nameIndex := 491, descriptorIndex := 222, attributes := #[] }, { accessFlags := 74, nameIndex := 29, descriptorIndex := 30, attributes := #[] }, { accessFlags := 74, nameIndex := 154, descriptorIndex := 155, attributes := #[] }, { accessFlags := 10, nameIndex := 217, descriptorIndex := 218, attributes := #[] }, { accessFlags := 10, nameIndex := 221, descriptorIndex := 222, attributes := #[] }, { accessFlags := 8, nameIndex := 562, descriptorIndex := 563, attributes := #[] }])
  fields := #[{ name := "in", type := (.object "java/io/InputStream"), accessFlags := 25, slot := 0, constantValue := 0 }, { name := "out", type := (.object "java/io/PrintStream"), accessFlags := 25, slot := 1, constantValue := 0 }, { name := "err", type := (.object "java/io/PrintStream"), accessFlags := 25, slot := 2, constantValue := 0 }, { name := "initialIn", type := (.object "java/io/InputStream"), accessFlags := 10, slot := 3, constantValue := 0 }, { name := "NEVER", type := .int, accessFlags := 26, slot := 4, constantValue := 0 }, { name := "MAYBE", type := .int, accessFlags := 26, slot := 5, constantValue := 0 }, { name := "allowSecurityManager", type := .int, accessFlags := 10, slot := 6, constantValue := 0 }, { name := "security", type := (.object "java/lang/SecurityManager"), accessFlags := 74, slot := 7, constantValue := 0 }, { name := "notSupportedJnuEncoding", type := (.object "java/lang/String"), accessFlags := 10, slot := 8, constantValue := 0 }, { name := "cons", type := (.object "java/io/Console"), accessFlags := 74, slot := 9, constantValue := 0 }, { name := "initialErrStream", type := (.object "java/io/PrintStream"), accessFlags := 74, slot := 10, constantValue := 0 }, { name := "props", type := (.object "java/util/Properties"), accessFlags := 10, slot := 11, constantValue := 0 }, { name := "lineSeparator", type := (.object "java/lang/String"), accessFlags := 10, slot := 12, constantValue := 0 }, { name := "bootLayer", type := (.object "java/lang/ModuleLayer"), accessFlags := 8, slot := 13, constantValue := 0 }]
  methods := #[k16m0, k16m1]
  instanceTypes := #[]
  staticTypes := #[(.object "java/io/InputStream"), (.object "java/io/PrintStream"), (.object "java/io/PrintStream"), (.object "java/io/InputStream"), .int, .int, .int, (.object "java/lang/SecurityManager"), (.object "java/lang/String"), (.object "java/io/Console"), (.object "java/io/PrintStream"), (.object "java/util/Properties"), (.object "java/lang/String"), (.object "java/lang/ModuleLayer")]
  resolved := Array.replicate 834 none
  statics := none }

def pool17 : Array CpInfo := pool [(1, .class_ 2), (0, u "java/lang/Math"), (1, .class_ 6), (1, u "java/lang/Object"), (0, u "<init>"), (0, u "()V"), (89, .class_ 100), (1, u "java/lang/Math$RandomNumberGeneratorHolder"), (71, u "negativeZeroFloatBits"), (0, u "J"), (2, u "negativeZeroDoubleBits"), (21, u "max"), (2, u "min"), (43, u "$assertionsDisabled"), (0, u "Z"), (88, u "(II)I"), (2, u "twoToTheDoubleScaleDown"), (0, u "D"), (4, u "twoToTheDoubleScaleUp"), (9, u "E"), (3, u "PI"), (2, u "TAU"), (2, u "DEGREES_TO_RADIANS"), (0, u "RADIANS_TO_DEGREES")] 94

def k17m0 : Method := { name := "<init>", desc := "()V", sig := { parameters := [], returnType := none }, accessFlags := 2, code := none }
def k17c1 : Code := { maxStack := 2, maxLocals := 2, code := jdk_29_method_65_code, exceptionTable := #[], attributes := #[] }
def k17m1 : Method := { name := "max", desc := "(II)I", sig := { parameters := [.int, .int], returnType := some .int }, accessFlags := 9, code := some k17c1 }
def k17c2 : Code := { maxStack := 2, maxLocals := 2, code := jdk_29_method_69_code, exceptionTable := #[], attributes := #[] }
def k17m2 : Method := { name := "min", desc := "(II)I", sig := { parameters := [.int, .int], returnType := some .int }, accessFlags := 9, code := some k17c2 }
/-- java/lang/Math -/
def k17 : Class := { plain "java/lang/Math" (some 0) with
  accessFlags := 49
  interfaces := #[]
  cf := some (fileOf pool17 1 #[.nestMembers #[98]] #[{ accessFlags := 2, nameIndex := 7, descriptorIndex := 8, attributes := #[] }, { accessFlags := 9, nameIndex := 198, descriptorIndex := 335, attributes := #[] }, { accessFlags := 9, nameIndex := 201, descriptorIndex := 335, attributes := #[] }] 49 4 #[] #[{ accessFlags := 25, nameIndex := 354, descriptorIndex := 339, attributes := #[] }, { accessFlags := 25, nameIndex := 358, descriptorIndex := 339, attributes := #[] }, { accessFlags := 25, nameIndex := 361, descriptorIndex := 339, attributes := #[] }, { accessFlags := 26, nameIndex := 364, descriptorIndex := 339, attributes := #[] }, { accessFlags := 26, nameIndex := 365, descriptorIndex := 339, attributes := #[] }, { accessFlags := 26, nameIndex := 172, descriptorIndex := 173, attributes := #[] }, { accessFlags := 26, nameIndex := 176, descriptorIndex := 173, attributes := #[] }, { accessFlags := 8, nameIndex := 344, descriptorIndex := 339, attributes := #[] }, { accessFlags := 8, nameIndex := 338, descriptorIndex := 339, attributes := #[] }, { accessFlags := 4120, nameIndex := 245, descriptorIndex := 246, attributes := #[] }])
  fields := #[{ name := "E", type := .double, accessFlags := 25, slot := 0, constantValue := 0 }, { name := "PI", type := .double, accessFlags := 25, slot := 1, constantValue := 0 }, { name := "TAU", type := .double, accessFlags := 25, slot := 2, constantValue := 0 }, { name := "DEGREES_TO_RADIANS", type := .double, accessFlags := 26, slot := 3, constantValue := 0 }, { name := "RADIANS_TO_DEGREES", type := .double, accessFlags := 26, slot := 4, constantValue := 0 }, { name := "negativeZeroFloatBits", type := .long, accessFlags := 26, slot := 5, constantValue := 0 }, { name := "negativeZeroDoubleBits", type := .long, accessFlags := 26, slot := 6, constantValue := 0 }, { name := "twoToTheDoubleScaleUp", type := .double, accessFlags := 8, slot := 7, constantValue := 0 }, { name := "twoToTheDoubleScaleDown", type := .double, accessFlags := 8, slot := 8, constantValue := 0 }, { name := "$assertionsDisabled", type := .boolean, accessFlags := 4120, slot := 9, constantValue := 0 }]
  methods := #[k17m0, k17m1, k17m2]
  instanceTypes := #[]
  staticTypes := #[.double, .double, .double, .double, .double, .long, .long, .double, .double, .boolean]
  resolved := Array.replicate 460 none
  statics := none }

def pool18 : Array CpInfo := pool [(2, .class_ 4), (1, u "java/lang/Object"), (0, u "<init>"), (0, u "()V"), (7, .class_ 16), (1, u "java/util/Arrays"), (57, .class_ 76), (1, u "java/util/Arrays$NaturalOrder"), (36, .class_ 115), (1, u "java/util/Arrays$LegacyMergeSort"), (1, u "Z"), (32, .methodref 151 152), (0, .class_ 153), (0, .nameAndType 154 155), (0, u "java/lang/System"), (0, u "arraycopy"), (0, u "(Ljava/lang/Object;ILjava/lang/Object;II)V"), (146, u "copyOf"), (1, .methodref 305 306), (0, .class_ 307), (0, .nameAndType 308 309), (0, u "java/lang/Math"), (0, u "min"), (0, u "(II)I"), (65, .class_ 376), (0, u "java/util/Arrays$ArrayList"), (68, u "$assertionsDisabled"), (269, u "MIN_ARRAY_SORT_GRAN"), (0, u "I"), (2, u "INSERTIONSORT_THRESHOLD"), (149, u "([BI)[B"), (105, .class_ 976), (0, u "java/util/Arrays$ArrayItr")] 52

def k18m0 : Method := { name := "<init>", desc := "()V", sig := { parameters := [], returnType := none }, accessFlags := 2, code := none }
def k18c1 : Code := { maxStack := 6, maxLocals := 3, code := jdk_65_method_121_code, exceptionTable := #[], attributes := #[] }
def k18m1 : Method := { name := "copyOf", desc := "([BI)[B", sig := { parameters := [(.array .byte), .int], returnType := some (.array .byte) }, accessFlags := 9, code := some k18c1 }
/-- java/util/Arrays -/
def k18 : Class := { plain "java/util/Arrays" (some 0) with
  accessFlags := 49
  interfaces := #[]
  cf := some (fileOf pool18 14 #[.nestMembers #[975, 375, 113, 74]] #[{ accessFlags := 2, nameIndex := 5, descriptorIndex := 6, attributes := #[] }, { accessFlags := 9, nameIndex := 302, descriptorIndex := 869, attributes := #[] }] 49 2 #[] #[{ accessFlags := 26, nameIndex := 715, descriptorIndex := 716, attributes := #[] }, { accessFlags := 26, nameIndex := 719, descriptorIndex := 716, attributes := #[] }, { accessFlags := 4120, nameIndex := 445, descriptorIndex := 117, attributes := #[] }])
  fields := #[{ name := "MIN_ARRAY_SORT_GRAN", type := .int, accessFlags := 26, slot := 0, constantValue := 0 }, { name := "INSERTIONSORT_THRESHOLD", type := .int, accessFlags := 26, slot := 1, constantValue := 0 }, { name := "$assertionsDisabled", type := .boolean, accessFlags := 4120, slot := 2, constantValue := 0 }]
  methods := #[k18m0, k18m1]
  instanceTypes := #[]
  staticTypes := #[.int, .int, .boolean]
  resolved := Array.replicate 1029 none
  statics := none }

/-- the primitive byte -/
def k19 : Class := { plain "byte" none with kind := .primitive 'B', accessFlags := 0x411 }
/-- [B -/
def k20 : Class := { plain "[B" (some 0) with kind := .array 19 .byte, interfaces := #[10, 11], accessFlags := 1041 }

/-- the primitive int -/
def k21 : Class := { plain "int" none with kind := .primitive 'I', accessFlags := 0x411 }
/-- [I -/
def k22 : Class := { plain "[I" (some 0) with kind := .array 21 .int, interfaces := #[10, 11], accessFlags := 1041 }

/-- [Ljava/lang/Object; -/
def k23 : Class := { plain "[Ljava/lang/Object;" (some 0) with kind := .array 0 (.object "java/lang/Object"), interfaces := #[10, 11], accessFlags := 1041 }

def heap : Heap := #[{ cls := 12, slots := #[.long 0, .int 0, .ref 1, .ref 2], vm := .statics 12 },
  { cls := 23, slots := #[], vm := .none },
  { cls := 23, slots := #[], vm := .none }]
def classes : Array Class := #[k0, k1, k2, k3, k4, k5, k6, k7, k8, k9, k10, k11, k12, k13, k14, k15, k16, k17, k18, k19, k20, k21, k22, k23]
def interned : List (Array UInt16 × Addr) := []
def slotsUsed : Nat := 4
def theMethod : MethodId := ⟨1, 2⟩
def args0 : Array Value := #[.int 5, .int 6, .int 3]
def aboutOver (below : List Frame) : State where
  vm := { classes := classes, interned := interned.toArray }
  heap := heap
  slotsUsed := slotsUsed
  threads := #[{ frames := .invoking theMethod args0 :: below }]
def below0 : List Frame := [.native { method := ⟨0, 0⟩, args := #[] }]
def about1 : State := aboutOver below0
def p0 : Program := .bare "" "" ""
def e0 : Env := launch0.env 0 0 0
theorem w_frames : about1.frames = Frame.invoking theMethod args0 :: below0 := rfl
set_option maxRecDepth 65536 in
theorem w_args : argsFit about1.vm theMethod args0 = true := by decide +kernel
set_option maxRecDepth 65536 in
theorem w_heap : heapFits about1 = true := by decide +kernel
set_option maxRecDepth 65536 in
theorem w_runnable : about1.curStatus? = some .runnable := by decide +kernel
set_option maxRecDepth 65536 in
theorem w_alone : about1.alone = true := by decide +kernel
set_option maxRecDepth 65536 in
theorem w_named : about1.methodNamed? x = some theMethod := by decide +kernel
set_option maxRecDepth 65536 in
theorem w_hears : about1.hears theMethod below0 = true := by decide +kernel
set_option maxRecDepth 65536 in
theorem w_ripe : about1.ripe theMethod args0 below0 = true := by decide +kernel
theorem w_running : about1.status = .running := rfl
set_option maxRecDepth 65536 in
theorem w_room : about1.hasRoom e0.platform room_1 = true :=
  launch0.hasRoom_least _ room_1 (by decide +kernel) (by decide +kernel) (by decide +kernel) (by decide +kernel) (by decide +kernel) (by decide +kernel)
theorem allAtoms_all (ts : List Jvm.Cond) (a : Array Jvm.Value) (st : Jvm.State) : (allAtoms ts).before a st = ts.all (fun c => c.before a st) := by
  induction ts with
  | nil => rfl
  | cons c t ih =>
    show (Jvm.Cond.and c (allAtoms t)).before a st = _
    rw [Jvm.Cond.before_and, ih, List.all_cons]
def words1 : List Jvm.Cond := Jvm.Cond.code x code maxLocals ret :: tables_1
/-- a 'code' word, met by the world's own term for the bytes: nothing is compared byte by byte -/
theorem code_word {y : MethodName} {bytes : ByteArray} {mx : Nat} {rt : Option FieldType} {a : Array Value} {s : State} {m : MethodId} {meth : Method} {c : Code} (h1 : s.methodNamed? y = some m) (h2 : s.vm.method? m = some meth) (h3 : meth.code = some c) (h4 : c.code = bytes)
    (h5 : (c.maxLocals == mx && c.exceptionTable.isEmpty && decide (c.maxStack ≤ mostOperands) && decide (meth.sig.returnType = rt) && !meth.locks && decide (parseMethodDescriptor y.desc = some meth.sig)) = true) : (Jvm.Cond.code y bytes mx rt).before a s = true := by
  simp only [Bool.and_eq_true, beq_iff_eq, Bool.not_eq_true', decide_eq_true_eq] at h5
  obtain ⟨⟨⟨⟨⟨g1, g2⟩, g3⟩, g4⟩, g5⟩, g6⟩ := h5
  simp [Cond.before, Cond.holds, Cond.value, h1, h2, h3, h4, g1, g2, g3, g4, g5, g6]
def isCode : Jvm.Cond → Bool
  | .code _ _ _ _ => true
  | _ => false
theorem all_split {L : List Jvm.Cond} {P : Jvm.Cond → Bool} (h1 : L.all (fun c => isCode c || P c) = true) (h2 : ∀ c ∈ L.filter isCode, P c = true) : L.all P = true := by
  refine List.all_eq_true.mpr fun c hc => ?_
  have h := List.all_eq_true.mp h1 c hc
  rcases Bool.eq_false_or_eq_true (isCode c) with hi | hi
  · exact h2 c (List.mem_filter.mpr ⟨hc, hi⟩)
  · simpa [hi] using h
set_option maxRecDepth 65536 in
theorem w_c0 : (Jvm.Cond.code x code maxLocals ret).before args0 about1 = true := code_word (m := ⟨1, 2⟩) (meth := k1m2) (c := k1c2) (by decide +kernel) rfl rfl rfl (by decide +kernel)
set_option maxRecDepth 65536 in
theorem w_c1 : (Jvm.Cond.code ({ cls := "com/example/whole_commit/wholecommit/Batch", name := "<init>", desc := "()V" } : Jvm.MethodName) prog_1_method_1_code (1 : Nat) (Option.none : Option Jvm.ClassFile.FieldType)).before args0 about1 = true := code_word (m := ⟨2, 0⟩) (meth := k2m0) (c := k2c0) (by decide +kernel) rfl rfl rfl (by decide +kernel)
set_option maxRecDepth 65536 in
theorem w_c2 : (Jvm.Cond.code ({ cls := "java/lang/Object", name := "<init>", desc := "()V" } : Jvm.MethodName) object_method_1_code (1 : Nat) (Option.none : Option Jvm.ClassFile.FieldType)).before args0 about1 = true := code_word (m := ⟨0, 0⟩) (meth := k0m0) (c := k0c0) (by decide +kernel) rfl rfl rfl (by decide +kernel)
set_option maxRecDepth 65536 in
theorem w_c3 : (Jvm.Cond.code ({ cls := "java/util/ArrayList", name := "<init>", desc := "()V" } : Jvm.MethodName) jdk_38_method_2_code (1 : Nat) (Option.none : Option Jvm.ClassFile.FieldType)).before args0 about1 = true := code_word (m := ⟨12, 0⟩) (meth := k12m0) (c := k12c0) (by decide +kernel) rfl rfl rfl (by decide +kernel)
set_option maxRecDepth 65536 in
theorem w_c4 : (Jvm.Cond.code ({ cls := "java/util/AbstractList", name := "<init>", desc := "()V" } : Jvm.MethodName) jdk_39_method_1_code (1 : Nat) (Option.none : Option Jvm.ClassFile.FieldType)).before args0 about1 = true := code_word (m := ⟨8, 0⟩) (meth := k8m0) (c := k8c0) (by decide +kernel) rfl rfl rfl (by decide +kernel)
set_option maxRecDepth 65536 in
theorem w_c5 : (Jvm.Cond.code ({ cls := "java/util/AbstractCollection", name := "<init>", desc := "()V" } : Jvm.MethodName) jdk_22_method_1_code (1 : Nat) (Option.none : Option Jvm.ClassFile.FieldType)).before args0 about1 = true := code_word (m := ⟨5, 0⟩) (meth := k5m0) (c := k5c0) (by decide +kernel) rfl rfl rfl (by decide +kernel)
set_option maxRecDepth 65536 in
theorem w_c6 : (Jvm.Cond.code ({ cls := "java/util/HashMap", name := "<init>", desc := "()V" } : Jvm.MethodName) jdk_69_method_7_code (1 : Nat) (Option.none : Option Jvm.ClassFile.FieldType)).before args0 about1 = true := code_word (m := ⟨15, 0⟩) (meth := k15m0) (c := k15c0) (by decide +kernel) rfl rfl rfl (by decide +kernel)
set_option maxRecDepth 65536 in
theorem w_c7 : (Jvm.Cond.code ({ cls := "java/util/AbstractMap", name := "<init>", desc := "()V" } : Jvm.MethodName) jdk_71_method_1_code (1 : Nat) (Option.none : Option Jvm.ClassFile.FieldType)).before args0 about1 = true := code_word (m := ⟨14, 0⟩) (meth := k14m0) (c := k14c0) (by decide +kernel) rfl rfl rfl (by decide +kernel)
set_option maxRecDepth 65536 in
theorem w_c8 : (Jvm.Cond.code ({ cls := "com/example/whole_commit/wholecommit/Batch", name := "size", desc := "()I" } : Jvm.MethodName) prog_1_method_5_code (1 : Nat) (Option.some Jvm.ClassFile.FieldType.int)).before args0 about1 = true := code_word (m := ⟨2, 2⟩) (meth := k2m2) (c := k2c2) (by decide +kernel) rfl rfl rfl (by decide +kernel)
set_option maxRecDepth 65536 in
theorem w_c9 : (Jvm.Cond.code ({ cls := "com/example/whole_commit/wholecommit/Batch", name := "add", desc := "([B)V" } : Jvm.MethodName) prog_1_method_3_code (2 : Nat) (Option.none : Option Jvm.ClassFile.FieldType)).before args0 about1 = true := code_word (m := ⟨2, 1⟩) (meth := k2m1) (c := k2c1) (by decide +kernel) rfl rfl rfl (by decide +kernel)
set_option maxRecDepth 65536 in
theorem w_c10 : (Jvm.Cond.code ({ cls := "com/example/whole_commit/wholecommit/BatchSizePinLaw", name := "expect", desc := "(I)I" } : Jvm.MethodName) method_2_code (1 : Nat) (Option.some Jvm.ClassFile.FieldType.int)).before args0 about1 = true := code_word (m := ⟨1, 1⟩) (meth := k1m1) (c := k1c1) (by decide +kernel) rfl rfl rfl (by decide +kernel)
set_option maxRecDepth 65536 in
theorem w_c11 : (Jvm.Cond.code ({ cls := "java/lang/Math", name := "max", desc := "(II)I" } : Jvm.MethodName) jdk_29_method_65_code (2 : Nat) (Option.some Jvm.ClassFile.FieldType.int)).before args0 about1 = true := code_word (m := ⟨17, 1⟩) (meth := k17m1) (c := k17c1) (by decide +kernel) rfl rfl rfl (by decide +kernel)
set_option maxRecDepth 65536 in
theorem w_c12 : (Jvm.Cond.code ({ cls := "java/util/Arrays", name := "copyOf", desc := "([BI)[B" } : Jvm.MethodName) jdk_65_method_121_code (3 : Nat) (Option.some (Jvm.ClassFile.FieldType.array Jvm.ClassFile.FieldType.byte))).before args0 about1 = true := code_word (m := ⟨18, 1⟩) (meth := k18m1) (c := k18c1) (by decide +kernel) rfl rfl rfl (by decide +kernel)
set_option maxRecDepth 65536 in
theorem w_c13 : (Jvm.Cond.code ({ cls := "java/lang/Math", name := "min", desc := "(II)I" } : Jvm.MethodName) jdk_29_method_69_code (2 : Nat) (Option.some Jvm.ClassFile.FieldType.int)).before args0 about1 = true := code_word (m := ⟨17, 2⟩) (meth := k17m2) (c := k17c2) (by decide +kernel) rfl rfl rfl (by decide +kernel)
def codes1 : List Jvm.Cond := [Jvm.Cond.code x code maxLocals ret, Jvm.Cond.code ({ cls := "com/example/whole_commit/wholecommit/Batch", name := "<init>", desc := "()V" } : Jvm.MethodName) prog_1_method_1_code (1 : Nat) (Option.none : Option Jvm.ClassFile.FieldType), Jvm.Cond.code ({ cls := "java/lang/Object", name := "<init>", desc := "()V" } : Jvm.MethodName) object_method_1_code (1 : Nat) (Option.none : Option Jvm.ClassFile.FieldType), Jvm.Cond.code ({ cls := "java/util/ArrayList", name := "<init>", desc := "()V" } : Jvm.MethodName) jdk_38_method_2_code (1 : Nat) (Option.none : Option Jvm.ClassFile.FieldType), Jvm.Cond.code ({ cls := "java/util/AbstractList", name := "<init>", desc := "()V" } : Jvm.MethodName) jdk_39_method_1_code (1 : Nat) (Option.none : Option Jvm.ClassFile.FieldType), Jvm.Cond.code ({ cls := "java/util/AbstractCollection", name := "<init>", desc := "()V" } : Jvm.MethodName) jdk_22_method_1_code (1 : Nat) (Option.none : Option Jvm.ClassFile.FieldType), Jvm.Cond.code ({ cls := "java/util/HashMap", name := "<init>", desc := "()V" } : Jvm.MethodName) jdk_69_method_7_code (1 : Nat) (Option.none : Option Jvm.ClassFile.FieldType), Jvm.Cond.code ({ cls := "java/util/AbstractMap", name := "<init>", desc := "()V" } : Jvm.MethodName) jdk_71_method_1_code (1 : Nat) (Option.none : Option Jvm.ClassFile.FieldType), Jvm.Cond.code ({ cls := "com/example/whole_commit/wholecommit/Batch", name := "size", desc := "()I" } : Jvm.MethodName) prog_1_method_5_code (1 : Nat) (Option.some Jvm.ClassFile.FieldType.int), Jvm.Cond.code ({ cls := "com/example/whole_commit/wholecommit/Batch", name := "add", desc := "([B)V" } : Jvm.MethodName) prog_1_method_3_code (2 : Nat) (Option.none : Option Jvm.ClassFile.FieldType), Jvm.Cond.code ({ cls := "com/example/whole_commit/wholecommit/BatchSizePinLaw", name := "expect", desc := "(I)I" } : Jvm.MethodName) method_2_code (1 : Nat) (Option.some Jvm.ClassFile.FieldType.int), Jvm.Cond.code ({ cls := "java/lang/Math", name := "max", desc := "(II)I" } : Jvm.MethodName) jdk_29_method_65_code (2 : Nat) (Option.some Jvm.ClassFile.FieldType.int), Jvm.Cond.code ({ cls := "java/util/Arrays", name := "copyOf", desc := "([BI)[B" } : Jvm.MethodName) jdk_65_method_121_code (3 : Nat) (Option.some (Jvm.ClassFile.FieldType.array Jvm.ClassFile.FieldType.byte)), Jvm.Cond.code ({ cls := "java/lang/Math", name := "min", desc := "(II)I" } : Jvm.MethodName) jdk_29_method_69_code (2 : Nat) (Option.some Jvm.ClassFile.FieldType.int)]
set_option maxRecDepth 65536 in
theorem codes_eq : words1.filter isCode = codes1 := rfl
theorem w_codes : ∀ c ∈ words1.filter isCode, c.before args0 about1 = true := by
  rw [codes_eq]
  intro c hc
  simp only [codes1, List.mem_cons, List.not_mem_nil, or_false] at hc
  rcases hc with rfl | rfl | rfl | rfl | rfl | rfl | rfl | rfl | rfl | rfl | rfl | rfl | rfl | rfl
  · exact w_c0
  · exact w_c1
  · exact w_c2
  · exact w_c3
  · exact w_c4
  · exact w_c5
  · exact w_c6
  · exact w_c7
  · exact w_c8
  · exact w_c9
  · exact w_c10
  · exact w_c11
  · exact w_c12
  · exact w_c13
set_option maxRecDepth 65536 in
theorem w_t1 : (words1.take 24).all (fun c => isCode c || c.before args0 about1) = true := by decide +kernel
set_option maxRecDepth 65536 in
theorem w_t2 : ((words1.drop 24).take 24).all (fun c => isCode c || c.before args0 about1) = true := by decide +kernel
set_option maxRecDepth 65536 in
theorem w_t3 : (((words1.drop 24).drop 24).take 24).all (fun c => isCode c || c.before args0 about1) = true := by decide +kernel
set_option maxRecDepth 65536 in
theorem w_t4 : (((words1.drop 24).drop 24).drop 24).all (fun c => isCode c || c.before args0 about1) = true := by decide +kernel
theorem w_tables : (allAtoms (Jvm.Cond.code x code maxLocals ret :: tables_1)).before args0 about1 = true := by
  rw [allAtoms_all]
  show words1.all (fun c => c.before args0 about1) = true
  refine all_split ?_ w_codes
  rw [← List.take_append_drop 24 words1, List.all_append, w_t1, ← List.take_append_drop 24 (words1.drop 24), List.all_append, w_t2, ← List.take_append_drop 24 ((words1.drop 24).drop 24), List.all_append, w_t3, w_t4]
  rfl
set_option maxRecDepth 65536 in
theorem w_rest : rest_1_c.before args0 about1 = true := by decide +kernel
set_option maxRecDepth 65536 in
theorem w_case : (Jvm.Cond.and given_1 narrow_1).before args0 about1 = true := by decide +kernel
theorem w_applies : (headSpec (Jvm.Cond.code x code maxLocals ret :: tables_1) room_1).applies x e0.platform about1 = true :=
  (Spec.applies_iff w_frames).mpr ⟨w_running, w_runnable, w_alone, w_named, w_hears, w_ripe, w_room, w_tables⟩
theorem atStart : AtStart classFile x code maxLocals ret World_1 tables_1 room_1 Calls_1 rest_1 Pre_1 launch0 p0 e0 about1 theMethod args0 below0 :=
  ⟨lists_1, trivial, launch0.admits_env _ _ _, launch0.least_env, fairChoices_fair.cas, fairChoices_fair.clock, w_frames, w_args, w_heap, w_applies, trivial, w_rest, w_case⟩
end start1
theorem witness_1 : WitnessClaimed_1 := ⟨start1.p0, start1.e0, start1.about1, start1.theMethod, start1.args0, start1.below0, start1.atStart⟩
end Jvm.Pilot.@@N@@
