import JvmDerived
import JvmDerived.Pilot.@@N@@Statement
import JvmDerived.Pilot.@@N@@Code
set_option linter.unusedVariables false
set_option linter.unusedSimpArgs false
@@BLOCK:TracedD.lean.txt@@
namespace Jvm.RoadKit
open Sem ClassFile Op Lib Jvm.Stand Jvm.Free Jvm.LawKit
section New
variable {p : Program} {l : Launch} {e : Env} {R : Room} {s : State} {m : MethodId} {args : Array Value} {below : List Frame} {meth : Method} {c : Code} {T : State} {locs : List Loc} {cells slots : Nat}
theorem retI (X : Stand p l e R s m args below meth c T locs cells slots) (hx : p.tables.exec = Jvm.exec) {pc : Nat} {Ls : Array Slot} {z : Int32} {rest : List Value} (hret : meth.sig.returnType = some .int) (hd : decode c.code pc = .ok (.ireturn, 1)) {fs : List Frame}
    (hl : ∀ (f : JFrame) (acts : List Action), f.method = m → f.locked = none → f.entered = [] → (doReturn e (T.setTop f) acts (some (.int z))).1 = T.setFrames fs) : Steps p.tables e below (T.setTop (mkF m pc Ls (.int z :: rest))) (T.setFrames fs) := by
  have hm' : T.vm.method? m = some meth := X.method'
  have hn : narrow .int (.int z) = .int z := rfl
  show Steps p.tables e below (T.setTop { method := m, pc := pc, locals := Ls, stack := _ :: rest, locked := none }) _
  jvm_step X.here [X.here.top, hx, hd, hm', hret, hn]
  first | (intro acts; rw [hl _ acts rfl rfl rfl]) | rw [hl _ _ rfl rfl rfl]
  exact Steps.refl _
theorem own_retJ (X : Stand p l e R s m args below meth c T locs cells slots) (hx : p.tables.exec = Jvm.exec) {pc : Nat} {Ls : Array Slot} {z : Int64} {rest : List Value} (hret : meth.sig.returnType = some .long) (hd : decode c.code pc = .ok (.lreturn, 1)) {fs : List Frame}
    (hl : ∀ (f : JFrame) (acts : List Action), f.method = m → f.locked = none → f.entered = [] → (doReturn e (T.setTop f) acts (some (.long z))).1 = T.setFrames fs) : Steps p.tables e below (T.setTop (mkF m pc Ls (.long z :: rest))) (T.setFrames fs) := by
  have hm' : T.vm.method? m = some meth := X.method'
  show Steps p.tables e below (T.setTop { method := m, pc := pc, locals := Ls, stack := _ :: rest, locked := none }) _
  jvm_step X.here [X.here.top, hx, hd, hm', hret, narrow]
  first | (intro acts; rw [hl _ acts rfl rfl rfl]) | rw [hl _ _ rfl rfl rfl]
  exact Steps.refl _
theorem own_retD (X : Stand p l e R s m args below meth c T locs cells slots) (hx : p.tables.exec = Jvm.exec) {pc : Nat} {Ls : Array Slot} {z : UInt64} {rest : List Value} (hret : meth.sig.returnType = some .double) (hd : decode c.code pc = .ok (.dreturn, 1)) {fs : List Frame}
    (hl : ∀ (f : JFrame) (acts : List Action), f.method = m → f.locked = none → f.entered = [] → (doReturn e (T.setTop f) acts (some (.double z))).1 = T.setFrames fs) : Steps p.tables e below (T.setTop (mkF m pc Ls (.double z :: rest))) (T.setFrames fs) := by
  have hm' : T.vm.method? m = some meth := X.method'
  show Steps p.tables e below (T.setTop { method := m, pc := pc, locals := Ls, stack := _ :: rest, locked := none }) _
  jvm_step X.here [X.here.top, hx, hd, hm', hret, narrow]
  first | (intro acts; rw [hl _ acts rfl rfl rfl]) | rw [hl _ _ rfl rfl rfl]
  exact Steps.refl _
/-- from T, with the frame g on top, the run comes to an end of the kind that Q tells; Fe: the frame of that end -/
def Goes (p : Program) (e : Env) (below : List Frame) (s : State) (Fe : State → Outcome → State → List Loc → Nat → Nat → Prop) (kc ks : Nat) (Q : Option Value → Heap → List Loc → Prop) (T : State) (g : JFrame) : Prop :=
  ∃ s₂ o, Steps p.tables e below (T.setTop g) s₂ ∧ s₂.status = .running ∧ Ended s₂ below o ∧ ∃ v L, o = .returned v ∧ Q v s₂.heap L ∧ Fe s o s₂ L kc ks
/-- a wide end that keeps the invariant of the held constants -/
def HeldEnd (Z : State) (EL : List (String × Nat)) (s : State) (o : Outcome) (t : State) (L : List Loc) (k n : Nat) : Prop := CHr Z EL s.vm s.heap t.vm t.heap ∧ ReturnedEndW s o t L k n
variable {kc ks : Nat} {Q : Option Value → Heap → List Loc → Prop} {T' : State} {Fe : State → Outcome → State → List Loc → Nat → Nat → Prop}
theorem Goes.go {g g' : JFrame} (h : ∀ t, Steps p.tables e below (T'.setTop g') t → Steps p.tables e below (T.setTop g) t) (k : Goes p e below s Fe kc ks Q T' g') : Goes p e below s Fe kc ks Q T g := by
  obtain ⟨s₂, o, h1, h2⟩ := k
  exact ⟨s₂, o, h _ h1, h2⟩
theorem Goes.to {g : JFrame} (g' : JFrame) (h : ∀ t, Steps p.tables e below (T'.setTop g') t → Steps p.tables e below (T.setTop g) t) (k : Goes p e below s Fe kc ks Q T' g') : Goes p e below s Fe kc ks Q T g := k.go h
theorem Goes.cast {g g' : JFrame} (q : g = g') (k : Goes p e below s Fe kc ks Q T g') : Goes p e below s Fe kc ks Q T g := q ▸ k
theorem Goes.retN (X : Stand p l e R s m args below meth c T locs cells slots) (hx : p.tables.exec = Jvm.exec) (hlk : meth.locks = false) {pc : Nat} {Ls : Array Slot} {z : Int32} {t : FieldType} {rest : List Value} (hret : meth.sig.returnType = some t) (ht : t = .boolean ∨ t = .byte ∨ t = .char ∨ t = .short) (hd : decode c.code pc = .ok (.ireturn, 1)) (hc : cells ≤ kc) (hs : slots ≤ ks) (hQ : Q (some (.int (nar t z))) T.heap locs) : Goes p e below s FrameEnd kc ks Q T (mkF m pc Ls (.int z :: rest)) := by
  obtain ⟨fs, hr, hrun, hended, hW, hsame⟩ := X.leave (v := some (.int (nar t z))) (fun h => by rw [hret] at h; cases h) hlk
  exact ⟨_, _, RoadKit.retN X hx hret ht hd hr, hrun, hended, _, _, rfl, hQ, ⟨_, rfl⟩, hW, hsame.mono hc hs⟩
theorem Goes.retNW {vm1 : Vm} {k0 : Nat} (X : Stand p l e R (s.setVm vm1) m args below meth c T locs cells slots) (hx : p.tables.exec = Jvm.exec) (hlk : meth.locks = false) (hS : s.Since vm1 k0) (hk : k0 ≤ T.heap.size) {pc : Nat} {Ls : Array Slot} {z : Int32} {t : FieldType} {rest : List Value} (hret : meth.sig.returnType = some t) (ht : t = .boolean ∨ t = .byte ∨ t = .char ∨ t = .short) (hd : decode c.code pc = .ok (.ireturn, 1)) (hc : cells ≤ kc) (hs : slots ≤ ks) (hQ : Q (some (.int (nar t z))) T.heap locs) : Goes p e below s ReturnedEndW kc ks Q T (mkF m pc Ls (.int z :: rest)) := by
  obtain ⟨fs, hr, hrun, hended, h1, h2, h3, hsame⟩ := X.leaveW hS hk (v := some (.int (nar t z))) (fun h => by rw [hret] at h; cases h) hlk
  exact ⟨_, _, RoadKit.retN X hx hret ht hd hr, hrun, hended, _, _, rfl, hQ, h1, h2, h3, hsame.mono hc hs⟩
theorem Goes.retI (X : Stand p l e R s m args below meth c T locs cells slots) (hx : p.tables.exec = Jvm.exec) (hlk : meth.locks = false) {pc : Nat} {Ls : Array Slot} {z : Int32} {rest : List Value} (hret : meth.sig.returnType = some .int) (hd : decode c.code pc = .ok (.ireturn, 1)) (hc : cells ≤ kc) (hs : slots ≤ ks) (hQ : Q (some (.int z)) T.heap locs) : Goes p e below s FrameEnd kc ks Q T (mkF m pc Ls (.int z :: rest)) := by
  obtain ⟨fs, hr, hrun, hended, hW, hsame⟩ := X.leave (v := some (.int z)) (fun h => by rw [hret] at h; cases h) hlk
  exact ⟨_, _, RoadKit.retI X hx hret hd hr, hrun, hended, _, _, rfl, hQ, ⟨_, rfl⟩, hW, hsame.mono hc hs⟩
theorem Goes.retIW {vm1 : Vm} {k0 : Nat} (X : Stand p l e R (s.setVm vm1) m args below meth c T locs cells slots) (hx : p.tables.exec = Jvm.exec) (hlk : meth.locks = false) (hS : s.Since vm1 k0) (hk : k0 ≤ T.heap.size) {pc : Nat} {Ls : Array Slot} {z : Int32} {rest : List Value} (hret : meth.sig.returnType = some .int) (hd : decode c.code pc = .ok (.ireturn, 1)) (hc : cells ≤ kc) (hs : slots ≤ ks) (hQ : Q (some (.int z)) T.heap locs) : Goes p e below s ReturnedEndW kc ks Q T (mkF m pc Ls (.int z :: rest)) := by
  obtain ⟨fs, hr, hrun, hended, h1, h2, h3, hsame⟩ := X.leaveW hS hk (v := some (.int z)) (fun h => by rw [hret] at h; cases h) hlk
  exact ⟨_, _, RoadKit.retI X hx hret hd hr, hrun, hended, _, _, rfl, hQ, h1, h2, h3, hsame.mono hc hs⟩
theorem Goes.retJ (X : Stand p l e R s m args below meth c T locs cells slots) (hx : p.tables.exec = Jvm.exec) (hlk : meth.locks = false) {pc : Nat} {Ls : Array Slot} {z : Int64} {rest : List Value} (hret : meth.sig.returnType = some .long) (hd : decode c.code pc = .ok (.lreturn, 1)) (hc : cells ≤ kc) (hs : slots ≤ ks) (hQ : Q (some (.long z)) T.heap locs) : Goes p e below s FrameEnd kc ks Q T (mkF m pc Ls (.long z :: rest)) := by
  obtain ⟨fs, hr, hrun, hended, hW, hsame⟩ := X.leave (v := some (.long z)) (fun h => by rw [hret] at h; cases h) hlk
  exact ⟨_, _, own_retJ X hx hret hd hr, hrun, hended, _, _, rfl, hQ, ⟨_, rfl⟩, hW, hsame.mono hc hs⟩
theorem Goes.retJW {vm1 : Vm} {k0 : Nat} (X : Stand p l e R (s.setVm vm1) m args below meth c T locs cells slots) (hx : p.tables.exec = Jvm.exec) (hlk : meth.locks = false) (hS : s.Since vm1 k0) (hk : k0 ≤ T.heap.size) {pc : Nat} {Ls : Array Slot} {z : Int64} {rest : List Value} (hret : meth.sig.returnType = some .long) (hd : decode c.code pc = .ok (.lreturn, 1)) (hc : cells ≤ kc) (hs : slots ≤ ks) (hQ : Q (some (.long z)) T.heap locs) : Goes p e below s ReturnedEndW kc ks Q T (mkF m pc Ls (.long z :: rest)) := by
  obtain ⟨fs, hr, hrun, hended, h1, h2, h3, hsame⟩ := X.leaveW hS hk (v := some (.long z)) (fun h => by rw [hret] at h; cases h) hlk
  exact ⟨_, _, own_retJ X hx hret hd hr, hrun, hended, _, _, rfl, hQ, h1, h2, h3, hsame.mono hc hs⟩
theorem Goes.retD (X : Stand p l e R s m args below meth c T locs cells slots) (hx : p.tables.exec = Jvm.exec) (hlk : meth.locks = false) {pc : Nat} {Ls : Array Slot} {z : UInt64} {rest : List Value} (hret : meth.sig.returnType = some .double) (hd : decode c.code pc = .ok (.dreturn, 1)) (hc : cells ≤ kc) (hs : slots ≤ ks) (hQ : Q (some (.double z)) T.heap locs) : Goes p e below s FrameEnd kc ks Q T (mkF m pc Ls (.double z :: rest)) := by
  obtain ⟨fs, hr, hrun, hended, hW, hsame⟩ := X.leave (v := some (.double z)) (fun h => by rw [hret] at h; cases h) hlk
  exact ⟨_, _, own_retD X hx hret hd hr, hrun, hended, _, _, rfl, hQ, ⟨_, rfl⟩, hW, hsame.mono hc hs⟩
theorem Goes.retDW {vm1 : Vm} {k0 : Nat} (X : Stand p l e R (s.setVm vm1) m args below meth c T locs cells slots) (hx : p.tables.exec = Jvm.exec) (hlk : meth.locks = false) (hS : s.Since vm1 k0) (hk : k0 ≤ T.heap.size) {pc : Nat} {Ls : Array Slot} {z : UInt64} {rest : List Value} (hret : meth.sig.returnType = some .double) (hd : decode c.code pc = .ok (.dreturn, 1)) (hc : cells ≤ kc) (hs : slots ≤ ks) (hQ : Q (some (.double z)) T.heap locs) : Goes p e below s ReturnedEndW kc ks Q T (mkF m pc Ls (.double z :: rest)) := by
  obtain ⟨fs, hr, hrun, hended, h1, h2, h3, hsame⟩ := X.leaveW hS hk (v := some (.double z)) (fun h => by rw [hret] at h; cases h) hlk
  exact ⟨_, _, own_retD X hx hret hd hr, hrun, hended, _, _, rfl, hQ, h1, h2, h3, hsame.mono hc hs⟩
theorem Goes.retA (X : Stand p l e R s m args below meth c T locs cells slots) (hx : p.tables.exec = Jvm.exec) (hlk : meth.locks = false) {pc : Nat} {Ls : Array Slot} {w : Value} {t : FieldType} (hw : w.isRef = true) (hret : meth.sig.returnType = some t) (ht : t.isReference = true) (hd : decode c.code pc = .ok (.areturn, 1)) (hc : cells ≤ kc) (hs : slots ≤ ks) (hQ : Q (some w) T.heap locs) : Goes p e below s FrameEnd kc ks Q T (mkF m pc Ls [w]) := by
  obtain ⟨fs, hr, hrun, hended, hW, hsame⟩ := X.leave (v := some w) (fun h => by rw [hret] at h; cases h) hlk
  exact ⟨_, _, X.areturnOut hx hw hret ht hd hr, hrun, hended, _, _, rfl, hQ, ⟨_, rfl⟩, hW, hsame.mono hc hs⟩
theorem Goes.retAW {vm1 : Vm} {k0 : Nat} (X : Stand p l e R (s.setVm vm1) m args below meth c T locs cells slots) (hx : p.tables.exec = Jvm.exec) (hlk : meth.locks = false) (hS : s.Since vm1 k0) (hk : k0 ≤ T.heap.size) {pc : Nat} {Ls : Array Slot} {w : Value} {t : FieldType} (hw : w.isRef = true) (hret : meth.sig.returnType = some t) (ht : t.isReference = true) (hd : decode c.code pc = .ok (.areturn, 1)) (hc : cells ≤ kc) (hs : slots ≤ ks) (hQ : Q (some w) T.heap locs) : Goes p e below s ReturnedEndW kc ks Q T (mkF m pc Ls [w]) := by
  obtain ⟨fs, hr, hrun, hended, h1, h2, h3, hsame⟩ := X.leaveW hS hk (v := some w) (fun h => by rw [hret] at h; cases h) hlk
  exact ⟨_, _, X.areturnOut hx hw hret ht hd hr, hrun, hended, _, _, rfl, hQ, h1, h2, h3, hsame.mono hc hs⟩
theorem Goes.retV (X : Stand p l e R s m args below meth c T locs cells slots) (hx : p.tables.exec = Jvm.exec) (hlk : meth.locks = false) {pc : Nat} {Ls : Array Slot} (hret : meth.sig.returnType = none) (hd : decode c.code pc = .ok (.return_, 1)) (hc : cells ≤ kc) (hs : slots ≤ ks) (hQ : Q (none) T.heap locs) : Goes p e below s FrameEnd kc ks Q T (mkF m pc Ls []) := by
  obtain ⟨fs, hr, hrun, hended, hW, hsame⟩ := X.leave (v := none) (fun _ => rfl) hlk
  exact ⟨_, _, X.returnOut hx hret hd hr, hrun, hended, _, _, rfl, hQ, ⟨_, rfl⟩, hW, hsame.mono hc hs⟩
theorem Goes.retVW {vm1 : Vm} {k0 : Nat} (X : Stand p l e R (s.setVm vm1) m args below meth c T locs cells slots) (hx : p.tables.exec = Jvm.exec) (hlk : meth.locks = false) (hS : s.Since vm1 k0) (hk : k0 ≤ T.heap.size) {pc : Nat} {Ls : Array Slot} (hret : meth.sig.returnType = none) (hd : decode c.code pc = .ok (.return_, 1)) (hc : cells ≤ kc) (hs : slots ≤ ks) (hQ : Q (none) T.heap locs) : Goes p e below s ReturnedEndW kc ks Q T (mkF m pc Ls []) := by
  obtain ⟨fs, hr, hrun, hended, h1, h2, h3, hsame⟩ := X.leaveW hS hk (v := none) (fun _ => rfl) hlk
  exact ⟨_, _, X.returnOut hx hret hd hr, hrun, hended, _, _, rfl, hQ, h1, h2, h3, hsame.mono hc hs⟩
theorem Goes.retNH {vm1 : Vm} {k0 : Nat} {Z : State} {a0 : Array Value} {EL : List (String × Nat)} (X : Stand p l e R (s.setVm vm1) m args below meth c T locs cells slots) (hx : p.tables.exec = Jvm.exec) (hlk : meth.locks = false) (hS : s.Since vm1 k0) (hk : k0 ≤ T.heap.size) (hZ : Z.Warmed39 vm1) (hEL : EW Z a0 EL) (C : CHr Z EL s.vm s.heap vm1 T.heap) {pc : Nat} {Ls : Array Slot} {z : Int32} {t : FieldType} {rest : List Value} (hret : meth.sig.returnType = some t) (ht : t = .boolean ∨ t = .byte ∨ t = .char ∨ t = .short) (hd : decode c.code pc = .ok (.ireturn, 1)) (hc : cells ≤ kc) (hs : slots ≤ ks) (hQ : Q (some (.int (nar t z))) T.heap locs) : Goes p e below s (HeldEnd Z EL) kc ks Q T (mkF m pc Ls (.int z :: rest)) := by
  obtain ⟨fs, hr, hrun, hended, h1, h2, h3, hsame⟩ := X.leaveW hS hk (v := some (.int (nar t z))) (fun h => by rw [hret] at h; cases h) hlk
  exact ⟨_, _, RoadKit.retN X hx hret ht hd hr, hrun, hended, _, _, rfl, hQ, C.trans (CHv.at (T := T) X hZ hEL C.1), h1, h2, h3, hsame.mono hc hs⟩
theorem Goes.retIH {vm1 : Vm} {k0 : Nat} {Z : State} {a0 : Array Value} {EL : List (String × Nat)} (X : Stand p l e R (s.setVm vm1) m args below meth c T locs cells slots) (hx : p.tables.exec = Jvm.exec) (hlk : meth.locks = false) (hS : s.Since vm1 k0) (hk : k0 ≤ T.heap.size) (hZ : Z.Warmed39 vm1) (hEL : EW Z a0 EL) (C : CHr Z EL s.vm s.heap vm1 T.heap) {pc : Nat} {Ls : Array Slot} {z : Int32} {rest : List Value} (hret : meth.sig.returnType = some .int) (hd : decode c.code pc = .ok (.ireturn, 1)) (hc : cells ≤ kc) (hs : slots ≤ ks) (hQ : Q (some (.int z)) T.heap locs) : Goes p e below s (HeldEnd Z EL) kc ks Q T (mkF m pc Ls (.int z :: rest)) := by
  obtain ⟨fs, hr, hrun, hended, h1, h2, h3, hsame⟩ := X.leaveW hS hk (v := some (.int z)) (fun h => by rw [hret] at h; cases h) hlk
  exact ⟨_, _, RoadKit.retI X hx hret hd hr, hrun, hended, _, _, rfl, hQ, C.trans (CHv.at (T := T) X hZ hEL C.1), h1, h2, h3, hsame.mono hc hs⟩
theorem Goes.retAH {vm1 : Vm} {k0 : Nat} {Z : State} {a0 : Array Value} {EL : List (String × Nat)} (X : Stand p l e R (s.setVm vm1) m args below meth c T locs cells slots) (hx : p.tables.exec = Jvm.exec) (hlk : meth.locks = false) (hS : s.Since vm1 k0) (hk : k0 ≤ T.heap.size) (hZ : Z.Warmed39 vm1) (hEL : EW Z a0 EL) (C : CHr Z EL s.vm s.heap vm1 T.heap) {pc : Nat} {Ls : Array Slot} {w : Value} {t : FieldType} (hw : w.isRef = true) (hret : meth.sig.returnType = some t) (ht : t.isReference = true) (hd : decode c.code pc = .ok (.areturn, 1)) (hc : cells ≤ kc) (hs : slots ≤ ks) (hQ : Q (some w) T.heap locs) : Goes p e below s (HeldEnd Z EL) kc ks Q T (mkF m pc Ls [w]) := by
  obtain ⟨fs, hr, hrun, hended, h1, h2, h3, hsame⟩ := X.leaveW hS hk (v := some w) (fun h => by rw [hret] at h; cases h) hlk
  exact ⟨_, _, X.areturnOut hx hw hret ht hd hr, hrun, hended, _, _, rfl, hQ, C.trans (CHv.at (T := T) X hZ hEL C.1), h1, h2, h3, hsame.mono hc hs⟩
theorem Goes.retVH {vm1 : Vm} {k0 : Nat} {Z : State} {a0 : Array Value} {EL : List (String × Nat)} (X : Stand p l e R (s.setVm vm1) m args below meth c T locs cells slots) (hx : p.tables.exec = Jvm.exec) (hlk : meth.locks = false) (hS : s.Since vm1 k0) (hk : k0 ≤ T.heap.size) (hZ : Z.Warmed39 vm1) (hEL : EW Z a0 EL) (C : CHr Z EL s.vm s.heap vm1 T.heap) {pc : Nat} {Ls : Array Slot} (hret : meth.sig.returnType = none) (hd : decode c.code pc = .ok (.return_, 1)) (hc : cells ≤ kc) (hs : slots ≤ ks) (hQ : Q (none) T.heap locs) : Goes p e below s (HeldEnd Z EL) kc ks Q T (mkF m pc Ls []) := by
  obtain ⟨fs, hr, hrun, hended, h1, h2, h3, hsame⟩ := X.leaveW hS hk (v := none) (fun _ => rfl) hlk
  exact ⟨_, _, X.returnOut hx hret hd hr, hrun, hended, _, _, rfl, hQ, C.trans (CHv.at (T := T) X hZ hEL C.1), h1, h2, h3, hsame.mono hc hs⟩
end New
/-- a boolean as the machine holds it -/
def bit (P : Prop) [Decidable P] : Int32 := if P then 1 else 0
theorem bit_t {P : Prop} [Decidable P] (h : P) : bit P = 1 := if_pos h
theorem bit_f {P : Prop} [Decidable P] (h : ¬ P) : bit P = 0 := if_neg h
theorem nar_bit (P : Prop) [Decidable P] : nar .boolean (bit P) = bit P := by unfold bit; split <;> rfl
theorem bit_ne {P : Prop} [Decidable P] : ¬ bit P = 0 ↔ P := by unfold bit; split <;> simp_all
theorem bit_eq {P R : Prop} [Decidable P] [Decidable R] : bit P = bit R ↔ (P ↔ R) := by unfold bit; split <;> split <;> simp_all
theorem own_selPriv {Z s : State} {a0 args : Array Value} {y : MethodName} {n : Nat} (hZ : Z.Warmed39 s.vm) (wi : (Cond.instantiable y.cls n).before a0 Z = true) (wp : (Cond.privateMethod y).before a0 Z = true) (wm : (Cond.instanceMethod y).before a0 Z = true) (hy : y.cls ≠ "java/lang/invoke/MethodHandle" ∧ y.cls ≠ "java/lang/invoke/VarHandle") : (Cond.selects y.cls y y).before args s = true := by
  obtain ⟨c, k, h1, h2, h3, h4, -⟩ := Cond.instantiable_spec (mv hZ wi : (Cond.instantiable y.cls n).before args s = true)
  exact selects_self_of_private h1 h2 (Bool.or_eq_false_iff.mp h4).1 (Cond.privateMethod_at (mvP hZ wp (args := args))) (mv hZ wm) hy
theorem own_fldI {s : State} {args : Array Value} {t : Term} {a : Addr} {C n d : String} {k : Int32} (ev : t.eval args s none [] s = some (.ref a)) (h : (Jvm.Cond.eq (Term.field t C n d) (Term.int k)).value args s none s [] = some true) : Fld s s.heap a C n d (.int k) := by
  obtain ⟨x, y, h1, h2, h3, h4⟩ := cmp_v (Or.inl h)
  obtain rfl : Value.int k = y := Option.some.inj h2
  obtain ⟨z, rfl⟩ := h4
  have q : z = k := by simpa [Cond.value, h1, h2] using h
  subst q
  exact Fld.start ((fld_at ev).symm.trans h1)
end Jvm.RoadKit
namespace Jvm.Pilot.@@N@@
open Jvm Jvm.ClassFile Sem Op Lib Jvm.Free Jvm.Stand Jvm.LawKit Jvm.RoadKit Bundle Jvm.Pilot.@@N@@.Jvm.D
/-- what the three hold of one another: the failure, the mark 'closed' and the law's own mark -/
def own_inv (fv : Value) (cv s : Int32) : Prop := fv.isRef = true ∧ (s = 0 ↔ (fv = .null ∧ cv = 0))
theorem own_or1 (s : Int32) : ¬ s ||| 1 = 0 := fun h => by
  have e : (s ||| 1) &&& 1 = 1 := by
    apply Int32.toBitVec_inj.mp
    show (s.toBitVec ||| 1#32) &&& 1#32 = 1#32
    apply BitVec.eq_of_getLsbD_eq
    intro i hi
    simp only [BitVec.getLsbD_and, BitVec.getLsbD_or]
    cases s.toBitVec.getLsbD i <;> cases (1#32).getLsbD i <;> rfl
  rw [h] at e
  exact absurd e (by decide)
theorem own_or2 (s : Int32) : ¬ s ||| 2 = 0 := fun h => by
  have e : (s ||| 2) &&& 2 = 2 := by
    apply Int32.toBitVec_inj.mp
    show (s.toBitVec ||| 2#32) &&& 2#32 = 2#32
    apply BitVec.eq_of_getLsbD_eq
    intro i hi
    simp only [BitVec.getLsbD_and, BitVec.getLsbD_or]
    cases s.toBitVec.getLsbD i <;> cases (2#32).getLsbD i <;> rfl
  rw [h] at e
  exact absurd e (by decide)
theorem own_inv0 : own_inv .null 0 0 := ⟨rfl, by simp⟩
theorem own_inv1 {a : Addr} {cv s : Int32} : own_inv (.ref a) cv (s ||| 1) := ⟨rfl, ⟨fun h => absurd h (own_or1 s), fun h => nomatch h.1⟩⟩
theorem own_inv2 {fv : Value} {cv s : Int32} (h : own_inv fv cv s) : own_inv fv (nar .boolean 1) (s ||| 2) := ⟨h.1, ⟨fun q => absurd q (own_or2 s), fun q => absurd q.2 (by decide)⟩⟩
theorem own_mk {vm vm' : Vm} (h : vm.Alike vm') (K : vm.MethodsKnown) : vm'.MethodsKnown := fun m x hm => knowsMethod_alike h (K m x (by rw [← h.method?]; exact hm))
theorem pn_com_example_lachesis_lachesis_engine_RunEnd : plainName "com/example/lachesis/lachesis/engine/RunEnd" = true := by first | (simp [plainName, overriddenIn]; done) | decide +kernel
theorem ef_rm_init (m : MethodId) (x0 : Addr) : entryFrame m #[(.ref x0)] 1 = mkF m 0 #[.val (.ref x0)] [] := by first | (simp [entryFrame, mkF, argsToLocals, Value.category]; done) | rfl
def Q_rm_init (Z : State) (a : Addr) (h0 : Heap) (n0 : Nat) (v : Option Value) (h : Heap) (L : List Loc) : Prop := v = none ∧ Fr n0 L ∧ h = h0
theorem d1_0 : decode prog_25_method_1_code 0 = .ok (.aload_n 0, 1) := by decide +kernel
theorem d1_1 : decode prog_25_method_1_code 1 = .ok (.invokespecial 1, 3) := by decide +kernel
theorem d1_4 : decode prog_25_method_1_code 4 = .ok (.return_, 1) := by decide +kernel
set_option maxRecDepth 65536 in
set_option maxHeartbeats 40000000 in
theorem rm_init (l : Launch) (Z : State) (a0 : Array Value) (hw : ∀ d ∈ tables_1, d.before a0 Z = true) (ws : List Jvm.Cond) (a : Addr) (h0 : Heap) (n0 : Nat) (O : Old Z n0 h0) :
    MetFree l (⟨"com/example/lachesis/lachesis/engine/RunEnd", "<init>", "()V"⟩ : MethodName) (head1 (Jvm.Cond.code (⟨"com/example/lachesis/lachesis/engine/RunEnd", "<init>", "()V"⟩ : MethodName) prog_25_method_1_code 1 none :: ws) ({ frames := 1, cells := 0, slots := 0, locals := 12 } : Room)) (fun aa U => aa = #[(.ref a)] ∧ Z.Warmed39 U.vm ∧ U.heap = h0) (fun _ _ _ _ _ => True) (fun _ U o U' => ∃ v L, o = .returned v ∧ Q_rm_init Z a h0 n0 v U'.heap L ∧ FrameEnd U o U' L ({ frames := 1, cells := 0, slots := 0, locals := 12 } : Room).cells ({ frames := 1, cells := 0, slots := 0, locals := 12 } : Room).slots) := by
  refine MetFree.of_bodySF (plainFor_of_name pn_com_example_lachesis_lachesis_engine_RunEnd) hisR ?_
  intro p e s m args below meth c s₁ Bd hml0 hP hK
  obtain ⟨rfl, hZ, hh⟩ := hP
  have hx := Bd.exec
  have hby := Bd.bytes
  have hml : c.maxLocals = 1 := hml0
  have hown : s.vm.findClass "com/example/lachesis/lachesis/engine/RunEnd" = some m.cls := findClass_of_methodNamed Bd.named
  have hnm := (name_of_methodNamed Bd.named Bd.method).1
  have X0 : Stand p l e ({ frames := 1, cells := 0, slots := 0, locals := 12 } : Room) s m #[(.ref a)] below meth c s₁ [] 0 0 := Stand.of_body Bd
  have e0 : s₁.heap = h0 := by rw [← hh, Bd.state]; rfl
  have N0 := Fr.nil n0
  show Goes p e below s FrameEnd ({ frames := 1, cells := 0, slots := 0, locals := 12 } : Room).cells ({ frames := 1, cells := 0, slots := 0, locals := 12 } : Room).slots (Q_rm_init Z a h0 n0) s₁ (entryFrame m #[(.ref a)] 1)
  refine Goes.cast (ef_rm_init m a) ?_
  refine Goes.to (T' := s₁) (mkF m 1 #[.val (.ref a)] [(.ref a)]) (fun t k => XS.aloadN X0.here hx rfl (hb hby d1_0) rfl rfl k) ?_
  obtain ⟨T1, X1, e1, st1⟩ := initO X0 hx hZ hown (hw _ (List.mem_of_getElem? (i := 6) rfl)) (hw _ (List.mem_of_getElem? (i := 7) rfl)) (hw _ (List.mem_of_getElem? (i := 8) rfl)) e0 (g := (mkF m 1 #[.val (.ref a)] [(.ref a)])) rfl (by rw [hml]; rfl) rfl (hb hby d1_1) (by decide) (W := 0) (by show 2 * 0 + _ ≤ _; exact Nat.le_of_eq rfl) (by decide)
  refine Goes.to (T' := T1) (mkF m 4 #[.val (.ref a)] []) st1 ?_
  refine Goes.retV X1 hx Bd.notSynchronized Bd.returns (hb hby d1_4) (by decide) (by decide) ?_
  rw [e1]
  exact ⟨rfl, N0, rfl⟩
theorem ef_rm_ended (m : MethodId) (x0 : Addr) : entryFrame m #[(.ref x0)] 1 = mkF m 0 #[.val (.ref x0)] [] := by first | (simp [entryFrame, mkF, argsToLocals, Value.category]; done) | rfl
def Q_rm_ended (Z : State) (a : Addr) (fv : Value) (cv s0 : Int32) (h0 : Heap) (n0 : Nat) (v : Option Value) (h : Heap) (L : List Loc) : Prop := v = some (.int (bit (¬ s0 = 0))) ∧ Fr n0 L ∧ h = h0
theorem d9_0 : decode prog_25_method_4_code 0 = .ok (.aload_n 0, 1) := by decide +kernel
theorem d9_1 : decode prog_25_method_4_code 1 = .ok (.getfield 7, 3) := by decide +kernel
theorem d9_4 : decode prog_25_method_4_code 4 = .ok (.ifnonnull 10, 3) := by decide +kernel
theorem d9_7 : decode prog_25_method_4_code 7 = .ok (.aload_n 0, 1) := by decide +kernel
theorem d9_8 : decode prog_25_method_4_code 8 = .ok (.getfield 13, 3) := by decide +kernel
theorem d9_11 : decode prog_25_method_4_code 11 = .ok (.ifCond .eq 7, 3) := by decide +kernel
theorem d9_18 : decode prog_25_method_4_code 18 = .ok (.iconst 0, 1) := by decide +kernel
theorem d9_19 : decode prog_25_method_4_code 19 = .ok (.ireturn, 1) := by decide +kernel
theorem d9_14 : decode prog_25_method_4_code 14 = .ok (.iconst 1, 1) := by decide +kernel
theorem d9_15 : decode prog_25_method_4_code 15 = .ok (.goto 4, 3) := by decide +kernel
set_option maxRecDepth 65536 in
set_option maxHeartbeats 40000000 in
theorem rm_ended (l : Launch) (Z : State) (a0 : Array Value) (hw : ∀ d ∈ tables_1, d.before a0 Z = true) (ws : List Jvm.Cond) (a : Addr) (fv : Value) (cv s0 : Int32) (h0 : Heap) (n0 : Nat) (O : Old Z n0 h0) (F_f : Fld Z h0 a "com/example/lachesis/lachesis/engine/RunEnd" "failure" "Ljava/lang/Throwable;" fv) (F_c : Fld Z h0 a "com/example/lachesis/lachesis/engine/RunEnd" "closed" "Z" (.int cv)) (I : own_inv fv cv s0) :
    MetFree l (⟨"com/example/lachesis/lachesis/engine/RunEnd", "ended", "()Z"⟩ : MethodName) (head1 (Jvm.Cond.code (⟨"com/example/lachesis/lachesis/engine/RunEnd", "ended", "()Z"⟩ : MethodName) prog_25_method_4_code 1 (some .boolean) :: ws) ({ frames := 0, cells := 0, slots := 0, locals := 0 } : Room)) (fun aa U => aa = #[(.ref a)] ∧ Z.Warmed39 U.vm ∧ U.heap = h0) (fun _ _ _ _ _ => True) (fun _ U o U' => ∃ v L, o = .returned v ∧ Q_rm_ended Z a fv cv s0 h0 n0 v U'.heap L ∧ FrameEnd U o U' L ({ frames := 0, cells := 0, slots := 0, locals := 0 } : Room).cells ({ frames := 0, cells := 0, slots := 0, locals := 0 } : Room).slots) := by
  refine MetFree.of_bodySF (plainFor_of_name pn_com_example_lachesis_lachesis_engine_RunEnd) hisR ?_
  intro p e s m args below meth c s₁ Bd hml0 hP hK
  obtain ⟨rfl, hZ, hh⟩ := hP
  have hx := Bd.exec
  have hby := Bd.bytes
  have hml : c.maxLocals = 1 := hml0
  have hown : s.vm.findClass "com/example/lachesis/lachesis/engine/RunEnd" = some m.cls := findClass_of_methodNamed Bd.named
  have hnm := (name_of_methodNamed Bd.named Bd.method).1
  have X0 : Stand p l e ({ frames := 0, cells := 0, slots := 0, locals := 0 } : Room) s m #[(.ref a)] below meth c s₁ [] 0 0 := Stand.of_body Bd
  have e0 : s₁.heap = h0 := by rw [← hh, Bd.state]; rfl
  have N0 := Fr.nil n0
  show Goes p e below s FrameEnd ({ frames := 0, cells := 0, slots := 0, locals := 0 } : Room).cells ({ frames := 0, cells := 0, slots := 0, locals := 0 } : Room).slots (Q_rm_ended Z a fv cv s0 h0 n0) s₁ (entryFrame m #[(.ref a)] 1)
  refine Goes.cast (ef_rm_ended m a) ?_
  rcases ref_cases I.1 with rfl | ⟨fa, rfl⟩
  · refine Goes.to (T' := s₁) (mkF m 1 #[.val (.ref a)] [(.ref a)]) (fun t k => XS.aloadN X0.here hx rfl (hb hby d9_0) rfl rfl k) ?_
    obtain ⟨T1, X1, e1, st1⟩ := getF X0 hx hZ hown (host := "") (Or.inl (hw _ (List.mem_of_getElem? (i := 83) rfl))) Via.refl e0 F_f (g := (mkF m 1 #[.val (.ref a)] [(.ref a)])) rfl rfl (hb hby d9_1)
    refine Goes.to (T' := T1) (mkF m 4 #[.val (.ref a)] [.null]) st1 ?_
    refine Goes.to (T' := T1) (mkF m 7 #[.val (.ref a)] []) (fun t k => XS.ifnonnullNo X1.here hx rfl (hb hby d9_4) rfl k) ?_
    refine Goes.to (T' := T1) (mkF m 8 #[.val (.ref a)] [(.ref a)]) (fun t k => XS.aloadN X1.here hx rfl (hb hby d9_7) rfl rfl k) ?_
    obtain ⟨T2, X2, e2, st2⟩ := getF X1 hx hZ hown (host := "") (Or.inl (hw _ (List.mem_of_getElem? (i := 85) rfl))) Via.refl e1 F_c (g := (mkF m 8 #[.val (.ref a)] [(.ref a)])) rfl rfl (hb hby d9_8)
    refine Goes.to (T' := T2) (mkF m 11 #[.val (.ref a)] [(.int cv)]) st2 ?_
    by_cases hc11_3 : cv = (0 : Int32)
    · refine Goes.to (T' := T2) (mkF m 18 #[.val (.ref a)] []) (fun t k => XS.ifYes X2.here hx rfl (pc0 := 11) (pc' := 18) rfl (hb hby d9_11) rfl ((if0 _ _).trans (teq hc11_3).1) (by decide) (by decide) k) ?_
      refine Goes.to (T' := T2) (mkF m 19 #[.val (.ref a)] [(.int (0 : Int32))]) (fun t k => XS.iconst X2.here hx rfl (hb hby d9_18) k) ?_
      refine Goes.retN X2 hx Bd.notSynchronized (t := .boolean) Bd.returns (by simp) (hb hby d9_19) (by decide) (by decide) ?_
      rw [e2]
      exact ⟨by rw [bit_f (P := ¬ s0 = 0) (fun q => q (I.2.mpr ⟨rfl, hc11_3⟩))]; rfl, N0, rfl⟩
    · refine Goes.to (T' := T2) (mkF m 14 #[.val (.ref a)] []) (fun t k => XS.ifNo X2.here hx rfl (hb hby d9_11) rfl ((if0 _ _).trans (feq hc11_3).1) k) ?_
      refine Goes.to (T' := T2) (mkF m 15 #[.val (.ref a)] [(.int (1 : Int32))]) (fun t k => XS.iconst X2.here hx rfl (hb hby d9_14) k) ?_
      refine Goes.to (T' := T2) (mkF m 19 #[.val (.ref a)] [(.int (1 : Int32))]) (fun t k => XS.goto X2.here hx rfl (pc0 := 15) (pc' := 19) rfl (hb hby d9_15) (by decide) (by decide) k) ?_
      refine Goes.retN X2 hx Bd.notSynchronized (t := .boolean) Bd.returns (by simp) (hb hby d9_19) (by decide) (by decide) ?_
      rw [e2]
      exact ⟨by rw [bit_t (P := ¬ s0 = 0) (fun z => hc11_3 (I.2.mp z).2)]; rfl, N0, rfl⟩
  · refine Goes.to (T' := s₁) (mkF m 1 #[.val (.ref a)] [(.ref a)]) (fun t k => XS.aloadN X0.here hx rfl (hb hby d9_0) rfl rfl k) ?_
    obtain ⟨T4, X4, e4, st4⟩ := getF X0 hx hZ hown (host := "") (Or.inl (hw _ (List.mem_of_getElem? (i := 83) rfl))) Via.refl e0 F_f (g := (mkF m 1 #[.val (.ref a)] [(.ref a)])) rfl rfl (hb hby d9_1)
    refine Goes.to (T' := T4) (mkF m 4 #[.val (.ref a)] [(.ref fa)]) st4 ?_
    refine Goes.to (T' := T4) (mkF m 14 #[.val (.ref a)] []) (fun t k => XS.ifnonnullYes X4.here hx rfl (pc0 := 4) (pc' := 14) rfl (hb hby d9_4) rfl (by decide) (by decide) k) ?_
    refine Goes.to (T' := T4) (mkF m 15 #[.val (.ref a)] [(.int (1 : Int32))]) (fun t k => XS.iconst X4.here hx rfl (hb hby d9_14) k) ?_
    refine Goes.to (T' := T4) (mkF m 19 #[.val (.ref a)] [(.int (1 : Int32))]) (fun t k => XS.goto X4.here hx rfl (pc0 := 15) (pc' := 19) rfl (hb hby d9_15) (by decide) (by decide) k) ?_
    refine Goes.retN X4 hx Bd.notSynchronized (t := .boolean) Bd.returns (by simp) (hb hby d9_19) (by decide) (by decide) ?_
    rw [e4]
    exact ⟨by rw [bit_t (P := ¬ s0 = 0) (fun z => nomatch (I.2.mp z).1)]; rfl, N0, rfl⟩
theorem ef_rm_fail (m : MethodId) (x0 : Addr) (x1 : Addr) : entryFrame m #[(.ref x0), (.ref x1)] 2 = mkF m 0 #[.val (.ref x0), .val (.ref x1)] [] := by first | (simp [entryFrame, mkF, argsToLocals, Value.category]; done) | rfl
def Q_rm_fail (Z : State) (a t1 : Addr) (fv : Value) (cv : Int32) (h0 : Heap) (n0 : Nat) (v : Option Value) (h : Heap) (L : List Loc) : Prop := v = none ∧ Fr n0 L ∧ Keep h0 h [a] ∧ Fld Z h a "com/example/lachesis/lachesis/engine/RunEnd" "failure" "Ljava/lang/Throwable;" (.ref t1) ∧ Fld Z h a "com/example/lachesis/lachesis/engine/RunEnd" "closed" "Z" (.int cv)
theorem d11_0 : decode prog_25_method_2_code 0 = .ok (.aload_n 0, 1) := by decide +kernel
theorem d11_1 : decode prog_25_method_2_code 1 = .ok (.aload_n 1, 1) := by decide +kernel
theorem d11_2 : decode prog_25_method_2_code 2 = .ok (.putfield 7, 3) := by decide +kernel
theorem d11_5 : decode prog_25_method_2_code 5 = .ok (.return_, 1) := by decide +kernel
set_option maxRecDepth 65536 in
set_option maxHeartbeats 40000000 in
theorem rm_fail (l : Launch) (Z : State) (a0 : Array Value) (hw : ∀ d ∈ tables_1, d.before a0 Z = true) (ws : List Jvm.Cond) (a t1 : Addr) (fv : Value) (cv : Int32) (h0 : Heap) (n0 : Nat) (O : Old Z n0 h0) (F_failure_a : Fld Z h0 a "com/example/lachesis/lachesis/engine/RunEnd" "failure" "Ljava/lang/Throwable;" fv) (F_closed_a : Fld Z h0 a "com/example/lachesis/lachesis/engine/RunEnd" "closed" "Z" (.int cv)) (E_a : Exa Z h0 a "com/example/lachesis/lachesis/engine/RunEnd") (g_a : n0 ≤ a) :
    MetFree l (⟨"com/example/lachesis/lachesis/engine/RunEnd", "fail", "(Ljava/lang/Throwable;)V"⟩ : MethodName) (head1 (Jvm.Cond.code (⟨"com/example/lachesis/lachesis/engine/RunEnd", "fail", "(Ljava/lang/Throwable;)V"⟩ : MethodName) prog_25_method_2_code 2 none :: ws) ({ frames := 0, cells := 0, slots := 0, locals := 0 } : Room)) (fun aa U => aa = #[(.ref a), (.ref t1)] ∧ Z.Warmed39 U.vm ∧ U.heap = h0) (fun _ _ _ _ _ => True) (fun _ U o U' => ∃ v L, o = .returned v ∧ Q_rm_fail Z a t1 fv cv h0 n0 v U'.heap L ∧ FrameEnd U o U' L ({ frames := 0, cells := 0, slots := 0, locals := 0 } : Room).cells ({ frames := 0, cells := 0, slots := 0, locals := 0 } : Room).slots) := by
  refine MetFree.of_bodySF (plainFor_of_name pn_com_example_lachesis_lachesis_engine_RunEnd) hisR ?_
  intro p e s m args below meth c s₁ Bd hml0 hP hK
  obtain ⟨rfl, hZ, hh⟩ := hP
  have hx := Bd.exec
  have hby := Bd.bytes
  have hml : c.maxLocals = 2 := hml0
  have hown : s.vm.findClass "com/example/lachesis/lachesis/engine/RunEnd" = some m.cls := findClass_of_methodNamed Bd.named
  have hnm := (name_of_methodNamed Bd.named Bd.method).1
  have X0 : Stand p l e ({ frames := 0, cells := 0, slots := 0, locals := 0 } : Room) s m #[(.ref a), (.ref t1)] below meth c s₁ [] 0 0 := Stand.of_body Bd
  have e0 : s₁.heap = h0 := by rw [← hh, Bd.state]; rfl
  have N0 := Fr.nil n0
  have K : Keep h0 h0 [a] := Keep.refl _ _
  show Goes p e below s FrameEnd ({ frames := 0, cells := 0, slots := 0, locals := 0 } : Room).cells ({ frames := 0, cells := 0, slots := 0, locals := 0 } : Room).slots (Q_rm_fail Z a t1 fv cv h0 n0) s₁ (entryFrame m #[(.ref a), (.ref t1)] 2)
  refine Goes.cast (ef_rm_fail m a t1) ?_
  refine Goes.to (T' := s₁) (mkF m 1 #[.val (.ref a), .val (.ref t1)] [(.ref a)]) (fun t k => XS.aloadN X0.here hx rfl (hb hby d11_0) rfl rfl k) ?_
  refine Goes.to (T' := s₁) (mkF m 2 #[.val (.ref a), .val (.ref t1)] [(.ref t1), (.ref a)]) (fun t k => XS.aloadN X0.here hx rfl (hb hby d11_1) rfl rfl k) ?_
  obtain ⟨T1, h1, X1, e1, W1, st1⟩ := putF X0 hx hZ hown (host := "") (Or.inl (hw _ (List.mem_of_getElem? (i := 83) rfl))) Via.refl e0 F_failure_a E_a (Or.inl (hw _ (List.mem_of_getElem? (i := 84) rfl))) (hw _ (List.mem_of_getElem? (i := 1) rfl)) (ty := (.object "java/lang/Throwable")) (by decide) rfl rfl (g := (mkF m 2 #[.val (.ref a), .val (.ref t1)] [(.ref t1), (.ref a)])) rfl rfl (hb hby d11_2)
  replace E_a := E_a.wr W1
  replace F_failure_a := F_failure_a.same W1
  replace F_closed_a := F_closed_a.other W1 (Or.inr (slot_ne (Or.inl (hw _ (List.mem_of_getElem? (i := 86) rfl))) (Or.inl (hw _ (List.mem_of_getElem? (i := 84) rfl))) (by decide) (t := .boolean) (t' := (.object "java/lang/Throwable")) (by decide) (by decide)))
  replace O := O.wr W1 g_a
  replace K := K.wr W1 (Or.inl (by simp))
  have N1 := Fr.snoc X1 N0 g_a
  refine Goes.to (T' := T1) (mkF m 5 #[.val (.ref a), .val (.ref t1)] []) st1 ?_
  refine Goes.retV X1 hx Bd.notSynchronized Bd.returns (hb hby d11_5) (by decide) (by decide) ?_
  rw [e1]
  exact ⟨rfl, N1, K, F_failure_a, F_closed_a⟩
theorem ef_rm_close (m : MethodId) (x0 : Addr) : entryFrame m #[(.ref x0)] 1 = mkF m 0 #[.val (.ref x0)] [] := by first | (simp [entryFrame, mkF, argsToLocals, Value.category]; done) | rfl
def Q_rm_close (Z : State) (a : Addr) (fv : Value) (cv : Int32) (h0 : Heap) (n0 : Nat) (v : Option Value) (h : Heap) (L : List Loc) : Prop := v = none ∧ Fr n0 L ∧ Keep h0 h [a] ∧ Fld Z h a "com/example/lachesis/lachesis/engine/RunEnd" "failure" "Ljava/lang/Throwable;" fv ∧ Fld Z h a "com/example/lachesis/lachesis/engine/RunEnd" "closed" "Z" (.int (nar .boolean 1))
theorem d12_0 : decode prog_25_method_3_code 0 = .ok (.aload_n 0, 1) := by decide +kernel
theorem d12_1 : decode prog_25_method_3_code 1 = .ok (.iconst 1, 1) := by decide +kernel
theorem d12_2 : decode prog_25_method_3_code 2 = .ok (.putfield 13, 3) := by decide +kernel
theorem d12_5 : decode prog_25_method_3_code 5 = .ok (.return_, 1) := by decide +kernel
set_option maxRecDepth 65536 in
set_option maxHeartbeats 40000000 in
theorem rm_close (l : Launch) (Z : State) (a0 : Array Value) (hw : ∀ d ∈ tables_1, d.before a0 Z = true) (ws : List Jvm.Cond) (a : Addr) (fv : Value) (cv : Int32) (h0 : Heap) (n0 : Nat) (O : Old Z n0 h0) (F_failure_a : Fld Z h0 a "com/example/lachesis/lachesis/engine/RunEnd" "failure" "Ljava/lang/Throwable;" fv) (F_closed_a : Fld Z h0 a "com/example/lachesis/lachesis/engine/RunEnd" "closed" "Z" (.int cv)) (E_a : Exa Z h0 a "com/example/lachesis/lachesis/engine/RunEnd") (g_a : n0 ≤ a) :
    MetFree l (⟨"com/example/lachesis/lachesis/engine/RunEnd", "close", "()V"⟩ : MethodName) (head1 (Jvm.Cond.code (⟨"com/example/lachesis/lachesis/engine/RunEnd", "close", "()V"⟩ : MethodName) prog_25_method_3_code 1 none :: ws) ({ frames := 0, cells := 0, slots := 0, locals := 0 } : Room)) (fun aa U => aa = #[(.ref a)] ∧ Z.Warmed39 U.vm ∧ U.heap = h0) (fun _ _ _ _ _ => True) (fun _ U o U' => ∃ v L, o = .returned v ∧ Q_rm_close Z a fv cv h0 n0 v U'.heap L ∧ FrameEnd U o U' L ({ frames := 0, cells := 0, slots := 0, locals := 0 } : Room).cells ({ frames := 0, cells := 0, slots := 0, locals := 0 } : Room).slots) := by
  refine MetFree.of_bodySF (plainFor_of_name pn_com_example_lachesis_lachesis_engine_RunEnd) hisR ?_
  intro p e s m args below meth c s₁ Bd hml0 hP hK
  obtain ⟨rfl, hZ, hh⟩ := hP
  have hx := Bd.exec
  have hby := Bd.bytes
  have hml : c.maxLocals = 1 := hml0
  have hown : s.vm.findClass "com/example/lachesis/lachesis/engine/RunEnd" = some m.cls := findClass_of_methodNamed Bd.named
  have hnm := (name_of_methodNamed Bd.named Bd.method).1
  have X0 : Stand p l e ({ frames := 0, cells := 0, slots := 0, locals := 0 } : Room) s m #[(.ref a)] below meth c s₁ [] 0 0 := Stand.of_body Bd
  have e0 : s₁.heap = h0 := by rw [← hh, Bd.state]; rfl
  have N0 := Fr.nil n0
  have K : Keep h0 h0 [a] := Keep.refl _ _
  show Goes p e below s FrameEnd ({ frames := 0, cells := 0, slots := 0, locals := 0 } : Room).cells ({ frames := 0, cells := 0, slots := 0, locals := 0 } : Room).slots (Q_rm_close Z a fv cv h0 n0) s₁ (entryFrame m #[(.ref a)] 1)
  refine Goes.cast (ef_rm_close m a) ?_
  refine Goes.to (T' := s₁) (mkF m 1 #[.val (.ref a)] [(.ref a)]) (fun t k => XS.aloadN X0.here hx rfl (hb hby d12_0) rfl rfl k) ?_
  refine Goes.to (T' := s₁) (mkF m 2 #[.val (.ref a)] [(.int (1 : Int32)), (.ref a)]) (fun t k => XS.iconst X0.here hx rfl (hb hby d12_1) k) ?_
  obtain ⟨T1, h1, X1, e1, W1, st1⟩ := putFN X0 hx hZ hown (hw _ (List.mem_of_getElem? (i := 85) rfl)) Via.refl e0 F_closed_a E_a (Or.inl (hw _ (List.mem_of_getElem? (i := 86) rfl))) (hw _ (List.mem_of_getElem? (i := 1) rfl)) (ty := .boolean) (v' := .int (nar .boolean (1 : Int32))) (by decide) rfl (fits_nar_bool _) (g := (mkF m 2 #[.val (.ref a)] [(.int (1 : Int32)), (.ref a)])) rfl rfl (hb hby d12_2)
  replace E_a := E_a.wr W1
  replace F_failure_a := F_failure_a.other W1 (Or.inr (slot_ne (Or.inl (hw _ (List.mem_of_getElem? (i := 84) rfl))) (Or.inl (hw _ (List.mem_of_getElem? (i := 86) rfl))) (by decide) (t := (.object "java/lang/Throwable")) (t' := .boolean) (by decide) (by decide)))
  replace F_closed_a := F_closed_a.same W1
  replace O := O.wr W1 g_a
  replace K := K.wr W1 (Or.inl (by simp))
  have N1 := Fr.snoc X1 N0 g_a
  refine Goes.to (T' := T1) (mkF m 5 #[.val (.ref a)] []) st1 ?_
  refine Goes.retV X1 hx Bd.notSynchronized Bd.returns (hb hby d12_5) (by decide) (by decide) ?_
  rw [e1]
  exact ⟨rfl, N1, K, F_failure_a, F_closed_a⟩
theorem pn_com_example_lachesis_lachesis_engine_RunEndEndedPinLaw : plainName "com/example/lachesis/lachesis/engine/RunEndEndedPinLaw" = true := by first | (simp [plainName, overriddenIn]; done) | decide +kernel
theorem ef_rm_step (m : MethodId) (x0 : Addr) (x1 : Addr) (x2 : Addr) (x3 : Int32) (x4 : Int32) : entryFrame m #[(.ref x0), (.ref x1), (.ref x2), (.int x3), (.int x4)] 5 = mkF m 0 #[.val (.ref x0), .val (.ref x1), .val (.ref x2), .val (.int x3), .val (.int x4)] [] := by first | (simp [entryFrame, mkF, argsToLocals, Value.category]; done) | rfl
def Q_rm_step (Z : State) (a t1 t2 : Addr) (op s0 : Int32) (fv : Value) (cv : Int32) (h0 : Heap) (n0 : Nat) (v : Option Value) (h : Heap) (L : List Loc) : Prop := ∃ (s' : Int32) (fv' : Value) (cv' : Int32), v = some (.int s') ∧ Fr n0 L ∧ Keep h0 h [a] ∧ Fld Z h a "com/example/lachesis/lachesis/engine/RunEnd" "failure" "Ljava/lang/Throwable;" fv' ∧ Fld Z h a "com/example/lachesis/lachesis/engine/RunEnd" "closed" "Z" (.int cv') ∧ own_inv fv' cv' s'
theorem d10_0 : decode method_3_code 0 = .ok (.iload_n 3, 1) := by decide +kernel
theorem d10_1 : decode method_3_code 1 = .ok (.iconst 1, 1) := by decide +kernel
theorem d10_2 : decode method_3_code 2 = .ok (.if_icmp .ne 13, 3) := by decide +kernel
theorem d10_5 : decode method_3_code 5 = .ok (.aload_n 0, 1) := by decide +kernel
theorem d10_6 : decode method_3_code 6 = .ok (.aload_n 1, 1) := by decide +kernel
theorem d10_7 : decode method_3_code 7 = .ok (.invokevirtual 29, 3) := by decide +kernel
theorem pd_0 : parseMethodDescriptor "(Ljava/lang/Throwable;)V" = some ⟨[(.object "java/lang/Throwable")], none⟩ := by decide +kernel
theorem d10_10 : decode method_3_code 10 = .ok (.iload 4, 2) := by decide +kernel
theorem d10_12 : decode method_3_code 12 = .ok (.iconst 1, 1) := by decide +kernel
theorem d10_13 : decode method_3_code 13 = .ok (.ior, 1) := by decide +kernel
theorem d10_14 : decode method_3_code 14 = .ok (.ireturn, 1) := by decide +kernel
theorem d10_15 : decode method_3_code 15 = .ok (.iload_n 3, 1) := by decide +kernel
theorem d10_16 : decode method_3_code 16 = .ok (.iconst 2, 1) := by decide +kernel
theorem d10_17 : decode method_3_code 17 = .ok (.if_icmp .ne 12, 3) := by decide +kernel
theorem d10_20 : decode method_3_code 20 = .ok (.aload_n 0, 1) := by decide +kernel
theorem d10_21 : decode method_3_code 21 = .ok (.invokevirtual 33, 3) := by decide +kernel
theorem pd_1 : parseMethodDescriptor "()V" = some ⟨[], none⟩ := by decide +kernel
theorem d10_24 : decode method_3_code 24 = .ok (.iload 4, 2) := by decide +kernel
theorem d10_26 : decode method_3_code 26 = .ok (.iconst 2, 1) := by decide +kernel
theorem d10_27 : decode method_3_code 27 = .ok (.ior, 1) := by decide +kernel
theorem d10_28 : decode method_3_code 28 = .ok (.ireturn, 1) := by decide +kernel
theorem d10_29 : decode method_3_code 29 = .ok (.iload_n 3, 1) := by decide +kernel
theorem d10_30 : decode method_3_code 30 = .ok (.iconst 3, 1) := by decide +kernel
theorem d10_31 : decode method_3_code 31 = .ok (.if_icmp .ne 13, 3) := by decide +kernel
theorem d10_34 : decode method_3_code 34 = .ok (.aload_n 0, 1) := by decide +kernel
theorem d10_35 : decode method_3_code 35 = .ok (.aload_n 2, 1) := by decide +kernel
theorem d10_36 : decode method_3_code 36 = .ok (.invokevirtual 29, 3) := by decide +kernel
theorem d10_39 : decode method_3_code 39 = .ok (.iload 4, 2) := by decide +kernel
theorem d10_41 : decode method_3_code 41 = .ok (.iconst 1, 1) := by decide +kernel
theorem d10_42 : decode method_3_code 42 = .ok (.ior, 1) := by decide +kernel
theorem d10_43 : decode method_3_code 43 = .ok (.ireturn, 1) := by decide +kernel
theorem d10_44 : decode method_3_code 44 = .ok (.iload 4, 2) := by decide +kernel
theorem d10_46 : decode method_3_code 46 = .ok (.ireturn, 1) := by decide +kernel
set_option maxRecDepth 65536 in
set_option maxHeartbeats 40000000 in
theorem rm_step (l : Launch) (Z : State) (a0 : Array Value) (hw : ∀ d ∈ tables_1, d.before a0 Z = true) (ws : List Jvm.Cond) (a t1 t2 : Addr) (op s0 : Int32) (fv : Value) (cv : Int32) (h0 : Heap) (n0 : Nat) (O : Old Z n0 h0) (F_failure_a : Fld Z h0 a "com/example/lachesis/lachesis/engine/RunEnd" "failure" "Ljava/lang/Throwable;" fv) (F_closed_a : Fld Z h0 a "com/example/lachesis/lachesis/engine/RunEnd" "closed" "Z" (.int cv)) (E_a : Exa Z h0 a "com/example/lachesis/lachesis/engine/RunEnd") (g_a : n0 ≤ a) (I : own_inv fv cv s0) :
    MetFree l (⟨"com/example/lachesis/lachesis/engine/RunEndEndedPinLaw", "step", "(Lcom/example/lachesis/lachesis/engine/RunEnd;Lcom/example/lachesis/lachesis/engine/ClientProcessException;Lcom/example/lachesis/lachesis/engine/ClientProcessException;II)I"⟩ : MethodName) (head1 (Jvm.Cond.code (⟨"com/example/lachesis/lachesis/engine/RunEndEndedPinLaw", "step", "(Lcom/example/lachesis/lachesis/engine/RunEnd;Lcom/example/lachesis/lachesis/engine/ClientProcessException;Lcom/example/lachesis/lachesis/engine/ClientProcessException;II)I"⟩ : MethodName) method_3_code 5 (some .int) :: ws) ({ frames := 1, cells := 0, slots := 0, locals := 15 } : Room)) (fun aa U => aa = #[(.ref a), (.ref t1), (.ref t2), (.int op), (.int s0)] ∧ Z.Warmed39 U.vm ∧ U.heap = h0) (fun _ _ _ _ _ => True) (fun _ U o U' => ∃ v L, o = .returned v ∧ Q_rm_step Z a t1 t2 op s0 fv cv h0 n0 v U'.heap L ∧ FrameEnd U o U' L ({ frames := 1, cells := 0, slots := 0, locals := 15 } : Room).cells ({ frames := 1, cells := 0, slots := 0, locals := 15 } : Room).slots) := by
  refine MetFree.of_bodySF (plainFor_of_name pn_com_example_lachesis_lachesis_engine_RunEndEndedPinLaw) hisR ?_
  intro p e s m args below meth c s₁ Bd hml0 hP hK
  obtain ⟨rfl, hZ, hh⟩ := hP
  have hx := Bd.exec
  have hby := Bd.bytes
  have hml : c.maxLocals = 5 := hml0
  have hown : s.vm.findClass "com/example/lachesis/lachesis/engine/RunEndEndedPinLaw" = some m.cls := findClass_of_methodNamed Bd.named
  have hnm := (name_of_methodNamed Bd.named Bd.method).1
  have X0 : Stand p l e ({ frames := 1, cells := 0, slots := 0, locals := 15 } : Room) s m #[(.ref a), (.ref t1), (.ref t2), (.int op), (.int s0)] below meth c s₁ [] 0 0 := Stand.of_body Bd
  have e0 : s₁.heap = h0 := by rw [← hh, Bd.state]; rfl
  have N0 := Fr.nil n0
  have K : Keep h0 h0 [a] := Keep.refl _ _
  show Goes p e below s FrameEnd ({ frames := 1, cells := 0, slots := 0, locals := 15 } : Room).cells ({ frames := 1, cells := 0, slots := 0, locals := 15 } : Room).slots (Q_rm_step Z a t1 t2 op s0 fv cv h0 n0) s₁ (entryFrame m #[(.ref a), (.ref t1), (.ref t2), (.int op), (.int s0)] 5)
  refine Goes.cast (ef_rm_step m a t1 t2 op s0) ?_
  refine Goes.to (T' := s₁) (mkF m 1 #[.val (.ref a), .val (.ref t1), .val (.ref t2), .val (.int op), .val (.int s0)] [(.int op)]) (fun t k => XS.iloadN X0.here hx rfl (hb hby d10_0) rfl k) ?_
  refine Goes.to (T' := s₁) (mkF m 2 #[.val (.ref a), .val (.ref t1), .val (.ref t2), .val (.int op), .val (.int s0)] [(.int (1 : Int32)), (.int op)]) (fun t k => XS.iconst X0.here hx rfl (hb hby d10_1) k) ?_
  by_cases hc2_1 : op = (1 : Int32)
  · refine Goes.to (T' := s₁) (mkF m 5 #[.val (.ref a), .val (.ref t1), .val (.ref t2), .val (.int op), .val (.int s0)] []) (fun t k => XS.icmpNo X0.here hx rfl (hb hby d10_2) rfl (teq hc2_1).2 k) ?_
    refine Goes.to (T' := s₁) (mkF m 6 #[.val (.ref a), .val (.ref t1), .val (.ref t2), .val (.int op), .val (.int s0)] [(.ref a)]) (fun t k => XS.aloadN X0.here hx rfl (hb hby d10_5) rfl rfl k) ?_
    refine Goes.to (T' := s₁) (mkF m 7 #[.val (.ref a), .val (.ref t1), .val (.ref t2), .val (.int op), .val (.int s0)] [(.ref t1), (.ref a)]) (fun t k => XS.aloadN X0.here hx rfl (hb hby d10_6) rfl rfl k) ?_
    obtain ⟨cq2, kq2, q2a, q2b, q2c⟩ := isOf hZ e0 E_a
    obtain ⟨_, _, ⟨T2, L2, k2, n2⟩, -, X2, ⟨Lc2, hQ2, l2, y2, z2⟩, st2⟩ := X0.virtualBack hx (y := (⟨"com/example/lachesis/lachesis/engine/RunEnd", "fail", "(Ljava/lang/Throwable;)V"⟩ : MethodName)) (z := (⟨"com/example/lachesis/lachesis/engine/RunEnd", "fail", "(Ljava/lang/Throwable;)V"⟩ : MethodName)) hown (mvT hZ (hw _ (List.mem_of_getElem? (i := 91) rfl))) (mvT hZ (hw _ (List.mem_of_getElem? (i := 92) rfl))) (notFace_of_selects (args := #[]) (mvT hZ (hw _ (List.mem_of_getElem? (i := 94) rfl)))) (mvT hZ (hw _ (List.mem_of_getElem? (i := 94) rfl))) (mvT hZ (hw _ (List.mem_of_getElem? (i := 93) rfl))) (by decide) (backOf (W := 0) (rm_fail l Z a0 hw [] a t1 fv cv h0 n0 O F_failure_a F_closed_a E_a g_a) hZ (hw _ (List.mem_of_getElem? (i := 95) rfl)) (hw _ (List.mem_of_getElem? (i := 2) rfl)) (by decide) (by decide)) q2a q2c (g := (mkF m 7 #[.val (.ref a), .val (.ref t1), .val (.ref t2), .val (.int op), .val (.int s0)] [(.ref t1), (.ref a)])) rfl (by rw [hml]; rfl) (Steps.refl _) (argsL := [(.ref t1)]) (rest := []) (lenOf pd_0 rfl) rfl (by show 2 * 0 + _ ≤ _; exact Nat.le_of_eq rfl) (hb hby d10_7) (fun _ _ => ⟨rfl, e0, (by decide : 0 + 0 ≤ _), (by decide : 0 + 0 ≤ _)⟩)
    dsimp only [Pt.U, Pt.locs, Pt.cells, Pt.slots] at X2 l2 y2 z2 st2 hQ2
    subst l2 y2 z2
    obtain ⟨rfl, N2, K2, F_failure_a, F_closed_a⟩ := hQ2
    have N2' := Fr.app N0 N2
    replace E_a := E_a.keep K2
    replace O := O.keep K2 (allS g_a all0)
    replace K := K.trans K2 (allS (Or.inl (by simp)) all0)
    refine Goes.to (T' := T2) (mkF m 10 #[.val (.ref a), .val (.ref t1), .val (.ref t2), .val (.int op), .val (.int s0)] []) (fun t k => st2.trans k) ?_
    refine Goes.to (T' := T2) (mkF m 12 #[.val (.ref a), .val (.ref t1), .val (.ref t2), .val (.int op), .val (.int s0)] [(.int s0)]) (fun t k => XS.iload X2.here hx rfl (hb hby d10_10) rfl k) ?_
    refine Goes.to (T' := T2) (mkF m 13 #[.val (.ref a), .val (.ref t1), .val (.ref t2), .val (.int op), .val (.int s0)] [(.int (1 : Int32)), (.int s0)]) (fun t k => XS.iconst X2.here hx rfl (hb hby d10_12) k) ?_
    refine Goes.to (T' := T2) (mkF m 14 #[.val (.ref a), .val (.ref t1), .val (.ref t2), .val (.int op), .val (.int s0)] [(.int (s0 ||| (1 : Int32)))]) (fun t k => XS.ior X2.here hx rfl (hb hby d10_13) rfl k) ?_
    refine Goes.retI X2 hx Bd.notSynchronized Bd.returns (hb hby d10_14) (by decide) (by decide) ?_
    exact ⟨_, _, _, rfl, N2', K, F_failure_a, F_closed_a, own_inv1⟩
  · refine Goes.to (T' := s₁) (mkF m 15 #[.val (.ref a), .val (.ref t1), .val (.ref t2), .val (.int op), .val (.int s0)] []) (fun t k => XS.icmpYes X0.here hx rfl (pc0 := 2) (pc' := 15) rfl (hb hby d10_2) rfl (feq hc2_1).2 (by decide) (by decide) k) ?_
    refine Goes.to (T' := s₁) (mkF m 16 #[.val (.ref a), .val (.ref t1), .val (.ref t2), .val (.int op), .val (.int s0)] [(.int op)]) (fun t k => XS.iloadN X0.here hx rfl (hb hby d10_15) rfl k) ?_
    refine Goes.to (T' := s₁) (mkF m 17 #[.val (.ref a), .val (.ref t1), .val (.ref t2), .val (.int op), .val (.int s0)] [(.int (2 : Int32)), (.int op)]) (fun t k => XS.iconst X0.here hx rfl (hb hby d10_16) k) ?_
    by_cases hc17_3 : op = (2 : Int32)
    · refine Goes.to (T' := s₁) (mkF m 20 #[.val (.ref a), .val (.ref t1), .val (.ref t2), .val (.int op), .val (.int s0)] []) (fun t k => XS.icmpNo X0.here hx rfl (hb hby d10_17) rfl (teq hc17_3).2 k) ?_
      refine Goes.to (T' := s₁) (mkF m 21 #[.val (.ref a), .val (.ref t1), .val (.ref t2), .val (.int op), .val (.int s0)] [(.ref a)]) (fun t k => XS.aloadN X0.here hx rfl (hb hby d10_20) rfl rfl k) ?_
      obtain ⟨cq4, kq4, q4a, q4b, q4c⟩ := isOf hZ e0 E_a
      obtain ⟨_, _, ⟨T4, L4, k4, n4⟩, -, X4, ⟨Lc4, hQ4, l4, y4, z4⟩, st4⟩ := X0.virtualBack hx (y := (⟨"com/example/lachesis/lachesis/engine/RunEnd", "close", "()V"⟩ : MethodName)) (z := (⟨"com/example/lachesis/lachesis/engine/RunEnd", "close", "()V"⟩ : MethodName)) hown (mvT hZ (hw _ (List.mem_of_getElem? (i := 96) rfl))) (mvT hZ (hw _ (List.mem_of_getElem? (i := 97) rfl))) (notFace_of_selects (args := #[]) (mvT hZ (hw _ (List.mem_of_getElem? (i := 99) rfl)))) (mvT hZ (hw _ (List.mem_of_getElem? (i := 99) rfl))) (mvT hZ (hw _ (List.mem_of_getElem? (i := 98) rfl))) (by decide) (backOf (W := 0) (rm_close l Z a0 hw [] a fv cv h0 n0 O F_failure_a F_closed_a E_a g_a) hZ (hw _ (List.mem_of_getElem? (i := 100) rfl)) (hw _ (List.mem_of_getElem? (i := 2) rfl)) (by decide) (by decide)) q4a q4c (g := (mkF m 21 #[.val (.ref a), .val (.ref t1), .val (.ref t2), .val (.int op), .val (.int s0)] [(.ref a)])) rfl (by rw [hml]; rfl) (Steps.refl _) (argsL := []) (rest := []) (lenOf pd_1 rfl) rfl (by show 2 * 0 + _ ≤ _; exact Nat.le_of_eq rfl) (hb hby d10_21) (fun _ _ => ⟨rfl, e0, (by decide : 0 + 0 ≤ _), (by decide : 0 + 0 ≤ _)⟩)
      dsimp only [Pt.U, Pt.locs, Pt.cells, Pt.slots] at X4 l4 y4 z4 st4 hQ4
      subst l4 y4 z4
      obtain ⟨rfl, N4, K4, F_failure_a, F_closed_a⟩ := hQ4
      have N4' := Fr.app N0 N4
      replace E_a := E_a.keep K4
      replace O := O.keep K4 (allS g_a all0)
      replace K := K.trans K4 (allS (Or.inl (by simp)) all0)
      refine Goes.to (T' := T4) (mkF m 24 #[.val (.ref a), .val (.ref t1), .val (.ref t2), .val (.int op), .val (.int s0)] []) (fun t k => st4.trans k) ?_
      refine Goes.to (T' := T4) (mkF m 26 #[.val (.ref a), .val (.ref t1), .val (.ref t2), .val (.int op), .val (.int s0)] [(.int s0)]) (fun t k => XS.iload X4.here hx rfl (hb hby d10_24) rfl k) ?_
      refine Goes.to (T' := T4) (mkF m 27 #[.val (.ref a), .val (.ref t1), .val (.ref t2), .val (.int op), .val (.int s0)] [(.int (2 : Int32)), (.int s0)]) (fun t k => XS.iconst X4.here hx rfl (hb hby d10_26) k) ?_
      refine Goes.to (T' := T4) (mkF m 28 #[.val (.ref a), .val (.ref t1), .val (.ref t2), .val (.int op), .val (.int s0)] [(.int (s0 ||| (2 : Int32)))]) (fun t k => XS.ior X4.here hx rfl (hb hby d10_27) rfl k) ?_
      refine Goes.retI X4 hx Bd.notSynchronized Bd.returns (hb hby d10_28) (by decide) (by decide) ?_
      exact ⟨_, _, _, rfl, N4', K, F_failure_a, F_closed_a, own_inv2 I⟩
    · refine Goes.to (T' := s₁) (mkF m 29 #[.val (.ref a), .val (.ref t1), .val (.ref t2), .val (.int op), .val (.int s0)] []) (fun t k => XS.icmpYes X0.here hx rfl (pc0 := 17) (pc' := 29) rfl (hb hby d10_17) rfl (feq hc17_3).2 (by decide) (by decide) k) ?_
      refine Goes.to (T' := s₁) (mkF m 30 #[.val (.ref a), .val (.ref t1), .val (.ref t2), .val (.int op), .val (.int s0)] [(.int op)]) (fun t k => XS.iloadN X0.here hx rfl (hb hby d10_29) rfl k) ?_
      refine Goes.to (T' := s₁) (mkF m 31 #[.val (.ref a), .val (.ref t1), .val (.ref t2), .val (.int op), .val (.int s0)] [(.int (3 : Int32)), (.int op)]) (fun t k => XS.iconst X0.here hx rfl (hb hby d10_30) k) ?_
      by_cases hc31_5 : op = (3 : Int32)
      · refine Goes.to (T' := s₁) (mkF m 34 #[.val (.ref a), .val (.ref t1), .val (.ref t2), .val (.int op), .val (.int s0)] []) (fun t k => XS.icmpNo X0.here hx rfl (hb hby d10_31) rfl (teq hc31_5).2 k) ?_
        refine Goes.to (T' := s₁) (mkF m 35 #[.val (.ref a), .val (.ref t1), .val (.ref t2), .val (.int op), .val (.int s0)] [(.ref a)]) (fun t k => XS.aloadN X0.here hx rfl (hb hby d10_34) rfl rfl k) ?_
        refine Goes.to (T' := s₁) (mkF m 36 #[.val (.ref a), .val (.ref t1), .val (.ref t2), .val (.int op), .val (.int s0)] [(.ref t2), (.ref a)]) (fun t k => XS.aloadN X0.here hx rfl (hb hby d10_35) rfl rfl k) ?_
        obtain ⟨cq6, kq6, q6a, q6b, q6c⟩ := isOf hZ e0 E_a
        obtain ⟨_, _, ⟨T6, L6, k6, n6⟩, -, X6, ⟨Lc6, hQ6, l6, y6, z6⟩, st6⟩ := X0.virtualBack hx (y := (⟨"com/example/lachesis/lachesis/engine/RunEnd", "fail", "(Ljava/lang/Throwable;)V"⟩ : MethodName)) (z := (⟨"com/example/lachesis/lachesis/engine/RunEnd", "fail", "(Ljava/lang/Throwable;)V"⟩ : MethodName)) hown (mvT hZ (hw _ (List.mem_of_getElem? (i := 91) rfl))) (mvT hZ (hw _ (List.mem_of_getElem? (i := 92) rfl))) (notFace_of_selects (args := #[]) (mvT hZ (hw _ (List.mem_of_getElem? (i := 94) rfl)))) (mvT hZ (hw _ (List.mem_of_getElem? (i := 94) rfl))) (mvT hZ (hw _ (List.mem_of_getElem? (i := 93) rfl))) (by decide) (backOf (W := 0) (rm_fail l Z a0 hw [] a t2 fv cv h0 n0 O F_failure_a F_closed_a E_a g_a) hZ (hw _ (List.mem_of_getElem? (i := 95) rfl)) (hw _ (List.mem_of_getElem? (i := 2) rfl)) (by decide) (by decide)) q6a q6c (g := (mkF m 36 #[.val (.ref a), .val (.ref t1), .val (.ref t2), .val (.int op), .val (.int s0)] [(.ref t2), (.ref a)])) rfl (by rw [hml]; rfl) (Steps.refl _) (argsL := [(.ref t2)]) (rest := []) (lenOf pd_0 rfl) rfl (by show 2 * 0 + _ ≤ _; exact Nat.le_of_eq rfl) (hb hby d10_36) (fun _ _ => ⟨rfl, e0, (by decide : 0 + 0 ≤ _), (by decide : 0 + 0 ≤ _)⟩)
        dsimp only [Pt.U, Pt.locs, Pt.cells, Pt.slots] at X6 l6 y6 z6 st6 hQ6
        subst l6 y6 z6
        obtain ⟨rfl, N6, K6, F_failure_a, F_closed_a⟩ := hQ6
        have N6' := Fr.app N0 N6
        replace E_a := E_a.keep K6
        replace O := O.keep K6 (allS g_a all0)
        replace K := K.trans K6 (allS (Or.inl (by simp)) all0)
        refine Goes.to (T' := T6) (mkF m 39 #[.val (.ref a), .val (.ref t1), .val (.ref t2), .val (.int op), .val (.int s0)] []) (fun t k => st6.trans k) ?_
        refine Goes.to (T' := T6) (mkF m 41 #[.val (.ref a), .val (.ref t1), .val (.ref t2), .val (.int op), .val (.int s0)] [(.int s0)]) (fun t k => XS.iload X6.here hx rfl (hb hby d10_39) rfl k) ?_
        refine Goes.to (T' := T6) (mkF m 42 #[.val (.ref a), .val (.ref t1), .val (.ref t2), .val (.int op), .val (.int s0)] [(.int (1 : Int32)), (.int s0)]) (fun t k => XS.iconst X6.here hx rfl (hb hby d10_41) k) ?_
        refine Goes.to (T' := T6) (mkF m 43 #[.val (.ref a), .val (.ref t1), .val (.ref t2), .val (.int op), .val (.int s0)] [(.int (s0 ||| (1 : Int32)))]) (fun t k => XS.ior X6.here hx rfl (hb hby d10_42) rfl k) ?_
        refine Goes.retI X6 hx Bd.notSynchronized Bd.returns (hb hby d10_43) (by decide) (by decide) ?_
        exact ⟨_, _, _, rfl, N6', K, F_failure_a, F_closed_a, own_inv1⟩
      · refine Goes.to (T' := s₁) (mkF m 44 #[.val (.ref a), .val (.ref t1), .val (.ref t2), .val (.int op), .val (.int s0)] []) (fun t k => XS.icmpYes X0.here hx rfl (pc0 := 31) (pc' := 44) rfl (hb hby d10_31) rfl (feq hc31_5).2 (by decide) (by decide) k) ?_
        refine Goes.to (T' := s₁) (mkF m 46 #[.val (.ref a), .val (.ref t1), .val (.ref t2), .val (.int op), .val (.int s0)] [(.int s0)]) (fun t k => XS.iload X0.here hx rfl (hb hby d10_44) rfl k) ?_
        refine Goes.retI X0 hx Bd.notSynchronized Bd.returns (hb hby d10_46) (by decide) (by decide) ?_
        rw [e0]
        exact ⟨_, _, _, rfl, N0, K, F_failure_a, F_closed_a, I⟩
section OwnThr
open Jvm.Free.Exc LibCode.Throwable
/-- the words on java.lang.Throwable that this sheet holds; the layout is told of the thrown class rc alone -/
def own_thrW (rc : String) : List Jvm.Cond := [
  .native tFill0, .instanceMethod tFill0, .instanceMethod tFill, .codeSync tFill Fill.code 1 (some (.object tN)), .initialized tN, .superclass tN "java/lang/Object",
  .instanceMethod oInit, .code oInit object_method_1_code 1 none, .methodLink tN 1 oInit, .methodLink tN 27 tFill, .methodLink tN 202 tFill0,
  .fieldLink tN 7 tN "cause" thD, .fieldLink tN 17 tN "stackTrace" steD, .fieldLink tN 24 tN "suppressedExceptions" listD, .fieldLink tN 198 tN "backtrace" obD,
  .lays rc tN "cause" thD, .lays rc tN "stackTrace" steD, .lays rc tN "suppressedExceptions" listD, .lays rc tN "detailMessage" msgD, .lays rc tN "backtrace" obD, .lays rc tN "depth" "I",
  .fieldLink tN 13 tN "UNASSIGNED_STACK" steD, .laysStatic tN "UNASSIGNED_STACK" steD, .fieldLink tN 20 tN "SUPPRESSED_SENTINEL" listD, .laysStatic tN "SUPPRESSED_SENTINEL" listD,
  .arrayOver (.object "java/lang/Object"), .soleField tN "backtrace", .soleField tN "depth", .selects rc tFill0 tFill0]
theorem own_par {d : String} {g : MethodDescriptor} {ps : List FieldType} (h : parseMethodDescriptor d = some g) (q : (parseMethodDescriptor d).map (·.parameters) = some ps) : g.parameters = ps := by
  rw [h] at q; simpa using q
/-- Throwable's tables, where the layout words speak of rc -/
theorem own_thr {args : Array Value} {s : State} {pl : Platform} {rc : String} (howns : pl.frameOwnsMonitors = true) (hfin : pl.finalization = false) (hpl : pl.magicAccessors = ({} : Platform).magicAccessors) (hh : ∀ d ∈ own_thrW rc, d.before args s = true) :
    ∃ T : ThrowableC, T.Links pl s ∧ s.vm.findClass tN = some T.cT ∧ s.methodNamed? tFill = some T.fill ∧ s.methodNamed? tFill0 = some T.fill0 ∧ s.fieldFound? tN "stackTrace" steD = some (T.cT, T.kT, T.i17, T.fStack) ∧
      s.fieldFound? tN "UNASSIGNED_STACK" steD = some (T.cT, T.kT, T.i13, T.fUnassigned) ∧ T.fStack.type = .array (.object "java/lang/StackTraceElement") ∧ T.fStack.name = "stackTrace" := by
  have w : ∀ {d}, d ∈ own_thrW rc → d.holds args s none s [] = true := fun hd => hh _ hd
  -- the native, and with it the class
  obtain ⟨⟨tc, jn⟩, mN, nN, eN, natN, codN, lokN, sigN⟩ := Cond.native_spec (w (d := .native tFill0) (by simp [own_thrW]))
  have fc : s.vm.findClass tN = some tc := findClass_of_methodNamed nN
  obtain ⟨tk, ck, kn⟩ := Vm.findClass_spec fc
  obtain ⟨_, k1, _, _, r1, _, _, _, _, nif⟩ := Cond.superclass_spec fc (w (d := .superclass tN "java/lang/Object") (by simp [own_thrW]))
  obtain rfl : tk = k1 := Option.some.inj (ck.symm.trans r1)
  obtain ⟨j0, m0, nA, eA, atA, stA, abA, nmA, dsA⟩ := Cond.ownMethod (x := tFill0) fc ck (w (d := .instanceMethod tFill0) (by simp [own_thrW]))
  obtain rfl : jn = j0 := by have := Option.some.inj (nN.symm.trans nA); simpa using this
  obtain rfl : mN = m0 := Option.some.inj (eN.symm.trans eA)
  -- fillInStackTrace()
  obtain ⟨jF, mF, nF, eF, atF, stF, abF, _, _⟩ := Cond.ownMethod (x := tFill) fc ck (w (d := .instanceMethod tFill) (by simp [own_thrW]))
  obtain ⟨mF2, cF, eF2, codF, byF, loF, reF, lkF, _, sigF⟩ := Cond.codeSync_spec nF (w (d := .codeSync tFill Fill.code 1 (some (.object tN))) (by simp [own_thrW]))
  obtain rfl : mF = mF2 := Option.some.inj (eF.symm.trans eF2)
  -- Object's constructor
  obtain ⟨oM, mO, nO, eO, stO, abO⟩ := Cond.instanceMethod_spec (w (d := .instanceMethod oInit) (by simp [own_thrW]))
  obtain ⟨mO2, cO, eO2, codO, byO, _, _, lkO, _, sigO⟩ := Cond.code_spec nO (w (d := .code oInit object_method_1_code 1 none) (by simp [own_thrW]))
  obtain rfl : mO = mO2 := Option.some.inj (eO.symm.trans eO2)
  obtain ⟨kO, okc, okn⟩ := Vm.findClass_spec (findClass_of_methodNamed nO)
  have nameO := name_of_methodNamed nO eO
  -- the links
  obtain ⟨u1, v1, cf, a1, a2, a3, a4⟩ := Cond.linkedMethod fc ck nO (w (d := .methodLink tN 1 oInit) (by simp [own_thrW])) pl hpl
  obtain ⟨u27, v27, cf2, b1, b2, b3, b4⟩ := Cond.linkedMethod fc ck nF (w (d := .methodLink tN 27 tFill) (by simp [own_thrW])) pl hpl
  obtain ⟨u202, v202, cf3, d1, d2, d3, d4⟩ := Cond.linkedMethod fc ck nN (w (d := .methodLink tN 202 tFill0) (by simp [own_thrW])) pl hpl
  obtain rfl : cf = cf2 := Option.some.inj (a3.symm.trans b3)
  obtain rfl : cf = cf3 := Option.some.inj (a3.symm.trans d3)
  -- the fields
  obtain ⟨x7, i7, f7, l7, r7, t7, s7, n7, -⟩ := Cond.ownField (t := .object tN) fc ck (by decide +kernel) (w (d := .fieldLink tN 7 tN "cause" thD) (by simp [own_thrW])) (w (d := .lays rc tN "cause" thD) (by simp [own_thrW])) pl hpl
  obtain ⟨x17, i17, f17, l17, r17, t17, s17, n17, m17, y17, g17⟩ := Cond.ownField (t := .array (.object "java/lang/StackTraceElement")) fc ck (by decide +kernel) (w (d := .fieldLink tN 17 tN "stackTrace" steD) (by simp [own_thrW])) (w (d := .lays rc tN "stackTrace" steD) (by simp [own_thrW])) pl hpl
  obtain ⟨x24, i24, f24, l24, r24, t24, s24, n24, m24, _, g24⟩ := Cond.ownField (t := .object "java/util/List") fc ck (by decide +kernel) (w (d := .fieldLink tN 24 tN "suppressedExceptions" listD) (by simp [own_thrW])) (w (d := .lays rc tN "suppressedExceptions" listD) (by simp [own_thrW])) pl hpl
  obtain ⟨x13, i13, f13, aS, _, l13, r13, t13, s13, _, _, sta, _, _, _, _, g13⟩ := Cond.ownStatic (t := .array (.object "java/lang/StackTraceElement")) fc ck (by decide +kernel) (w (d := .fieldLink tN 13 tN "UNASSIGNED_STACK" steD) (by simp [own_thrW])) (w (d := .laysStatic tN "UNASSIGNED_STACK" steD) (by simp [own_thrW])) pl hpl
  obtain ⟨x20, i20, f20, _, _, l20, r20, t20, s20, -⟩ := Cond.ownStatic (t := .object "java/util/List") fc ck (by decide +kernel) (w (d := .fieldLink tN 20 tN "SUPPRESSED_SENTINEL" listD) (by simp [own_thrW])) (w (d := .laysStatic tN "SUPPRESSED_SENTINEL" listD) (by simp [own_thrW])) pl hpl
  obtain ⟨cX, kX, _, _, _, fM, fX, xk, _, sM, nM, -⟩ := Cond.lays_spec (w (d := .lays rc tN "detailMessage" msgD) (by simp [own_thrW]))
  obtain ⟨-, eS, hS1, hS2⟩ := Cond.laysAt fX xk g17 (w (d := .lays rc tN "stackTrace" steD) (by simp [own_thrW]))
  obtain ⟨-, eP, hP1, hP2⟩ := Cond.laysAt fX xk g24 (w (d := .lays rc tN "suppressedExceptions" listD) (by simp [own_thrW]))
  have apart := Cond.laysApart hS1 hP1 hS2 hP2 (by rw [m17, m24]; decide)
  refine ⟨{ cT := tc, kT := tk, cO := tc, aS := aS, fillIdx := jF, fill0Idx := jn, initSIdx := jF, obj := oM, kObj := kO, methFill := mF, methFill0 := mN, methInitS := mF, methObj := mO, codeFill := cF, codeInitS := cF, codeObj := cO, fBack := f7, fDepth := f7, fStack := f17, fCause := f7, fSupp := f24, fMsg := fM, fUnassigned := f13, fSentinel := f20, cfT := cf, ci1 := u1, n1 := v1, ci27 := u27, n27 := v27, ci202 := u202, n202 := v202, ci7 := x7, i7 := i7, ci13 := x13, i13 := i13, ci17 := x17, i17 := i17, ci20 := x20, i20 := i20, ci24 := x24, i24 := i24 }, ?_, fc, nF, nN, g17, g13, y17, m17⟩
  constructor
  case owns => exact howns
  case noFinalization => exact hfin
  case cls => exact ck
  case name => exact kn
  case boot => exact Vm.findClass_boot fc ck
  case notInterface => exact nif
  case initialized => exact Cond.initialized_spec fc ck (w (d := .initialized tN) (by simp [own_thrW]))
  case statics => exact sta
  case fillAt => exact atF
  case fillCode => exact codF
  case fillBytes => exact byF
  case fillLocals => exact loF
  case fillLocks => exact lkF
  case fillStatic => exact stF
  case fillAbstract => exact abF
  case fillReturns => exact reF
  case fillParams => exact own_par sigF (by decide +kernel)
  case fill0At => exact atA
  case fill0Name => exact nmA
  case fill0Desc => exact dsA
  case fill0Params => exact own_par sigN (by decide +kernel)
  case fill0Static => exact stA
  case fill0Native => exact natN
  case fill0Code => exact codN
  case fill0Locks => exact lokN
  case fill0Abstract => exact abA
  case stackInstance => exact s17
  case stackNotFinal => exact n17
  case unassignedStatic => exact s13
  case objClass => exact okc
  case objClassName => exact okn
  case objMethod => exact eO
  case objName => exact nameO.1
  case objStatic => exact stO
  case objAbstract => exact abO
  case objFound => show lookupSpecial s.vm oM.cls "<init>" mO.desc = _; rw [nameO.2]; exact lookupSpecial_of_named nO eO stO
  case objParams => show mO.sig.parameters.length = 0; rw [own_par (ps := []) sigO (by decide +kernel)]; rfl
  case objCode => exact codO
  case objBytes => exact byO
  case objLocks => exact lkO
  case causeInstance => exact s7
  case causeNotFinal => exact n7
  case sentinelStatic => exact s20
  case suppInstance => exact s24
  case suppNotFinal => exact n24
  case msgInstance => exact sM
  case msgNotFinal => exact nM
  case stackApartSupp => exact apart
  case file => exact a3
  case mlink1 => exact a1
  case mright1 => exact a2
  case pool1 => exact a4
  case mlink27 => exact b1
  case mright27 => exact b2
  case pool27 => exact b4
  case mlink202 => exact d1
  case mright202 => exact d2
  case pool202 => exact d4
  case link7 => exact l7
  case right7 => exact r7
  case at7 => exact t7
  case link13 => exact l13
  case right13 => exact r13
  case at13 => exact t13
  case link17 => exact l17
  case right17 => exact r17
  case at17 => exact t17
  case link20 => exact l20
  case right20 => exact r20
  case at20 => exact t20
  case link24 => exact l24
  case right24 => exact r24
  case at24 => exact t24
theorem own_found {Z s : State} (hal : Z.vm.Alike s.vm) {C n d : String} {c i : Nat} {k : Class} {f : Field} (h : Z.fieldFound? C n d = some (c, k, i, f)) : ∃ k', s.fieldFound? C n d = some (c, k', i, f) ∧ k'.statics = k.statics := by
  obtain ⟨k', h1, h2⟩ := State.fieldFound?_setVm hal h
  exact ⟨k', h1, by rw [h2]⟩
/-- fillInStackTrace() on an object of class rc that the walk has made -/
theorem own_fill {p : Program} {l : Launch} {e : Env} {R : Room} {s : State} {args : Array Value} {below : List Frame} {len W : Nat} {Z : State} {a0 : Array Value} {h : Heap} {x : Addr} {rc : String} {ki : Nat} {u dm : Value} (hx : p.tables.exec = Jvm.exec) (hst : l.stackTraces = true) (hadm : l.admits e) (hZ : Z.Warmed39 s.vm)
    (wz : ∀ d ∈ own_thrW rc, d.before args s = true) (wi : (Jvm.Cond.instantiable rc ki).before a0 Z = true) (hTK : s.vm.MethodsKnown) (hB : s.vm.FramesKnown below)
    (E : Exa Z h x rc) (N : Unt h x) (F1 : Fld Z h x tN "stackTrace" steD u) (F2 : Fld Z h x tN "backtrace" obD .null) (F3 : Fld Z h x tN "detailMessage" msgD dm) (S : Sta Z h tN "UNASSIGNED_STACK" steD u) (hu : u.isRef = true) (hfr : 3 ≤ R.frames) (hlo : W + 42 ≤ R.locals) :
    Back l R p e below s args tFill len W (fun P a => a = #[.ref x] ∧ P.U.heap = h ∧ P.cells + 1 ≤ R.cells ∧ P.slots + 2752 ≤ R.slots)
      (fun P _ v B => ∃ L, (v = some (.ref x) ∧ (∀ y ∈ L, y.base = x) ∧ Fld Z B.U.heap x tN "detailMessage" msgD dm) ∧ B.locs = P.locs ++ L ∧ B.cells = P.cells + 1 ∧ B.slots = P.slots + 2752) := by
  have w : ∀ {d}, d ∈ own_thrW rc → d.holds args s none s [] = true := fun hd => wz _ hd
  have htr : e.platform.stackTraces = true := by rw [hadm.platform]; exact hst
  have hpl : e.platform.magicAccessors = ({} : Platform).magicAccessors := by rw [hadm.platform]
  obtain ⟨T, L, fc, nF, n0, gS, gU, tyS, nmS⟩ := own_thr (pl := e.platform) (by rw [hadm.platform]) (by rw [hadm.platform]) hpl wz
  have hal := hZ.alike
  -- the object
  obtain ⟨cell, k, c1, c2, c3, c4, c5⟩ := E
  obtain ⟨cl2, d1, d2, d3⟩ := N
  obtain rfl : cell = cl2 := Option.some.inj (c1.symm.trans d1)
  obtain ⟨ci, kk, i1, i2, i3, -⟩ := Cond.instantiable_spec wi
  obtain rfl : ci = cell.cls := Option.some.inj (i1.symm.trans c2)
  obtain rfl : kk = k := Option.some.inj (i2.symm.trans c3)
  obtain ⟨kX, xk, xe⟩ := hal.2.2 _ _ c3
  have fX : s.vm.findClass rc = some cell.cls := by rw [hal.findClass]; exact c2
  have hord : kX.kind = .ordinary := by rw [xe]; exact i3
  have hsz : cell.slots.size = kX.instanceTypes.size := by rw [xe]; exact c5 i3
  -- its slots
  obtain ⟨cl3, q1, q2, q3, f1, q5, q6, -, -, -, -, vS⟩ := F1
  obtain rfl : cell = cl3 := Option.some.inj (c1.symm.trans q5)
  obtain ⟨k1, y1, -⟩ := own_found hal q6
  obtain rfl : f1 = T.fStack := by have := y1.symm.trans gS; simp only [Option.some.injEq, Prod.mk.injEq] at this; exact this.2.2.2
  obtain ⟨ci8, i8, fB, l8, r8, t8, s8, -, nB, tyB, gB⟩ := Cond.ownField (t := .object "java/lang/Object") fc L.cls (by decide +kernel) (w (d := .fieldLink tN 198 tN "backtrace" obD) (by simp [own_thrW])) (w (d := .lays rc tN "backtrace" obD) (by simp [own_thrW])) e.platform hpl
  obtain ⟨cl4, q1, q2, q3, f2, q5, q6, -, -, -, -, vB⟩ := F2
  obtain rfl : cell = cl4 := Option.some.inj (c1.symm.trans q5)
  obtain ⟨k2, y2, -⟩ := own_found hal q6
  obtain rfl : f2 = fB := by have := y2.symm.trans gB; simp only [Option.some.injEq, Prod.mk.injEq] at this; exact this.2.2.2
  obtain ⟨cl5, mc, mk3, mi, fM, q5, q6, q7, q8, q9, q10, vM⟩ := F3
  obtain rfl : cell = cl5 := Option.some.inj (c1.symm.trans q5)
  obtain ⟨k3, y3, -⟩ := own_found hal q6
  obtain ⟨_, _, cD, kD, iD, fD, _, _, gD, sD, -⟩ := Cond.lays_spec (w (d := .lays rc tN "depth" "I") (by simp [own_thrW]))
  obtain rfl : cD = T.cT := Option.some.inj ((Cond.lays_declared (w (d := .lays rc tN "depth" "I") (by simp [own_thrW])) gD).symm.trans fc)
  obtain ⟨kD1, tD⟩ := State.fieldFound?_spec gD
  obtain rfl : kD = T.kT := Option.some.inj (kD1.symm.trans L.cls)
  obtain ⟨nD, tyD⟩ := State.fieldFound?_type gD (t := .int) (by decide +kernel)
  have nM := (State.fieldFound?_type y3 (t := .object "java/lang/String") (by decide +kernel)).1
  obtain ⟨zS, eS, hS1, hS2⟩ := Cond.laysAt fX xk gS (w (d := .lays rc tN "stackTrace" steD) (by simp [own_thrW]))
  obtain ⟨zB, eB, hB1, hB2⟩ := Cond.laysAt fX xk gB (w (d := .lays rc tN "backtrace" obD) (by simp [own_thrW]))
  obtain ⟨zD, eD, hD1, hD2⟩ := Cond.laysAt fX xk gD (w (d := .lays rc tN "depth" "I") (by simp [own_thrW]))
  obtain ⟨-, eM, hM1, hM2⟩ := Cond.laysAt fX xk y3 (w (d := .lays rc tN "detailMessage" msgD) (by simp [own_thrW]))
  have mB := Cond.laysApart hM1 hB1 hM2 hB2 (by rw [nM, nB]; decide)
  have mD := Cond.laysApart hM1 hD1 hM2 hD2 (by rw [nM, nD]; decide)
  have mS := Cond.laysApart hM1 hS1 hM2 hS2 (by rw [nM, nmS]; decide)
  -- the statics
  obtain ⟨cu, iu, ku, fu, st, cs, o1, -, -, o4, o5, o6, o7⟩ := S
  obtain ⟨k4, y4, e4⟩ := own_found hal o1
  have h4 := y4.symm.trans gU
  simp only [Option.some.injEq, Prod.mk.injEq] at h4
  obtain ⟨-, rfl, -, rfl⟩ := h4
  obtain rfl : st = T.aS := Option.some.inj ((e4.trans o4).symm.trans L.statics)
  have neS : T.aS ≠ x := fun q => by
    rw [q] at o5
    rw [Option.some.inj (c1.symm.trans o5)] at d2
    rw [d2] at o6; cases o6
  -- the rest
  have sel : selectMethod e.platform s.vm cell.cls T.fill0 = .method T.fill0 := by
    obtain ⟨ca, ra, ma, p1, p2, p3, p4, -⟩ := Cond.selects_spec (w (d := .selects rc tFill0 tFill0) (by simp [own_thrW]))
    cases Option.some.inj (p1.symm.trans fX)
    cases Option.some.inj (p2.symm.trans (State.methodFound?_of_named n0 (by decide)))
    cases Option.some.inj (p3.symm.trans n0)
    rw [Launch.admits_selectMethod hadm]; exact p4
  obtain ⟨comp, cO, kO, -, -, oc, ok, of⟩ := Cond.arrayOver_spec (wz (.arrayOver (.object "java/lang/Object")) (by simp [own_thrW]))
  have tk : ∀ {f : Field} {v : Value}, kX.instanceTypes[f.slot]? = some f.type → fits f.type v = true → Jvm.Takes s cell f v := fun {f v} h1 h2 => by
    obtain ⟨z1, z2⟩ := Takes.of_laid (v := v) xk hord h1 h2
    exact ⟨by rw [hsz]; simpa using z1, by rw [d2]; exact z2⟩
  intro m meth c A g ig mk a X hg hsize hdg hW hmk hP
  obtain ⟨ha, hh, hc, hs⟩ := hP
  obtain ⟨v, B, Y, ⟨hv, C, n, hn, b1, b2, b3, b4, b5, b6, b7, b8⟩, stp⟩ := fillPaysAny (l := l) (R := R) (W := W) (len := len) (sargs := args) hx htr T L nF (u0 := ⟨u, hu⟩) (self := x) (cell := cell) (cellS := cs) (fun _ => by rw [d2]; simp) (by rw [d2]; simp) (by rw [d3]) (by rw [d3]) vS sel neS
    (fun q => by rw [q] at o6; cases o6) o7 (tk zS (by rw [tyS]; exact fits_refV_array _ ⟨u, hu⟩)) ⟨{ ci198 := ci8, i198 := i8, fBack := f2 }, ⟨l8, r8, t8, s8⟩, vB⟩ hTK hB fc of oc ok
    (Cond.soleField_find fc L.cls (w (d := .soleField tN "backtrace") (by simp [own_thrW])) t8 nB s8) (Cond.soleField_find fc L.cls (w (d := .soleField tN "depth") (by simp [own_thrW])) tD nD sD)
    (fun z => tk zB (by rw [tyB]; rfl)) (fun z => tk zD (by rw [tyD]; rfl)) (by omega) hlo m meth c A g ig mk a X hg hsize hdg hW hmk ⟨ha, hc, hs, by rw [hh]; exact c1, by rw [hh]; exact o5⟩
  refine ⟨v, (B.U, B.locs, B.cells, A.slots + 2752), Y.more (Nat.le_refl _) (show B.slots ≤ A.slots + 2752 by rw [b8]; omega), ⟨_, ⟨hv, ?_, ?_⟩, b6, b7, rfl⟩, stp⟩
  · intro y hy
    simp only [List.mem_cons, List.not_mem_nil, or_false] at hy
    rcases hy with rfl | rfl | rfl <;> rfl
  · exact ⟨C, mc, mk3, mi, fM, b1, q6, q7, by rw [b3]; exact q8, by rw [b3]; exact q9, by rw [b2]; exact q10, by rw [b5 _ mB mD mS]; exact vM⟩
/-- what a walk that writes x alone leaves -/
theorem own_keepS {p : Program} {l : Launch} {e : Env} {R : Room} {s : State} {m : MethodId} {args : Array Value} {below : List Frame} {meth : Method} {c : Code} {T : State} {locs : List Loc} {cells slots : Nat} {x : Addr} {h0 : Heap} (X : Stand p l e R s m args below meth c T locs cells slots) (hh : s.heap = h0) (hb : ∀ y ∈ locs, y.base = x) : Keep h0 T.heap [x] := by
  subst hh
  obtain ⟨-, h1, -, -, -, h2⟩ := X.same
  refine ⟨h1, fun y cy hy hn => ?_, fun y cy hy => ?_⟩
  · obtain ⟨c', q1, q2, q3, q4⟩ := h2 y cy hy
    have e : c'.slots = cy.slots := Array.ext_getElem? fun i => q4 i fun hm => hn (by rw [← hb _ hm]; simp)
    rw [e] at q2
    have q1' : T.heap[y]? = some c' := q1
    rw [q1', q2]
  · obtain ⟨c', q1, q2, q3, -⟩ := h2 y cy hy
    exact ⟨c', q1, by rw [q2], by rw [q2], q3⟩
theorem own_fb0 {x : Addr} : ∀ y ∈ ([] : List Loc), y.base = x := fun _ q => nomatch q
theorem own_fbs {x : Addr} {locs : List Loc} {sl : Nat} (B : ∀ y ∈ locs, y.base = x) : ∀ y ∈ locs ++ [(⟨x, sl⟩ : Loc)], y.base = x := fun y hy => by
  rcases List.mem_append.mp hy with q | q
  · exact B y q
  · rw [List.mem_singleton.mp q]
theorem own_fba {x : Addr} {locs L : List Loc} (B : ∀ y ∈ locs, y.base = x) (C : ∀ y ∈ L, y.base = x) : ∀ y ∈ locs ++ L, y.base = x := fun y hy => by
  rcases List.mem_append.mp hy with q | q
  · exact B y q
  · exact C y q
/-- a call of a method whose law asks that the tables and the frames below are known -/
theorem own_backK {p : Program} {l : Launch} {e : Env} {R : Room} {s : State} {args : Array Value} {below : List Frame} {Z : State} {a0 : Array Value} {h : Heap} {y : MethodName} {bytes : ByteArray} {maxL : Nat} {ret : Option FieldType} {rm : Room} {len W : Nat} {as' : Array Value} {Q : Option Value → Heap → List Loc → Prop}
    (hM : MetFree l y (RoadKit.head1 [Jvm.Cond.code y bytes maxL ret] rm) (fun a U => a = as' ∧ Z.Warmed39 U.vm ∧ U.heap = h) (fun _ _ bl st _ => st.vm.MethodsKnown ∧ st.vm.FramesKnown bl) (fun _ U o U' => ∃ v L, o = .returned v ∧ Q v U'.heap L ∧ FrameEnd U o U' L rm.cells rm.slots))
    (hZ : Z.Warmed39 s.vm) (hTK : s.vm.MethodsKnown) (hB : s.vm.FramesKnown below) (wc : (Jvm.Cond.code y bytes maxL ret).before a0 Z = true) (wz : (Jvm.Cond.initialized y.cls).before a0 Z = true) (hf : rm.frames + 1 ≤ R.frames) (hl : W + (maxL + 11) + rm.locals ≤ R.locals) :
    Back l R p e below s args y len W (fun A a => a = as' ∧ A.U.heap = h ∧ A.cells + rm.cells ≤ R.cells ∧ A.slots + rm.slots ≤ R.slots)
      (fun A _ v B => ∃ L, Q v B.U.heap L ∧ B.locs = A.locs ++ L ∧ B.cells = A.cells + rm.cells ∧ B.slots = A.slots + rm.slots) := by
  refine Back.of_freeG (bytes := bytes) (maxL := maxL) (ret := ret) (E := fun _ _ o t L k n => k = rm.cells ∧ n = rm.slots ∧ ∃ v, o = .returned v ∧ Q v t.heap L) hM hf hl ?_ ?_ ?_ ?_ ?_
  · intro m meth c A a Y hp
    have hU : Z.Warmed39 A.U.vm := wtrans hZ Y.warmed
    refine ⟨?_, mv hU wc, mv hU wz, hp.2.2.1, hp.2.2.2⟩
    show (Jvm.Cond.and _ .tt).before a A.U = true
    rw [Cond.before_and, mv hU wc]; rfl
  · intro m meth c A a g mk Y hp
    exact ⟨hp.1, wtrans hZ Y.warmed, hp.2.1⟩
  · intro m meth c A a g mk Y _ hg
    exact known_frames Y hg hTK hB
  · intro a first o t hq
    obtain ⟨v, L, h1, h2, h3⟩ := hq
    exact ⟨L, _, _, h3, rfl, rfl, v, h1, h2⟩
  · intro m meth c A a g mk v t L k n Y _ _ _ hE
    obtain ⟨e1, e2, v', e3, e4⟩ := hE
    cases e3; subst e1 e2
    exact ⟨L, e4, rfl, rfl, rfl⟩
end OwnThr

theorem own_xok : (own_thrW "com/example/lachesis/lachesis/engine/ClientProcessException").all RoadKit.xOk = true := rfl
theorem own_thr_in : ∀ d ∈ own_thrW "com/example/lachesis/lachesis/engine/ClientProcessException", d ∈ tables_1 := by decide +kernel
theorem pn_java_lang_Throwable : plainName "java/lang/Throwable" = true := by first | (simp [plainName, overriddenIn]; done) | decide +kernel
theorem ef_rm_thi (m : MethodId) (x0 : Addr) (x1 : Addr) : entryFrame m #[(.ref x0), (.ref x1)] 2 = mkF m 0 #[.val (.ref x0), .val (.ref x1)] [] := by first | (simp [entryFrame, mkF, argsToLocals, Value.category]; done) | rfl
def Q_rm_thi (Z : State) (a sm : Addr) (us ss : Value) (h0 : Heap) (n0 : Nat) (v : Option Value) (h : Heap) (L : List Loc) : Prop := v = none ∧ Fr n0 L ∧ Keep h0 h [a]
theorem d6_0 : decode jdk_78_method_2_code 0 = .ok (.aload_n 0, 1) := by decide +kernel
theorem d6_1 : decode jdk_78_method_2_code 1 = .ok (.invokespecial 1, 3) := by decide +kernel
theorem d6_4 : decode jdk_78_method_2_code 4 = .ok (.aload_n 0, 1) := by decide +kernel
theorem d6_5 : decode jdk_78_method_2_code 5 = .ok (.aload_n 0, 1) := by decide +kernel
theorem d6_6 : decode jdk_78_method_2_code 6 = .ok (.putfield 7, 3) := by decide +kernel
theorem d6_9 : decode jdk_78_method_2_code 9 = .ok (.aload_n 0, 1) := by decide +kernel
theorem d6_10 : decode jdk_78_method_2_code 10 = .ok (.getstatic 13, 3) := by decide +kernel
theorem d6_13 : decode jdk_78_method_2_code 13 = .ok (.putfield 17, 3) := by decide +kernel
theorem d6_16 : decode jdk_78_method_2_code 16 = .ok (.aload_n 0, 1) := by decide +kernel
theorem d6_17 : decode jdk_78_method_2_code 17 = .ok (.getstatic 20, 3) := by decide +kernel
theorem d6_20 : decode jdk_78_method_2_code 20 = .ok (.putfield 24, 3) := by decide +kernel
theorem d6_23 : decode jdk_78_method_2_code 23 = .ok (.aload_n 0, 1) := by decide +kernel
theorem pd_2 : parseMethodDescriptor "()Ljava/lang/Throwable;" = some ⟨[], some (.object "java/lang/Throwable")⟩ := by decide +kernel
theorem d6_24 : decode jdk_78_method_2_code 24 = .ok (.invokevirtual 27, 3) := by decide +kernel
theorem d6_27 : decode jdk_78_method_2_code 27 = .ok (.pop, 1) := by decide +kernel
theorem d6_28 : decode jdk_78_method_2_code 28 = .ok (.aload_n 0, 1) := by decide +kernel
theorem d6_29 : decode jdk_78_method_2_code 29 = .ok (.aload_n 1, 1) := by decide +kernel
theorem d6_30 : decode jdk_78_method_2_code 30 = .ok (.putfield 31, 3) := by decide +kernel
theorem d6_33 : decode jdk_78_method_2_code 33 = .ok (.return_, 1) := by decide +kernel
set_option maxRecDepth 65536 in
set_option maxHeartbeats 40000000 in
theorem rm_thi (l : Launch) (Z : State) (a0 : Array Value) (hw : ∀ d ∈ tables_1, d.before a0 Z = true) (ws : List Jvm.Cond) (a sm : Addr) (us ss : Value) (h0 : Heap) (n0 : Nat) (O : Old Z n0 h0) (E_a : Exa Z h0 a "com/example/lachesis/lachesis/engine/ClientProcessException") (U_a : Unt h0 a) (F_cause_a : Fld Z h0 a "java/lang/Throwable" "cause" "Ljava/lang/Throwable;" .null) (F_stackTrace_a : Fld Z h0 a "java/lang/Throwable" "stackTrace" "[Ljava/lang/StackTraceElement;" .null) (F_suppressedExceptions_a : Fld Z h0 a "java/lang/Throwable" "suppressedExceptions" "Ljava/util/List;" .null) (F_detailMessage_a : Fld Z h0 a "java/lang/Throwable" "detailMessage" "Ljava/lang/String;" .null) (F_backtrace_a : Fld Z h0 a "java/lang/Throwable" "backtrace" "Ljava/lang/Object;" .null) (g_a : n0 ≤ a) (S_US : Sta Z Z.heap "java/lang/Throwable" "UNASSIGNED_STACK" "[Ljava/lang/StackTraceElement;" us) (hus : us.isRef = true) (S_SS : Sta Z Z.heap "java/lang/Throwable" "SUPPRESSED_SENTINEL" "Ljava/util/List;" ss) (hss : ss.isRef = true) (hst : l.stackTraces = true) :
    MetFree l (⟨"java/lang/Throwable", "<init>", "(Ljava/lang/String;)V"⟩ : MethodName) (head1 (Jvm.Cond.code (⟨"java/lang/Throwable", "<init>", "(Ljava/lang/String;)V"⟩ : MethodName) jdk_78_method_2_code 2 none :: ws) ({ frames := 3, cells := 1, slots := 2752, locals := 42 } : Room)) (fun aa U => aa = #[(.ref a), (.ref sm)] ∧ Z.Warmed39 U.vm ∧ U.heap = h0) (fun _ _ bl st _ => st.vm.MethodsKnown ∧ st.vm.FramesKnown bl) (fun _ U o U' => ∃ v L, o = .returned v ∧ Q_rm_thi Z a sm us ss h0 n0 v U'.heap L ∧ FrameEnd U o U' L ({ frames := 3, cells := 1, slots := 2752, locals := 42 } : Room).cells ({ frames := 3, cells := 1, slots := 2752, locals := 42 } : Room).slots) := by
  refine MetFree.of_bodySF (plainFor_of_name pn_java_lang_Throwable) hisR ?_
  intro p e s m args below meth c s₁ Bd hml0 hP hK
  obtain ⟨rfl, hZ, hh⟩ := hP
  have hx := Bd.exec
  have hby := Bd.bytes
  have hml : c.maxLocals = 2 := hml0
  have hown : s.vm.findClass "java/lang/Throwable" = some m.cls := findClass_of_methodNamed Bd.named
  have hnm := (name_of_methodNamed Bd.named Bd.method).1
  have X0 : Stand p l e ({ frames := 3, cells := 1, slots := 2752, locals := 42 } : Room) s m #[(.ref a), (.ref sm)] below meth c s₁ [] 0 0 := Stand.of_body Bd
  have e0 : s₁.heap = h0 := by rw [← hh, Bd.state]; rfl
  have N0 := Fr.nil n0
  have K : Keep h0 h0 [a] := Keep.refl _ _
  show Goes p e below s FrameEnd ({ frames := 3, cells := 1, slots := 2752, locals := 42 } : Room).cells ({ frames := 3, cells := 1, slots := 2752, locals := 42 } : Room).slots (Q_rm_thi Z a sm us ss h0 n0) s₁ (entryFrame m #[(.ref a), (.ref sm)] 2)
  refine Goes.cast (ef_rm_thi m a sm) ?_
  have T0 : ThS Z s.heap := by rw [hh]; exact ThS.start.ext O.2
  have wz : ∀ d ∈ own_thrW "com/example/lachesis/lachesis/engine/ClientProcessException", d.before #[(.ref a), (.ref sm)] s = true := fun d hd => mvX T0 hZ (List.all_eq_true.mp own_xok d hd) (hw d (own_thr_in d hd))
  have E0_a := E_a
  have O0 := O
  refine Goes.to (T' := s₁) (mkF m 1 #[.val (.ref a), .val (.ref sm)] [(.ref a)]) (fun t k => XS.aloadN X0.here hx rfl (hb hby d6_0) rfl rfl k) ?_
  obtain ⟨T1, X1, e1, st1⟩ := initO X0 hx hZ hown (hw _ (List.mem_of_getElem? (i := 40) rfl)) (hw _ (List.mem_of_getElem? (i := 7) rfl)) (hw _ (List.mem_of_getElem? (i := 8) rfl)) e0 (g := (mkF m 1 #[.val (.ref a), .val (.ref sm)] [(.ref a)])) rfl (by rw [hml]; rfl) rfl (hb hby d6_1) (by decide) (W := 0) (by show 2 * 0 + _ ≤ _; exact Nat.le_of_eq rfl) (by decide)
  refine Goes.to (T' := T1) (mkF m 4 #[.val (.ref a), .val (.ref sm)] []) st1 ?_
  refine Goes.to (T' := T1) (mkF m 5 #[.val (.ref a), .val (.ref sm)] [(.ref a)]) (fun t k => XS.aloadN X1.here hx rfl (hb hby d6_4) rfl rfl k) ?_
  refine Goes.to (T' := T1) (mkF m 6 #[.val (.ref a), .val (.ref sm)] [(.ref a), (.ref a)]) (fun t k => XS.aloadN X1.here hx rfl (hb hby d6_5) rfl rfl k) ?_
  obtain ⟨T2, h2, X2, e2, W2, st2⟩ := putF X1 hx hZ hown (host := "") (Or.inl (hw _ (List.mem_of_getElem? (i := 41) rfl))) Via.refl e1 F_cause_a E_a (Or.inl (hw _ (List.mem_of_getElem? (i := 42) rfl))) (hw _ (List.mem_of_getElem? (i := 10) rfl)) (ty := (.object "java/lang/Throwable")) (by decide) rfl rfl (g := (mkF m 6 #[.val (.ref a), .val (.ref sm)] [(.ref a), (.ref a)])) rfl rfl (hb hby d6_6)
  replace E_a := E_a.wr W2
  replace U_a := U_a.wr W2
  replace F_cause_a := F_cause_a.same W2
  replace F_stackTrace_a := F_stackTrace_a.other W2 (Or.inr (slot_ne (Or.inl (hw _ (List.mem_of_getElem? (i := 45) rfl))) (Or.inl (hw _ (List.mem_of_getElem? (i := 42) rfl))) (by decide) (t := (.array (.object "java/lang/StackTraceElement"))) (t' := (.object "java/lang/Throwable")) (by decide) (by decide)))
  replace F_suppressedExceptions_a := F_suppressedExceptions_a.other W2 (Or.inr (slot_ne (Or.inl (hw _ (List.mem_of_getElem? (i := 48) rfl))) (Or.inl (hw _ (List.mem_of_getElem? (i := 42) rfl))) (by decide) (t := (.object "java/util/List")) (t' := (.object "java/lang/Throwable")) (by decide) (by decide)))
  replace F_detailMessage_a := F_detailMessage_a.other W2 (Or.inr (slot_ne (Or.inl (hw _ (List.mem_of_getElem? (i := 72) rfl))) (Or.inl (hw _ (List.mem_of_getElem? (i := 42) rfl))) (by decide) (t := (.object "java/lang/String")) (t' := (.object "java/lang/Throwable")) (by decide) (by decide)))
  replace F_backtrace_a := F_backtrace_a.other W2 (Or.inr (slot_ne (Or.inl (hw _ (List.mem_of_getElem? (i := 73) rfl))) (Or.inl (hw _ (List.mem_of_getElem? (i := 42) rfl))) (by decide) (t := (.object "java/lang/Object")) (t' := (.object "java/lang/Throwable")) (by decide) (by decide)))
  replace O := O.wr W2 g_a
  replace K := K.wr W2 (Or.inl (by simp))
  have N2 := Fr.snoc X2 N0 g_a
  refine Goes.to (T' := T2) (mkF m 9 #[.val (.ref a), .val (.ref sm)] []) st2 ?_
  refine Goes.to (T' := T2) (mkF m 10 #[.val (.ref a), .val (.ref sm)] [(.ref a)]) (fun t k => XS.aloadN X2.here hx rfl (hb hby d6_9) rfl rfl k) ?_
  obtain ⟨T3, X3, e3, st3⟩ := getS2 X2 hx hZ hown (host := "") (Or.inl (hw _ (List.mem_of_getElem? (i := 43) rfl))) Via.refl e2 (S_US.ext O.2) (g := (mkF m 10 #[.val (.ref a), .val (.ref sm)] [(.ref a)])) rfl (hb hby d6_10)
  refine Goes.to (T' := T3) (mkF m 13 #[.val (.ref a), .val (.ref sm)] [us, (.ref a)]) st3 ?_
  obtain ⟨T4, h4, X4, e4, W4, st4⟩ := putF X3 hx hZ hown (host := "") (Or.inl (hw _ (List.mem_of_getElem? (i := 44) rfl))) Via.refl e3 F_stackTrace_a E_a (Or.inl (hw _ (List.mem_of_getElem? (i := 45) rfl))) (hw _ (List.mem_of_getElem? (i := 10) rfl)) (ty := (.array (.object "java/lang/StackTraceElement"))) (by decide) (narrow_refV _ ⟨us, hus⟩) (fits_refV_array _ ⟨us, hus⟩) (g := (mkF m 13 #[.val (.ref a), .val (.ref sm)] [us, (.ref a)])) rfl rfl (hb hby d6_13)
  replace E_a := E_a.wr W4
  replace U_a := U_a.wr W4
  replace F_cause_a := F_cause_a.other W4 (Or.inr (slot_ne (Or.inl (hw _ (List.mem_of_getElem? (i := 42) rfl))) (Or.inl (hw _ (List.mem_of_getElem? (i := 45) rfl))) (by decide) (t := (.object "java/lang/Throwable")) (t' := (.array (.object "java/lang/StackTraceElement"))) (by decide) (by decide)))
  replace F_stackTrace_a := F_stackTrace_a.same W4
  replace F_suppressedExceptions_a := F_suppressedExceptions_a.other W4 (Or.inr (slot_ne (Or.inl (hw _ (List.mem_of_getElem? (i := 48) rfl))) (Or.inl (hw _ (List.mem_of_getElem? (i := 45) rfl))) (by decide) (t := (.object "java/util/List")) (t' := (.array (.object "java/lang/StackTraceElement"))) (by decide) (by decide)))
  replace F_detailMessage_a := F_detailMessage_a.other W4 (Or.inr (slot_ne (Or.inl (hw _ (List.mem_of_getElem? (i := 72) rfl))) (Or.inl (hw _ (List.mem_of_getElem? (i := 45) rfl))) (by decide) (t := (.object "java/lang/String")) (t' := (.array (.object "java/lang/StackTraceElement"))) (by decide) (by decide)))
  replace F_backtrace_a := F_backtrace_a.other W4 (Or.inr (slot_ne (Or.inl (hw _ (List.mem_of_getElem? (i := 73) rfl))) (Or.inl (hw _ (List.mem_of_getElem? (i := 45) rfl))) (by decide) (t := (.object "java/lang/Object")) (t' := (.array (.object "java/lang/StackTraceElement"))) (by decide) (by decide)))
  replace O := O.wr W4 g_a
  replace K := K.wr W4 (Or.inl (by simp))
  have N4 := Fr.snoc X4 N2 g_a
  refine Goes.to (T' := T4) (mkF m 16 #[.val (.ref a), .val (.ref sm)] []) st4 ?_
  refine Goes.to (T' := T4) (mkF m 17 #[.val (.ref a), .val (.ref sm)] [(.ref a)]) (fun t k => XS.aloadN X4.here hx rfl (hb hby d6_16) rfl rfl k) ?_
  obtain ⟨T5, X5, e5, st5⟩ := getS2 X4 hx hZ hown (host := "") (Or.inl (hw _ (List.mem_of_getElem? (i := 46) rfl))) Via.refl e4 (S_SS.ext O.2) (g := (mkF m 17 #[.val (.ref a), .val (.ref sm)] [(.ref a)])) rfl (hb hby d6_17)
  refine Goes.to (T' := T5) (mkF m 20 #[.val (.ref a), .val (.ref sm)] [ss, (.ref a)]) st5 ?_
  obtain ⟨T6, h6, X6, e6, W6, st6⟩ := putF X5 hx hZ hown (host := "") (Or.inl (hw _ (List.mem_of_getElem? (i := 47) rfl))) Via.refl e5 F_suppressedExceptions_a E_a (Or.inl (hw _ (List.mem_of_getElem? (i := 48) rfl))) (hw _ (List.mem_of_getElem? (i := 10) rfl)) (ty := (.object "java/util/List")) (by decide) (narrow_refV _ ⟨ss, hss⟩) (fits_refV_object _ ⟨ss, hss⟩) (g := (mkF m 20 #[.val (.ref a), .val (.ref sm)] [ss, (.ref a)])) rfl rfl (hb hby d6_20)
  replace E_a := E_a.wr W6
  replace U_a := U_a.wr W6
  replace F_cause_a := F_cause_a.other W6 (Or.inr (slot_ne (Or.inl (hw _ (List.mem_of_getElem? (i := 42) rfl))) (Or.inl (hw _ (List.mem_of_getElem? (i := 48) rfl))) (by decide) (t := (.object "java/lang/Throwable")) (t' := (.object "java/util/List")) (by decide) (by decide)))
  replace F_stackTrace_a := F_stackTrace_a.other W6 (Or.inr (slot_ne (Or.inl (hw _ (List.mem_of_getElem? (i := 45) rfl))) (Or.inl (hw _ (List.mem_of_getElem? (i := 48) rfl))) (by decide) (t := (.array (.object "java/lang/StackTraceElement"))) (t' := (.object "java/util/List")) (by decide) (by decide)))
  replace F_suppressedExceptions_a := F_suppressedExceptions_a.same W6
  replace F_detailMessage_a := F_detailMessage_a.other W6 (Or.inr (slot_ne (Or.inl (hw _ (List.mem_of_getElem? (i := 72) rfl))) (Or.inl (hw _ (List.mem_of_getElem? (i := 48) rfl))) (by decide) (t := (.object "java/lang/String")) (t' := (.object "java/util/List")) (by decide) (by decide)))
  replace F_backtrace_a := F_backtrace_a.other W6 (Or.inr (slot_ne (Or.inl (hw _ (List.mem_of_getElem? (i := 73) rfl))) (Or.inl (hw _ (List.mem_of_getElem? (i := 48) rfl))) (by decide) (t := (.object "java/lang/Object")) (t' := (.object "java/util/List")) (by decide) (by decide)))
  replace O := O.wr W6 g_a
  replace K := K.wr W6 (Or.inl (by simp))
  have N6 := Fr.snoc X6 N4 g_a
  refine Goes.to (T' := T6) (mkF m 23 #[.val (.ref a), .val (.ref sm)] []) st6 ?_
  refine Goes.to (T' := T6) (mkF m 24 #[.val (.ref a), .val (.ref sm)] [(.ref a)]) (fun t k => XS.aloadN X6.here hx rfl (hb hby d6_23) rfl rfl k) ?_
  obtain ⟨cq7, kq7, q7a, q7b, q7c⟩ := isOf hZ e6 E_a
  obtain ⟨_, _, ⟨T7, L7, k7, n7⟩, -, X7, ⟨Lc7, hQ7, l7, y7, z7⟩, st7⟩ := X6.virtualBack hx (y := (⟨"java/lang/Throwable", "fillInStackTrace", "()Ljava/lang/Throwable;"⟩ : MethodName)) (z := (⟨"java/lang/Throwable", "fillInStackTrace", "()Ljava/lang/Throwable;"⟩ : MethodName)) hown (mvT hZ (hw _ (List.mem_of_getElem? (i := 49) rfl))) (mvT hZ (hw _ (List.mem_of_getElem? (i := 50) rfl))) (notFace_of_selects (args := #[]) (mvT hZ (hw _ (List.mem_of_getElem? (i := 52) rfl)))) (mvT hZ (hw _ (List.mem_of_getElem? (i := 52) rfl))) (mvT hZ (hw _ (List.mem_of_getElem? (i := 51) rfl))) (by decide) (own_fill (W := 0) (u := us) hx hst X0.admits hZ wz (hw _ (List.mem_of_getElem? (i := 10) rfl)) hK.1 hK.2 E_a U_a F_stackTrace_a F_backtrace_a F_detailMessage_a (S_US.ext O.2) hus (by decide) (by decide)) q7a q7c (g := (mkF m 24 #[.val (.ref a), .val (.ref sm)] [(.ref a)])) rfl (by rw [hml]; rfl) (Steps.refl _) (argsL := []) (rest := []) (lenOf pd_2 rfl) rfl (by show 2 * 0 + _ ≤ _; exact Nat.le_of_eq rfl) (hb hby d6_24) (fun _ _ => ⟨rfl, e6, (by decide : 0 + 1 ≤ _), (by decide : 0 + 2752 ≤ _)⟩)
  dsimp only [Pt.U, Pt.locs, Pt.cells, Pt.slots] at X7 l7 y7 z7 st7 hQ7
  subst l7 y7 z7
  obtain ⟨rfl, hL7, F_detailMessage_a⟩ := hQ7
  replace K := own_keepS X7 hh (own_fba (own_fbs (own_fbs (own_fbs own_fb0))) hL7)
  replace O := O0.keep K (allS g_a all0)
  replace E_a := E0_a.keep K
  have N7 := Fr.app N6 (show Fr n0 _ from fun y hy => by rw [hL7 y hy]; exact g_a)
  refine Goes.to (T' := T7) (mkF m 27 #[.val (.ref a), .val (.ref sm)] [(.ref a)]) (fun t k => st7.trans k) ?_
  refine Goes.to (T' := T7) (mkF m 28 #[.val (.ref a), .val (.ref sm)] []) (fun t k => XS.pop X7.here hx rfl (hb hby d6_27) rfl rfl k) ?_
  refine Goes.to (T' := T7) (mkF m 29 #[.val (.ref a), .val (.ref sm)] [(.ref a)]) (fun t k => XS.aloadN X7.here hx rfl (hb hby d6_28) rfl rfl k) ?_
  refine Goes.to (T' := T7) (mkF m 30 #[.val (.ref a), .val (.ref sm)] [(.ref sm), (.ref a)]) (fun t k => XS.aloadN X7.here hx rfl (hb hby d6_29) rfl rfl k) ?_
  obtain ⟨T8, h8, X8, e8, W8, st8⟩ := putF X7 hx hZ hown (host := "") (Or.inl (hw _ (List.mem_of_getElem? (i := 76) rfl))) Via.refl rfl F_detailMessage_a E_a (Or.inl (hw _ (List.mem_of_getElem? (i := 72) rfl))) (hw _ (List.mem_of_getElem? (i := 10) rfl)) (ty := (.object "java/lang/String")) (by decide) rfl rfl (g := (mkF m 30 #[.val (.ref a), .val (.ref sm)] [(.ref sm), (.ref a)])) rfl rfl (hb hby d6_30)
  replace E_a := E_a.wr W8
  replace F_detailMessage_a := F_detailMessage_a.same W8
  replace O := O.wr W8 g_a
  replace K := K.wr W8 (Or.inl (by simp))
  have N8 := Fr.snoc X8 N7 g_a
  refine Goes.to (T' := T8) (mkF m 33 #[.val (.ref a), .val (.ref sm)] []) st8 ?_
  refine Goes.retV X8 hx Bd.notSynchronized Bd.returns (hb hby d6_33) (by decide) (by decide) ?_
  rw [e8]
  exact ⟨rfl, N8, K⟩
theorem pn_java_lang_Exception : plainName "java/lang/Exception" = true := by first | (simp [plainName, overriddenIn]; done) | decide +kernel
theorem ef_rm_exi (m : MethodId) (x0 : Addr) (x1 : Addr) : entryFrame m #[(.ref x0), (.ref x1)] 2 = mkF m 0 #[.val (.ref x0), .val (.ref x1)] [] := by first | (simp [entryFrame, mkF, argsToLocals, Value.category]; done) | rfl
def Q_rm_exi (Z : State) (a sm : Addr) (us ss : Value) (h0 : Heap) (n0 : Nat) (v : Option Value) (h : Heap) (L : List Loc) : Prop := v = none ∧ Fr n0 L ∧ Keep h0 h [a]
theorem d5_0 : decode jdk_59_method_2_code 0 = .ok (.aload_n 0, 1) := by decide +kernel
theorem d5_1 : decode jdk_59_method_2_code 1 = .ok (.aload_n 1, 1) := by decide +kernel
theorem d5_2 : decode jdk_59_method_2_code 2 = .ok (.invokespecial 7, 3) := by decide +kernel
theorem pd_3 : parseMethodDescriptor "(Ljava/lang/String;)V" = some ⟨[(.object "java/lang/String")], none⟩ := by decide +kernel
theorem d5_5 : decode jdk_59_method_2_code 5 = .ok (.return_, 1) := by decide +kernel
set_option maxRecDepth 65536 in
set_option maxHeartbeats 40000000 in
theorem rm_exi (l : Launch) (Z : State) (a0 : Array Value) (hw : ∀ d ∈ tables_1, d.before a0 Z = true) (ws : List Jvm.Cond) (a sm : Addr) (us ss : Value) (h0 : Heap) (n0 : Nat) (O : Old Z n0 h0) (E_a : Exa Z h0 a "com/example/lachesis/lachesis/engine/ClientProcessException") (U_a : Unt h0 a) (F_cause_a : Fld Z h0 a "java/lang/Throwable" "cause" "Ljava/lang/Throwable;" .null) (F_stackTrace_a : Fld Z h0 a "java/lang/Throwable" "stackTrace" "[Ljava/lang/StackTraceElement;" .null) (F_suppressedExceptions_a : Fld Z h0 a "java/lang/Throwable" "suppressedExceptions" "Ljava/util/List;" .null) (F_detailMessage_a : Fld Z h0 a "java/lang/Throwable" "detailMessage" "Ljava/lang/String;" .null) (F_backtrace_a : Fld Z h0 a "java/lang/Throwable" "backtrace" "Ljava/lang/Object;" .null) (g_a : n0 ≤ a) (S_US : Sta Z Z.heap "java/lang/Throwable" "UNASSIGNED_STACK" "[Ljava/lang/StackTraceElement;" us) (hus : us.isRef = true) (S_SS : Sta Z Z.heap "java/lang/Throwable" "SUPPRESSED_SENTINEL" "Ljava/util/List;" ss) (hss : ss.isRef = true) (hst : l.stackTraces = true) :
    MetFree l (⟨"java/lang/Exception", "<init>", "(Ljava/lang/String;)V"⟩ : MethodName) (head1 (Jvm.Cond.code (⟨"java/lang/Exception", "<init>", "(Ljava/lang/String;)V"⟩ : MethodName) jdk_59_method_2_code 2 none :: ws) ({ frames := 4, cells := 1, slots := 2752, locals := 55 } : Room)) (fun aa U => aa = #[(.ref a), (.ref sm)] ∧ Z.Warmed39 U.vm ∧ U.heap = h0) (fun _ _ bl st _ => st.vm.MethodsKnown ∧ st.vm.FramesKnown bl) (fun _ U o U' => ∃ v L, o = .returned v ∧ Q_rm_exi Z a sm us ss h0 n0 v U'.heap L ∧ FrameEnd U o U' L ({ frames := 4, cells := 1, slots := 2752, locals := 55 } : Room).cells ({ frames := 4, cells := 1, slots := 2752, locals := 55 } : Room).slots) := by
  refine MetFree.of_bodySF (plainFor_of_name pn_java_lang_Exception) hisR ?_
  intro p e s m args below meth c s₁ Bd hml0 hP hK
  obtain ⟨rfl, hZ, hh⟩ := hP
  have hx := Bd.exec
  have hby := Bd.bytes
  have hml : c.maxLocals = 2 := hml0
  have hown : s.vm.findClass "java/lang/Exception" = some m.cls := findClass_of_methodNamed Bd.named
  have hnm := (name_of_methodNamed Bd.named Bd.method).1
  have X0 : Stand p l e ({ frames := 4, cells := 1, slots := 2752, locals := 55 } : Room) s m #[(.ref a), (.ref sm)] below meth c s₁ [] 0 0 := Stand.of_body Bd
  have e0 : s₁.heap = h0 := by rw [← hh, Bd.state]; rfl
  have N0 := Fr.nil n0
  have K : Keep h0 h0 [a] := Keep.refl _ _
  show Goes p e below s FrameEnd ({ frames := 4, cells := 1, slots := 2752, locals := 55 } : Room).cells ({ frames := 4, cells := 1, slots := 2752, locals := 55 } : Room).slots (Q_rm_exi Z a sm us ss h0 n0) s₁ (entryFrame m #[(.ref a), (.ref sm)] 2)
  refine Goes.cast (ef_rm_exi m a sm) ?_
  refine Goes.to (T' := s₁) (mkF m 1 #[.val (.ref a), .val (.ref sm)] [(.ref a)]) (fun t k => XS.aloadN X0.here hx rfl (hb hby d5_0) rfl rfl k) ?_
  refine Goes.to (T' := s₁) (mkF m 2 #[.val (.ref a), .val (.ref sm)] [(.ref sm), (.ref a)]) (fun t k => XS.aloadN X0.here hx rfl (hb hby d5_1) rfl rfl k) ?_
  obtain ⟨_, _, ⟨T1, L1, k1, n1⟩, -, X1, ⟨Lc1, hQ1, l1, y1, z1⟩, st1⟩ := X0.specialBack hx (y := (⟨"java/lang/Throwable", "<init>", "(Ljava/lang/String;)V"⟩ : MethodName)) rfl hown (mvT hZ (hw _ (List.mem_of_getElem? (i := 34) rfl))) (mvT hZ (hw _ (List.mem_of_getElem? (i := 35) rfl))) (mvT hZ (hw _ (List.mem_of_getElem? (i := 39) rfl))) (by decide) (own_backK (W := 0) (rm_thi l Z a0 hw [] a sm us ss h0 n0 O E_a U_a F_cause_a F_stackTrace_a F_suppressedExceptions_a F_detailMessage_a F_backtrace_a g_a S_US hus S_SS hss hst) hZ hK.1 hK.2 (hw _ (List.mem_of_getElem? (i := 39) rfl)) (hw _ (List.mem_of_getElem? (i := 38) rfl)) (by decide) (by decide)) (g := (mkF m 2 #[.val (.ref a), .val (.ref sm)] [(.ref sm), (.ref a)])) rfl (by rw [hml]; rfl) (Steps.refl _) (a := a) (argsL := [(.ref sm)]) (rest := []) (lenOf pd_3 rfl) rfl (by show 2 * 0 + _ ≤ _; exact Nat.le_of_eq rfl) (hb hby d5_2) (fun _ _ => ⟨rfl, e0, (by decide : 0 + 1 ≤ _), (by decide : 0 + 2752 ≤ _)⟩)
  dsimp only [Pt.U, Pt.locs, Pt.cells, Pt.slots] at X1 l1 y1 z1 st1 hQ1
  subst l1 y1 z1
  obtain ⟨rfl, N1, K1⟩ := hQ1
  have N1' := Fr.app N0 N1
  replace O := O.keep K1 (allS g_a all0)
  replace K := K.trans K1 (allS (Or.inl (by simp)) all0)
  refine Goes.to (T' := T1) (mkF m 5 #[.val (.ref a), .val (.ref sm)] []) (fun t k => st1.trans k) ?_
  refine Goes.retV X1 hx Bd.notSynchronized Bd.returns (hb hby d5_5) (by decide) (by decide) ?_
  exact ⟨rfl, N1', K⟩
theorem pn_java_lang_RuntimeException : plainName "java/lang/RuntimeException" = true := by first | (simp [plainName, overriddenIn]; done) | decide +kernel
theorem ef_rm_rei (m : MethodId) (x0 : Addr) (x1 : Addr) : entryFrame m #[(.ref x0), (.ref x1)] 2 = mkF m 0 #[.val (.ref x0), .val (.ref x1)] [] := by first | (simp [entryFrame, mkF, argsToLocals, Value.category]; done) | rfl
def Q_rm_rei (Z : State) (a sm : Addr) (us ss : Value) (h0 : Heap) (n0 : Nat) (v : Option Value) (h : Heap) (L : List Loc) : Prop := v = none ∧ Fr n0 L ∧ Keep h0 h [a]
theorem d4_0 : decode jdk_58_method_2_code 0 = .ok (.aload_n 0, 1) := by decide +kernel
theorem d4_1 : decode jdk_58_method_2_code 1 = .ok (.aload_n 1, 1) := by decide +kernel
theorem d4_2 : decode jdk_58_method_2_code 2 = .ok (.invokespecial 7, 3) := by decide +kernel
theorem d4_5 : decode jdk_58_method_2_code 5 = .ok (.return_, 1) := by decide +kernel
set_option maxRecDepth 65536 in
set_option maxHeartbeats 40000000 in
theorem rm_rei (l : Launch) (Z : State) (a0 : Array Value) (hw : ∀ d ∈ tables_1, d.before a0 Z = true) (ws : List Jvm.Cond) (a sm : Addr) (us ss : Value) (h0 : Heap) (n0 : Nat) (O : Old Z n0 h0) (E_a : Exa Z h0 a "com/example/lachesis/lachesis/engine/ClientProcessException") (U_a : Unt h0 a) (F_cause_a : Fld Z h0 a "java/lang/Throwable" "cause" "Ljava/lang/Throwable;" .null) (F_stackTrace_a : Fld Z h0 a "java/lang/Throwable" "stackTrace" "[Ljava/lang/StackTraceElement;" .null) (F_suppressedExceptions_a : Fld Z h0 a "java/lang/Throwable" "suppressedExceptions" "Ljava/util/List;" .null) (F_detailMessage_a : Fld Z h0 a "java/lang/Throwable" "detailMessage" "Ljava/lang/String;" .null) (F_backtrace_a : Fld Z h0 a "java/lang/Throwable" "backtrace" "Ljava/lang/Object;" .null) (g_a : n0 ≤ a) (S_US : Sta Z Z.heap "java/lang/Throwable" "UNASSIGNED_STACK" "[Ljava/lang/StackTraceElement;" us) (hus : us.isRef = true) (S_SS : Sta Z Z.heap "java/lang/Throwable" "SUPPRESSED_SENTINEL" "Ljava/util/List;" ss) (hss : ss.isRef = true) (hst : l.stackTraces = true) :
    MetFree l (⟨"java/lang/RuntimeException", "<init>", "(Ljava/lang/String;)V"⟩ : MethodName) (head1 (Jvm.Cond.code (⟨"java/lang/RuntimeException", "<init>", "(Ljava/lang/String;)V"⟩ : MethodName) jdk_58_method_2_code 2 none :: ws) ({ frames := 5, cells := 1, slots := 2752, locals := 68 } : Room)) (fun aa U => aa = #[(.ref a), (.ref sm)] ∧ Z.Warmed39 U.vm ∧ U.heap = h0) (fun _ _ bl st _ => st.vm.MethodsKnown ∧ st.vm.FramesKnown bl) (fun _ U o U' => ∃ v L, o = .returned v ∧ Q_rm_rei Z a sm us ss h0 n0 v U'.heap L ∧ FrameEnd U o U' L ({ frames := 5, cells := 1, slots := 2752, locals := 68 } : Room).cells ({ frames := 5, cells := 1, slots := 2752, locals := 68 } : Room).slots) := by
  refine MetFree.of_bodySF (plainFor_of_name pn_java_lang_RuntimeException) hisR ?_
  intro p e s m args below meth c s₁ Bd hml0 hP hK
  obtain ⟨rfl, hZ, hh⟩ := hP
  have hx := Bd.exec
  have hby := Bd.bytes
  have hml : c.maxLocals = 2 := hml0
  have hown : s.vm.findClass "java/lang/RuntimeException" = some m.cls := findClass_of_methodNamed Bd.named
  have hnm := (name_of_methodNamed Bd.named Bd.method).1
  have X0 : Stand p l e ({ frames := 5, cells := 1, slots := 2752, locals := 68 } : Room) s m #[(.ref a), (.ref sm)] below meth c s₁ [] 0 0 := Stand.of_body Bd
  have e0 : s₁.heap = h0 := by rw [← hh, Bd.state]; rfl
  have N0 := Fr.nil n0
  have K : Keep h0 h0 [a] := Keep.refl _ _
  show Goes p e below s FrameEnd ({ frames := 5, cells := 1, slots := 2752, locals := 68 } : Room).cells ({ frames := 5, cells := 1, slots := 2752, locals := 68 } : Room).slots (Q_rm_rei Z a sm us ss h0 n0) s₁ (entryFrame m #[(.ref a), (.ref sm)] 2)
  refine Goes.cast (ef_rm_rei m a sm) ?_
  refine Goes.to (T' := s₁) (mkF m 1 #[.val (.ref a), .val (.ref sm)] [(.ref a)]) (fun t k => XS.aloadN X0.here hx rfl (hb hby d4_0) rfl rfl k) ?_
  refine Goes.to (T' := s₁) (mkF m 2 #[.val (.ref a), .val (.ref sm)] [(.ref sm), (.ref a)]) (fun t k => XS.aloadN X0.here hx rfl (hb hby d4_1) rfl rfl k) ?_
  obtain ⟨_, _, ⟨T1, L1, k1, n1⟩, -, X1, ⟨Lc1, hQ1, l1, y1, z1⟩, st1⟩ := X0.specialBack hx (y := (⟨"java/lang/Exception", "<init>", "(Ljava/lang/String;)V"⟩ : MethodName)) rfl hown (mvT hZ (hw _ (List.mem_of_getElem? (i := 28) rfl))) (mvT hZ (hw _ (List.mem_of_getElem? (i := 29) rfl))) (mvT hZ (hw _ (List.mem_of_getElem? (i := 33) rfl))) (by decide) (own_backK (W := 0) (rm_exi l Z a0 hw [] a sm us ss h0 n0 O E_a U_a F_cause_a F_stackTrace_a F_suppressedExceptions_a F_detailMessage_a F_backtrace_a g_a S_US hus S_SS hss hst) hZ hK.1 hK.2 (hw _ (List.mem_of_getElem? (i := 33) rfl)) (hw _ (List.mem_of_getElem? (i := 32) rfl)) (by decide) (by decide)) (g := (mkF m 2 #[.val (.ref a), .val (.ref sm)] [(.ref sm), (.ref a)])) rfl (by rw [hml]; rfl) (Steps.refl _) (a := a) (argsL := [(.ref sm)]) (rest := []) (lenOf pd_3 rfl) rfl (by show 2 * 0 + _ ≤ _; exact Nat.le_of_eq rfl) (hb hby d4_2) (fun _ _ => ⟨rfl, e0, (by decide : 0 + 1 ≤ _), (by decide : 0 + 2752 ≤ _)⟩)
  dsimp only [Pt.U, Pt.locs, Pt.cells, Pt.slots] at X1 l1 y1 z1 st1 hQ1
  subst l1 y1 z1
  obtain ⟨rfl, N1, K1⟩ := hQ1
  have N1' := Fr.app N0 N1
  replace O := O.keep K1 (allS g_a all0)
  replace K := K.trans K1 (allS (Or.inl (by simp)) all0)
  refine Goes.to (T' := T1) (mkF m 5 #[.val (.ref a), .val (.ref sm)] []) (fun t k => st1.trans k) ?_
  refine Goes.retV X1 hx Bd.notSynchronized Bd.returns (hb hby d4_5) (by decide) (by decide) ?_
  exact ⟨rfl, N1', K⟩
theorem pn_com_example_lachesis_lachesis_engine_ClientProcessException : plainName "com/example/lachesis/lachesis/engine/ClientProcessException" = true := by first | (simp [plainName, overriddenIn]; done) | decide +kernel
theorem ef_rm_cpi (m : MethodId) (x0 : Addr) (x1 : Addr) : entryFrame m #[(.ref x0), (.ref x1)] 2 = mkF m 0 #[.val (.ref x0), .val (.ref x1)] [] := by first | (simp [entryFrame, mkF, argsToLocals, Value.category]; done) | rfl
def Q_rm_cpi (Z : State) (a sm : Addr) (us ss : Value) (h0 : Heap) (n0 : Nat) (v : Option Value) (h : Heap) (L : List Loc) : Prop := v = none ∧ Fr n0 L ∧ Keep h0 h [a]
theorem d3_0 : decode prog_13_method_1_code 0 = .ok (.aload_n 0, 1) := by decide +kernel
theorem d3_1 : decode prog_13_method_1_code 1 = .ok (.aload_n 1, 1) := by decide +kernel
theorem d3_2 : decode prog_13_method_1_code 2 = .ok (.invokespecial 1, 3) := by decide +kernel
theorem d3_5 : decode prog_13_method_1_code 5 = .ok (.return_, 1) := by decide +kernel
set_option maxRecDepth 65536 in
set_option maxHeartbeats 40000000 in
theorem rm_cpi (l : Launch) (Z : State) (a0 : Array Value) (hw : ∀ d ∈ tables_1, d.before a0 Z = true) (ws : List Jvm.Cond) (a sm : Addr) (us ss : Value) (h0 : Heap) (n0 : Nat) (O : Old Z n0 h0) (E_a : Exa Z h0 a "com/example/lachesis/lachesis/engine/ClientProcessException") (U_a : Unt h0 a) (F_cause_a : Fld Z h0 a "java/lang/Throwable" "cause" "Ljava/lang/Throwable;" .null) (F_stackTrace_a : Fld Z h0 a "java/lang/Throwable" "stackTrace" "[Ljava/lang/StackTraceElement;" .null) (F_suppressedExceptions_a : Fld Z h0 a "java/lang/Throwable" "suppressedExceptions" "Ljava/util/List;" .null) (F_detailMessage_a : Fld Z h0 a "java/lang/Throwable" "detailMessage" "Ljava/lang/String;" .null) (F_backtrace_a : Fld Z h0 a "java/lang/Throwable" "backtrace" "Ljava/lang/Object;" .null) (g_a : n0 ≤ a) (S_US : Sta Z Z.heap "java/lang/Throwable" "UNASSIGNED_STACK" "[Ljava/lang/StackTraceElement;" us) (hus : us.isRef = true) (S_SS : Sta Z Z.heap "java/lang/Throwable" "SUPPRESSED_SENTINEL" "Ljava/util/List;" ss) (hss : ss.isRef = true) (hst : l.stackTraces = true) :
    MetFree l (⟨"com/example/lachesis/lachesis/engine/ClientProcessException", "<init>", "(Ljava/lang/String;)V"⟩ : MethodName) (head1 (Jvm.Cond.code (⟨"com/example/lachesis/lachesis/engine/ClientProcessException", "<init>", "(Ljava/lang/String;)V"⟩ : MethodName) prog_13_method_1_code 2 none :: ws) ({ frames := 6, cells := 1, slots := 2752, locals := 81 } : Room)) (fun aa U => aa = #[(.ref a), (.ref sm)] ∧ Z.Warmed39 U.vm ∧ U.heap = h0) (fun _ _ bl st _ => st.vm.MethodsKnown ∧ st.vm.FramesKnown bl) (fun _ U o U' => ∃ v L, o = .returned v ∧ Q_rm_cpi Z a sm us ss h0 n0 v U'.heap L ∧ FrameEnd U o U' L ({ frames := 6, cells := 1, slots := 2752, locals := 81 } : Room).cells ({ frames := 6, cells := 1, slots := 2752, locals := 81 } : Room).slots) := by
  refine MetFree.of_bodySF (plainFor_of_name pn_com_example_lachesis_lachesis_engine_ClientProcessException) hisR ?_
  intro p e s m args below meth c s₁ Bd hml0 hP hK
  obtain ⟨rfl, hZ, hh⟩ := hP
  have hx := Bd.exec
  have hby := Bd.bytes
  have hml : c.maxLocals = 2 := hml0
  have hown : s.vm.findClass "com/example/lachesis/lachesis/engine/ClientProcessException" = some m.cls := findClass_of_methodNamed Bd.named
  have hnm := (name_of_methodNamed Bd.named Bd.method).1
  have X0 : Stand p l e ({ frames := 6, cells := 1, slots := 2752, locals := 81 } : Room) s m #[(.ref a), (.ref sm)] below meth c s₁ [] 0 0 := Stand.of_body Bd
  have e0 : s₁.heap = h0 := by rw [← hh, Bd.state]; rfl
  have N0 := Fr.nil n0
  have K : Keep h0 h0 [a] := Keep.refl _ _
  show Goes p e below s FrameEnd ({ frames := 6, cells := 1, slots := 2752, locals := 81 } : Room).cells ({ frames := 6, cells := 1, slots := 2752, locals := 81 } : Room).slots (Q_rm_cpi Z a sm us ss h0 n0) s₁ (entryFrame m #[(.ref a), (.ref sm)] 2)
  refine Goes.cast (ef_rm_cpi m a sm) ?_
  refine Goes.to (T' := s₁) (mkF m 1 #[.val (.ref a), .val (.ref sm)] [(.ref a)]) (fun t k => XS.aloadN X0.here hx rfl (hb hby d3_0) rfl rfl k) ?_
  refine Goes.to (T' := s₁) (mkF m 2 #[.val (.ref a), .val (.ref sm)] [(.ref sm), (.ref a)]) (fun t k => XS.aloadN X0.here hx rfl (hb hby d3_1) rfl rfl k) ?_
  obtain ⟨_, _, ⟨T1, L1, k1, n1⟩, -, X1, ⟨Lc1, hQ1, l1, y1, z1⟩, st1⟩ := X0.specialBack hx (y := (⟨"java/lang/RuntimeException", "<init>", "(Ljava/lang/String;)V"⟩ : MethodName)) rfl hown (mvT hZ (hw _ (List.mem_of_getElem? (i := 23) rfl))) (mvT hZ (hw _ (List.mem_of_getElem? (i := 24) rfl))) (mvT hZ (hw _ (List.mem_of_getElem? (i := 27) rfl))) (by decide) (own_backK (W := 0) (rm_rei l Z a0 hw [] a sm us ss h0 n0 O E_a U_a F_cause_a F_stackTrace_a F_suppressedExceptions_a F_detailMessage_a F_backtrace_a g_a S_US hus S_SS hss hst) hZ hK.1 hK.2 (hw _ (List.mem_of_getElem? (i := 27) rfl)) (hw _ (List.mem_of_getElem? (i := 26) rfl)) (by decide) (by decide)) (g := (mkF m 2 #[.val (.ref a), .val (.ref sm)] [(.ref sm), (.ref a)])) rfl (by rw [hml]; rfl) (Steps.refl _) (a := a) (argsL := [(.ref sm)]) (rest := []) (lenOf pd_3 rfl) rfl (by show 2 * 0 + _ ≤ _; exact Nat.le_of_eq rfl) (hb hby d3_2) (fun _ _ => ⟨rfl, e0, (by decide : 0 + 1 ≤ _), (by decide : 0 + 2752 ≤ _)⟩)
  dsimp only [Pt.U, Pt.locs, Pt.cells, Pt.slots] at X1 l1 y1 z1 st1 hQ1
  subst l1 y1 z1
  obtain ⟨rfl, N1, K1⟩ := hQ1
  have N1' := Fr.app N0 N1
  replace O := O.keep K1 (allS g_a all0)
  replace K := K.trans K1 (allS (Or.inl (by simp)) all0)
  refine Goes.to (T' := T1) (mkF m 5 #[.val (.ref a), .val (.ref sm)] []) (fun t k => st1.trans k) ?_
  refine Goes.retV X1 hx Bd.notSynchronized Bd.returns (hb hby d3_5) (by decide) (by decide) ?_
  exact ⟨rfl, N1', K⟩
theorem ef_rm_law (m : MethodId) (x0 : Int32) : entryFrame m #[(.int x0)] maxLocals = mkF m 0 #[.val (.int x0), .unset, .unset, .unset, .unset, .unset] [] := by first | (simp [entryFrame, mkF, argsToLocals, Value.category, maxLocals]; done) | rfl
def Q_rm_law (Z : State) (ops : Int32) (us ss : Value) (h0 : Heap) (n0 : Nat) (v : Option Value) (h : Heap) (L : List Loc) : Prop := v = some (.int 1) ∧ Fr n0 L
theorem own_strs : ∀ a ∈ Bundle.stringAtoms, a ∈ tables_1 := by decide +kernel
theorem own_zeq {s z : Int32} (h : z = (if s = (0 : Int32) then (0 : Int32) else (1 : Int32))) : bit (¬ s = 0) = z := by
  subst h
  by_cases q : s = 0
  · rw [if_pos q, bit_f (fun n => n q)]
  · rw [if_neg q, bit_t q]
theorem pd_4 : parseMethodDescriptor "()Z" = some ⟨[], some .boolean⟩ := by decide +kernel
theorem pd_5 : parseMethodDescriptor "(Lcom/example/lachesis/lachesis/engine/RunEnd;Lcom/example/lachesis/lachesis/engine/ClientProcessException;Lcom/example/lachesis/lachesis/engine/ClientProcessException;II)I" = some ⟨[(.object "com/example/lachesis/lachesis/engine/RunEnd"), (.object "com/example/lachesis/lachesis/engine/ClientProcessException"), (.object "com/example/lachesis/lachesis/engine/ClientProcessException"), .int, .int], some .int⟩ := by decide +kernel
set_option maxRecDepth 65536 in
set_option maxHeartbeats 40000000 in
theorem rm_law (l : Launch) (Z : State) (a0 : Array Value) (hw : ∀ d ∈ tables_1, d.before a0 Z = true) (ws : List Jvm.Cond) (ops : Int32) (us ss : Value) (h0 : Heap) (n0 : Nat) (O : Old Z n0 h0) (S_US : Sta Z Z.heap "java/lang/Throwable" "UNASSIGNED_STACK" "[Ljava/lang/StackTraceElement;" us) (hus : us.isRef = true) (S_SS : Sta Z Z.heap "java/lang/Throwable" "SUPPRESSED_SENTINEL" "Ljava/util/List;" ss) (hss : ss.isRef = true) (hst : l.stackTraces = true) :
    MetFree l x (head1 (Jvm.Cond.code x code maxLocals ret :: ws) room_1) (fun aa U => aa = #[(.int ops)] ∧ Z.Warmed39 U.vm ∧ U.heap = h0) (fun _ _ bl st _ => st.vm.MethodsKnown ∧ st.vm.FramesKnown bl) (fun _ U o U' => ∃ v L, o = .returned v ∧ Q_rm_law Z ops us ss h0 n0 v U'.heap L ∧ ReturnedEndW U o U' L room_1.cells room_1.slots) := by
  refine MetFree.of_bodySF (plainFor_of_name pn_com_example_lachesis_lachesis_engine_RunEndEndedPinLaw) hisR ?_
  intro p e s m args below meth c s₁ Bd hml0 hP hK
  obtain ⟨rfl, hZ, hh⟩ := hP
  have hx := Bd.exec
  have hby := Bd.bytes
  have hml : c.maxLocals = 6 := hml0
  have hown : s.vm.findClass "com/example/lachesis/lachesis/engine/RunEndEndedPinLaw" = some m.cls := findClass_of_methodNamed Bd.named
  have hnm := (name_of_methodNamed Bd.named Bd.method).1
  have X0 : Stand p l e room_1 (s.setVm s.vm) m #[(.int ops)] below meth c s₁ [] 0 0 := Stand.of_body Bd
  have e0 : s₁.heap = h0 := by rw [← hh, Bd.state]; rfl
  have N0 := Fr.nil n0
  have hS0 : s.Since s.vm 0 := (State.WarmedH.refl s).since 0
  have hk0 : 0 ≤ h0.size := Nat.zero_le _
  replace hZ : Z.Warmed39 (s.setVm s.vm).vm := hZ
  replace hown : (s.setVm s.vm).vm.findClass "com/example/lachesis/lachesis/engine/RunEndEndedPinLaw" = some m.cls := hown
  show Goes p e below s ReturnedEndW room_1.cells room_1.slots (Q_rm_law Z ops us ss h0 n0) s₁ (entryFrame m #[(.int ops)] maxLocals)
  refine Goes.cast (ef_rm_law m ops) ?_
  obtain ⟨T1, h1, X1, e1, E1, A1, D1, -, st1⟩ := newO X0 hx hZ hown (hw _ (List.mem_of_getElem? (i := 0) rfl)) (hw _ (List.mem_of_getElem? (i := 1) rfl)) (hw _ (List.mem_of_getElem? (i := 2) rfl)) e0 (g := (mkF m 0 #[.val (.int ops), .unset, .unset, .unset, .unset, .unset] [])) rfl (hb hby at_0) (by decide) (by decide)
  obtain ⟨b1, g1⟩ : ∃ z, z = h0.size := ⟨_, rfl⟩
  rw [← g1] at A1 D1 st1
  have g_b1 : n0 ≤ b1 := Nat.le_trans (O.1 ▸ O.2.1) (Nat.le_of_eq g1.symm)
  replace O := O.ext E1
  replace hk0 := Nat.le_trans hk0 E1.1
  have E_b1 : Exa Z h1 b1 "com/example/lachesis/lachesis/engine/RunEnd" := A1
  have F_failure_b1 : Fld Z h1 b1 "com/example/lachesis/lachesis/engine/RunEnd" "failure" "Ljava/lang/Throwable;" .null := D1 (Or.inl (hw _ (List.mem_of_getElem? (i := 84) rfl))) (ty := (.object "java/lang/Throwable")) (by decide)
  have F_closed_b1 : Fld Z h1 b1 "com/example/lachesis/lachesis/engine/RunEnd" "closed" "Z" (.int (0 : Int32)) := D1 (Or.inl (hw _ (List.mem_of_getElem? (i := 86) rfl))) (ty := .boolean) (by decide)
  refine Goes.to (T' := T1) (mkF m 3 #[.val (.int ops), .unset, .unset, .unset, .unset, .unset] [(.ref b1)]) st1 ?_
  refine Goes.to (T' := T1) (mkF m 4 #[.val (.int ops), .unset, .unset, .unset, .unset, .unset] [(.ref b1), (.ref b1)]) (fun t k => XS.dup X1.here hx rfl (hb hby at_3) rfl rfl k) ?_
  obtain ⟨_, _, ⟨T2, L2, k2, n2⟩, -, X2, ⟨Lc2, hQ2, l2, y2, z2⟩, st2⟩ := X1.specialBack hx (y := (⟨"com/example/lachesis/lachesis/engine/RunEnd", "<init>", "()V"⟩ : MethodName)) rfl hown (mvT hZ (hw _ (List.mem_of_getElem? (i := 3) rfl))) (mvT hZ (hw _ (List.mem_of_getElem? (i := 4) rfl))) (mvT hZ (hw _ (List.mem_of_getElem? (i := 5) rfl))) (by decide) (backOf (W := 1) (rm_init l Z a0 hw [] b1 h1 n0 O) hZ (hw _ (List.mem_of_getElem? (i := 5) rfl)) (hw _ (List.mem_of_getElem? (i := 2) rfl)) (by decide) (by decide)) (g := (mkF m 4 #[.val (.int ops), .unset, .unset, .unset, .unset, .unset] [(.ref b1), (.ref b1)])) rfl (by rw [hml]; rfl) (Steps.refl _) (a := b1) (argsL := []) (rest := [(.ref b1)]) (lenOf pd_1 rfl) rfl (by show 2 * 0 + _ ≤ _; exact Nat.le_of_eq rfl) (hb hby at_4) (fun _ _ => ⟨rfl, e1, (by decide : 1 + 0 ≤ _), (by decide : 2 + 0 ≤ _)⟩)
  dsimp only [Pt.U, Pt.locs, Pt.cells, Pt.slots] at X2 l2 y2 z2 st2 hQ2
  subst l2 y2 z2
  obtain ⟨rfl, N2, hs2⟩ := hQ2
  have N2' := Fr.app N0 N2
  refine Goes.to (T' := T2) (mkF m 7 #[.val (.int ops), .unset, .unset, .unset, .unset, .unset] [(.ref b1)]) (fun t k => st2.trans k) ?_
  refine Goes.to (T' := T2) (mkF m 8 #[.val (.int ops), .val (.ref b1), .unset, .unset, .unset, .unset] []) (fun t k => XS.astoreN X2.here hx rfl (hb hby at_7) rfl rfl (l' := #[.val (.int ops), .val (.ref b1), .unset, .unset, .unset, .unset]) rfl k) ?_
  obtain ⟨T3, h3, X3, e3, E3, A3, D3, U3, st3⟩ := newO X2 hx hZ hown (hw _ (List.mem_of_getElem? (i := 9) rfl)) (hw _ (List.mem_of_getElem? (i := 10) rfl)) (hw _ (List.mem_of_getElem? (i := 11) rfl)) hs2 (g := (mkF m 8 #[.val (.int ops), .val (.ref b1), .unset, .unset, .unset, .unset] [])) rfl (hb hby at_8) (by decide) (by decide)
  obtain ⟨b3, g3⟩ : ∃ z, z = h1.size := ⟨_, rfl⟩
  rw [← g3] at A3 D3 st3 U3
  have g_b3 : n0 ≤ b3 := Nat.le_trans (O.1 ▸ O.2.1) (Nat.le_of_eq g3.symm)
  have ne_b1_b3 : b1 ≠ b3 := Nat.ne_of_lt (Nat.lt_of_lt_of_le E_b1.lt (Nat.le_of_eq g3.symm))
  replace O := O.ext E3
  replace hk0 := Nat.le_trans hk0 E3.1
  replace E_b1 := E_b1.ext E3
  replace F_failure_b1 := F_failure_b1.ext E3
  replace F_closed_b1 := F_closed_b1.ext E3
  have E_b3 : Exa Z h3 b3 "com/example/lachesis/lachesis/engine/ClientProcessException" := A3
  have U_b3 : Unt h3 b3 := U3
  have F_cause_b3 : Fld Z h3 b3 "java/lang/Throwable" "cause" "Ljava/lang/Throwable;" .null := D3 (Or.inl (hw _ (List.mem_of_getElem? (i := 42) rfl))) (ty := (.object "java/lang/Throwable")) (by decide)
  have F_stackTrace_b3 : Fld Z h3 b3 "java/lang/Throwable" "stackTrace" "[Ljava/lang/StackTraceElement;" .null := D3 (Or.inl (hw _ (List.mem_of_getElem? (i := 45) rfl))) (ty := (.array (.object "java/lang/StackTraceElement"))) (by decide)
  have F_suppressedExceptions_b3 : Fld Z h3 b3 "java/lang/Throwable" "suppressedExceptions" "Ljava/util/List;" .null := D3 (Or.inl (hw _ (List.mem_of_getElem? (i := 48) rfl))) (ty := (.object "java/util/List")) (by decide)
  have F_detailMessage_b3 : Fld Z h3 b3 "java/lang/Throwable" "detailMessage" "Ljava/lang/String;" .null := D3 (Or.inl (hw _ (List.mem_of_getElem? (i := 72) rfl))) (ty := (.object "java/lang/String")) (by decide)
  have F_backtrace_b3 : Fld Z h3 b3 "java/lang/Throwable" "backtrace" "Ljava/lang/Object;" .null := D3 (Or.inl (hw _ (List.mem_of_getElem? (i := 73) rfl))) (ty := (.object "java/lang/Object")) (by decide)
  have F_depth_b3 : Fld Z h3 b3 "java/lang/Throwable" "depth" "I" (.int (0 : Int32)) := D3 (Or.inl (hw _ (List.mem_of_getElem? (i := 74) rfl))) (ty := .int) (by decide)
  refine Goes.to (T' := T3) (mkF m 11 #[.val (.int ops), .val (.ref b1), .unset, .unset, .unset, .unset] [(.ref b3)]) st3 ?_
  refine Goes.to (T' := T3) (mkF m 12 #[.val (.int ops), .val (.ref b1), .unset, .unset, .unset, .unset] [(.ref b3), (.ref b3)]) (fun t k => XS.dup X3.here hx rfl (hb hby at_11) rfl rfl k) ?_
  obtain ⟨str4, T4, h4, k4, X4, e4, E4, hS4, hk4, hZ4, hown4, st4⟩ := ldcS X3 hx hZ hown (hw _ (List.mem_of_getElem? (i := 12) rfl)) (fun a ha => hw a (own_strs a ha)) e3 hS0 hk0 (g := (mkF m 12 #[.val (.int ops), .val (.ref b1), .unset, .unset, .unset, .unset] [(.ref b3), (.ref b3)])) rfl (hb hby at_12) (n := 16) (by decide) (by decide) (by decide) (by decide)
  replace O := O.ext E4
  replace E_b1 := E_b1.ext E4
  replace F_failure_b1 := F_failure_b1.ext E4
  replace F_closed_b1 := F_closed_b1.ext E4
  replace E_b3 := E_b3.ext E4
  replace U_b3 := U_b3.ext E4
  replace F_cause_b3 := F_cause_b3.ext E4
  replace F_stackTrace_b3 := F_stackTrace_b3.ext E4
  replace F_suppressedExceptions_b3 := F_suppressedExceptions_b3.ext E4
  replace F_detailMessage_b3 := F_detailMessage_b3.ext E4
  replace F_backtrace_b3 := F_backtrace_b3.ext E4
  replace F_depth_b3 := F_depth_b3.ext E4
  replace hS0 := hS4
  replace hk0 := hk4
  replace hZ := hZ4
  replace hown := hown4
  refine Goes.to (T' := T4) (mkF m 14 #[.val (.int ops), .val (.ref b1), .unset, .unset, .unset, .unset] [(.ref str4), (.ref b3), (.ref b3)]) st4 ?_
  obtain ⟨_, _, ⟨T5, L5, k5, n5⟩, -, X5, ⟨Lc5, hQ5, l5, y5, z5⟩, st5⟩ := X4.specialBack hx (y := (⟨"com/example/lachesis/lachesis/engine/ClientProcessException", "<init>", "(Ljava/lang/String;)V"⟩ : MethodName)) rfl hown (mvT hZ (hw _ (List.mem_of_getElem? (i := 20) rfl))) (mvT hZ (hw _ (List.mem_of_getElem? (i := 21) rfl))) (mvT hZ (hw _ (List.mem_of_getElem? (i := 22) rfl))) (by decide) (own_backK (W := 1) (rm_cpi l Z a0 hw [] b3 str4 us ss h4 n0 O E_b3 U_b3 F_cause_b3 F_stackTrace_b3 F_suppressedExceptions_b3 F_detailMessage_b3 F_backtrace_b3 g_b3 S_US hus S_SS hss hst) hZ (own_mk hS0.1.alike hK.1) (hK.2.alikeC hS0.1.alike) (hw _ (List.mem_of_getElem? (i := 22) rfl)) (hw _ (List.mem_of_getElem? (i := 11) rfl)) (by decide) (by decide)) (g := (mkF m 14 #[.val (.int ops), .val (.ref b1), .unset, .unset, .unset, .unset] [(.ref str4), (.ref b3), (.ref b3)])) rfl (by rw [hml]; rfl) (Steps.refl _) (a := b3) (argsL := [(.ref str4)]) (rest := [(.ref b3)]) (lenOf pd_3 rfl) rfl (by show 2 * 0 + _ ≤ _; exact Nat.le_of_eq rfl) (hb hby at_14) (fun _ _ => ⟨rfl, e4, (by decide : 4 + 1 ≤ _), (by decide : 28 + 2752 ≤ _)⟩)
  dsimp only [Pt.U, Pt.locs, Pt.cells, Pt.slots] at X5 l5 y5 z5 st5 hQ5
  subst l5 y5 z5
  obtain ⟨rfl, N5, K5⟩ := hQ5
  have N5' := Fr.app N2' N5
  replace E_b1 := E_b1.keep K5
  replace F_failure_b1 := F_failure_b1.keep K5 (ninS ne_b1_b3 (nin0))
  replace F_closed_b1 := F_closed_b1.keep K5 (ninS ne_b1_b3 (nin0))
  replace E_b3 := E_b3.keep K5
  replace O := O.keep K5 (allS g_b3 all0)
  replace hk0 := Nat.le_trans hk0 K5.1
  refine Goes.to (T' := T5) (mkF m 17 #[.val (.int ops), .val (.ref b1), .unset, .unset, .unset, .unset] [(.ref b3)]) (fun t k => st5.trans k) ?_
  refine Goes.to (T' := T5) (mkF m 18 #[.val (.int ops), .val (.ref b1), .val (.ref b3), .unset, .unset, .unset] []) (fun t k => XS.astoreN X5.here hx rfl (hb hby at_17) rfl rfl (l' := #[.val (.int ops), .val (.ref b1), .val (.ref b3), .unset, .unset, .unset]) rfl k) ?_
  obtain ⟨T6, h6, X6, e6, E6, A6, D6, U6, st6⟩ := newO X5 hx hZ hown (hw _ (List.mem_of_getElem? (i := 9) rfl)) (hw _ (List.mem_of_getElem? (i := 10) rfl)) (hw _ (List.mem_of_getElem? (i := 11) rfl)) rfl (g := (mkF m 18 #[.val (.int ops), .val (.ref b1), .val (.ref b3), .unset, .unset, .unset] [])) rfl (hb hby at_18) (by decide) (by decide)
  obtain ⟨b6, g6⟩ : ∃ z, z = T5.heap.size := ⟨_, rfl⟩
  rw [← g6] at A6 D6 st6 U6
  have g_b6 : n0 ≤ b6 := Nat.le_trans (O.1 ▸ O.2.1) (Nat.le_of_eq g6.symm)
  have ne_b1_b6 : b1 ≠ b6 := Nat.ne_of_lt (Nat.lt_of_lt_of_le E_b1.lt (Nat.le_of_eq g6.symm))
  have ne_b3_b6 : b3 ≠ b6 := Nat.ne_of_lt (Nat.lt_of_lt_of_le E_b3.lt (Nat.le_of_eq g6.symm))
  replace O := O.ext E6
  replace hk0 := Nat.le_trans hk0 E6.1
  replace E_b1 := E_b1.ext E6
  replace F_failure_b1 := F_failure_b1.ext E6
  replace F_closed_b1 := F_closed_b1.ext E6
  replace E_b3 := E_b3.ext E6
  have E_b6 : Exa Z h6 b6 "com/example/lachesis/lachesis/engine/ClientProcessException" := A6
  have U_b6 : Unt h6 b6 := U6
  have F_cause_b6 : Fld Z h6 b6 "java/lang/Throwable" "cause" "Ljava/lang/Throwable;" .null := D6 (Or.inl (hw _ (List.mem_of_getElem? (i := 42) rfl))) (ty := (.object "java/lang/Throwable")) (by decide)
  have F_stackTrace_b6 : Fld Z h6 b6 "java/lang/Throwable" "stackTrace" "[Ljava/lang/StackTraceElement;" .null := D6 (Or.inl (hw _ (List.mem_of_getElem? (i := 45) rfl))) (ty := (.array (.object "java/lang/StackTraceElement"))) (by decide)
  have F_suppressedExceptions_b6 : Fld Z h6 b6 "java/lang/Throwable" "suppressedExceptions" "Ljava/util/List;" .null := D6 (Or.inl (hw _ (List.mem_of_getElem? (i := 48) rfl))) (ty := (.object "java/util/List")) (by decide)
  have F_detailMessage_b6 : Fld Z h6 b6 "java/lang/Throwable" "detailMessage" "Ljava/lang/String;" .null := D6 (Or.inl (hw _ (List.mem_of_getElem? (i := 72) rfl))) (ty := (.object "java/lang/String")) (by decide)
  have F_backtrace_b6 : Fld Z h6 b6 "java/lang/Throwable" "backtrace" "Ljava/lang/Object;" .null := D6 (Or.inl (hw _ (List.mem_of_getElem? (i := 73) rfl))) (ty := (.object "java/lang/Object")) (by decide)
  have F_depth_b6 : Fld Z h6 b6 "java/lang/Throwable" "depth" "I" (.int (0 : Int32)) := D6 (Or.inl (hw _ (List.mem_of_getElem? (i := 74) rfl))) (ty := .int) (by decide)
  refine Goes.to (T' := T6) (mkF m 21 #[.val (.int ops), .val (.ref b1), .val (.ref b3), .unset, .unset, .unset] [(.ref b6)]) st6 ?_
  refine Goes.to (T' := T6) (mkF m 22 #[.val (.int ops), .val (.ref b1), .val (.ref b3), .unset, .unset, .unset] [(.ref b6), (.ref b6)]) (fun t k => XS.dup X6.here hx rfl (hb hby at_21) rfl rfl k) ?_
  obtain ⟨str7, T7, h7, k7, X7, e7, E7, hS7, hk7, hZ7, hown7, st7⟩ := ldcS X6 hx hZ hown (hw _ (List.mem_of_getElem? (i := 77) rfl)) (fun a ha => hw a (own_strs a ha)) e6 hS0 hk0 (g := (mkF m 22 #[.val (.int ops), .val (.ref b1), .val (.ref b3), .unset, .unset, .unset] [(.ref b6), (.ref b6)])) rfl (hb hby at_22) (n := 16) (by decide) (by decide) (by decide) (by decide)
  replace O := O.ext E7
  replace E_b1 := E_b1.ext E7
  replace F_failure_b1 := F_failure_b1.ext E7
  replace F_closed_b1 := F_closed_b1.ext E7
  replace E_b3 := E_b3.ext E7
  replace E_b6 := E_b6.ext E7
  replace U_b6 := U_b6.ext E7
  replace F_cause_b6 := F_cause_b6.ext E7
  replace F_stackTrace_b6 := F_stackTrace_b6.ext E7
  replace F_suppressedExceptions_b6 := F_suppressedExceptions_b6.ext E7
  replace F_detailMessage_b6 := F_detailMessage_b6.ext E7
  replace F_backtrace_b6 := F_backtrace_b6.ext E7
  replace F_depth_b6 := F_depth_b6.ext E7
  replace hS0 := hS7
  replace hk0 := hk7
  replace hZ := hZ7
  replace hown := hown7
  refine Goes.to (T' := T7) (mkF m 24 #[.val (.int ops), .val (.ref b1), .val (.ref b3), .unset, .unset, .unset] [(.ref str7), (.ref b6), (.ref b6)]) st7 ?_
  obtain ⟨_, _, ⟨T8, L8, k8, n8⟩, -, X8, ⟨Lc8, hQ8, l8, y8, z8⟩, st8⟩ := X7.specialBack hx (y := (⟨"com/example/lachesis/lachesis/engine/ClientProcessException", "<init>", "(Ljava/lang/String;)V"⟩ : MethodName)) rfl hown (mvT hZ (hw _ (List.mem_of_getElem? (i := 20) rfl))) (mvT hZ (hw _ (List.mem_of_getElem? (i := 21) rfl))) (mvT hZ (hw _ (List.mem_of_getElem? (i := 22) rfl))) (by decide) (own_backK (W := 1) (rm_cpi l Z a0 hw [] b6 str7 us ss h7 n0 O E_b6 U_b6 F_cause_b6 F_stackTrace_b6 F_suppressedExceptions_b6 F_detailMessage_b6 F_backtrace_b6 g_b6 S_US hus S_SS hss hst) hZ (own_mk hS0.1.alike hK.1) (hK.2.alikeC hS0.1.alike) (hw _ (List.mem_of_getElem? (i := 22) rfl)) (hw _ (List.mem_of_getElem? (i := 11) rfl)) (by decide) (by decide)) (g := (mkF m 24 #[.val (.int ops), .val (.ref b1), .val (.ref b3), .unset, .unset, .unset] [(.ref str7), (.ref b6), (.ref b6)])) rfl (by rw [hml]; rfl) (Steps.refl _) (a := b6) (argsL := [(.ref str7)]) (rest := [(.ref b6)]) (lenOf pd_3 rfl) rfl (by show 2 * 0 + _ ≤ _; exact Nat.le_of_eq rfl) (hb hby at_24) (fun _ _ => ⟨rfl, e7, (by decide : 8 + 1 ≤ _), (by decide : 2806 + 2752 ≤ _)⟩)
  dsimp only [Pt.U, Pt.locs, Pt.cells, Pt.slots] at X8 l8 y8 z8 st8 hQ8
  subst l8 y8 z8
  obtain ⟨rfl, N8, K8⟩ := hQ8
  have N8' := Fr.app N5' N8
  replace E_b1 := E_b1.keep K8
  replace F_failure_b1 := F_failure_b1.keep K8 (ninS ne_b1_b6 (nin0))
  replace F_closed_b1 := F_closed_b1.keep K8 (ninS ne_b1_b6 (nin0))
  replace E_b3 := E_b3.keep K8
  replace E_b6 := E_b6.keep K8
  replace O := O.keep K8 (allS g_b6 all0)
  replace hk0 := Nat.le_trans hk0 K8.1
  refine Goes.to (T' := T8) (mkF m 27 #[.val (.int ops), .val (.ref b1), .val (.ref b3), .unset, .unset, .unset] [(.ref b6)]) (fun t k => st8.trans k) ?_
  refine Goes.to (T' := T8) (mkF m 28 #[.val (.int ops), .val (.ref b1), .val (.ref b3), .val (.ref b6), .unset, .unset] []) (fun t k => XS.astoreN X8.here hx rfl (hb hby at_27) rfl rfl (l' := #[.val (.int ops), .val (.ref b1), .val (.ref b3), .val (.ref b6), .unset, .unset]) rfl k) ?_
  refine Goes.to (T' := T8) (mkF m 29 #[.val (.int ops), .val (.ref b1), .val (.ref b3), .val (.ref b6), .unset, .unset] [(.int (0 : Int32))]) (fun t k => XS.iconst X8.here hx rfl (hb hby at_28) k) ?_
  refine Goes.to (T' := T8) (mkF m 31 #[.val (.int ops), .val (.ref b1), .val (.ref b3), .val (.ref b6), .val (.int (0 : Int32)), .unset] []) (fun t k => XS.istore X8.here hx rfl (hb hby at_29) rfl (l' := #[.val (.int ops), .val (.ref b1), .val (.ref b3), .val (.ref b6), .val (.int (0 : Int32)), .unset]) rfl k) ?_
  refine Goes.to (T' := T8) (mkF m 32 #[.val (.int ops), .val (.ref b1), .val (.ref b3), .val (.ref b6), .val (.int (0 : Int32)), .unset] [(.ref b1)]) (fun t k => XS.aloadN X8.here hx rfl (hb hby at_31) rfl rfl k) ?_
  obtain ⟨cq9, kq9, q9a, q9b, q9c⟩ := isOf hZ rfl E_b1
  obtain ⟨_, _, ⟨T9, L9, k9, n9⟩, -, X9, ⟨Lc9, hQ9, l9, y9, z9⟩, st9⟩ := X8.virtualBack hx (y := (⟨"com/example/lachesis/lachesis/engine/RunEnd", "ended", "()Z"⟩ : MethodName)) (z := (⟨"com/example/lachesis/lachesis/engine/RunEnd", "ended", "()Z"⟩ : MethodName)) hown (mvT hZ (hw _ (List.mem_of_getElem? (i := 78) rfl))) (mvT hZ (hw _ (List.mem_of_getElem? (i := 79) rfl))) (notFace_of_selects (args := #[]) (mvT hZ (hw _ (List.mem_of_getElem? (i := 81) rfl)))) (mvT hZ (hw _ (List.mem_of_getElem? (i := 81) rfl))) (mvT hZ (hw _ (List.mem_of_getElem? (i := 80) rfl))) (by decide) (backOf (W := 0) (rm_ended l Z a0 hw [] b1 .null 0 0 T8.heap n0 O F_failure_b1 F_closed_b1 own_inv0) hZ (hw _ (List.mem_of_getElem? (i := 82) rfl)) (hw _ (List.mem_of_getElem? (i := 2) rfl)) (by decide) (by decide)) q9a q9c (g := (mkF m 32 #[.val (.int ops), .val (.ref b1), .val (.ref b3), .val (.ref b6), .val (.int (0 : Int32)), .unset] [(.ref b1)])) rfl (by rw [hml]; rfl) (Steps.refl _) (argsL := []) (rest := []) (lenOf pd_4 rfl) rfl (by show 2 * 0 + _ ≤ _; exact Nat.le_of_eq rfl) (hb hby at_32) (fun _ _ => ⟨rfl, rfl, (by decide : 9 + 0 ≤ _), (by decide : 5558 + 0 ≤ _)⟩)
  dsimp only [Pt.U, Pt.locs, Pt.cells, Pt.slots] at X9 l9 y9 z9 st9 hQ9
  subst l9 y9 z9
  obtain ⟨rfl, N9, hs9⟩ := hQ9
  have N9' := Fr.app N8' N9
  refine Goes.to (T' := T9) (mkF m 35 #[.val (.int ops), .val (.ref b1), .val (.ref b3), .val (.ref b6), .val (.int (0 : Int32)), .unset] [(.int (bit (¬ 0 = 0)))]) (fun t k => st9.trans k) ?_
  refine Goes.to (T' := T9) (mkF m 38 #[.val (.int ops), .val (.ref b1), .val (.ref b3), .val (.ref b6), .val (.int (0 : Int32)), .unset] []) (fun t k => XS.ifNo X9.here hx rfl (hb hby at_35) rfl ((if0 _ _).trans (teq (by decide : (bit (¬ 0 = 0)) = (0 : Int32))).2) k) ?_
  refine Goes.to (T' := T9) (mkF m 39 #[.val (.int ops), .val (.ref b1), .val (.ref b3), .val (.ref b6), .val (.int (0 : Int32)), .unset] [(.int (1 : Int32))]) (fun t k => XS.iconst X9.here hx rfl (hb hby at_38) k) ?_
  refine Goes.to (T' := T9) (mkF m 43 #[.val (.int ops), .val (.ref b1), .val (.ref b3), .val (.ref b6), .val (.int (0 : Int32)), .unset] [(.int (1 : Int32))]) (fun t k => XS.goto X9.here hx rfl (pc0 := 39) (pc' := 43) rfl (hb hby at_39) (by decide) (by decide) k) ?_
  refine Goes.to (T' := T9) (mkF m 45 #[.val (.int ops), .val (.ref b1), .val (.ref b3), .val (.ref b6), .val (.int (0 : Int32)), .val (.int (1 : Int32))] []) (fun t k => XS.istore X9.here hx rfl (hb hby at_43) rfl (l' := #[.val (.int ops), .val (.ref b1), .val (.ref b3), .val (.ref b6), .val (.int (0 : Int32)), .val (.int (1 : Int32))]) rfl k) ?_
  refine Goes.to (T' := T9) (mkF m 46 #[.val (.int ops), .val (.ref b1), .val (.ref b3), .val (.ref b6), .val (.int (0 : Int32)), .val (.int (1 : Int32))] [(.ref b1)]) (fun t k => XS.aloadN X9.here hx rfl (hb hby at_45) rfl rfl k) ?_
  refine Goes.to (T' := T9) (mkF m 47 #[.val (.int ops), .val (.ref b1), .val (.ref b3), .val (.ref b6), .val (.int (0 : Int32)), .val (.int (1 : Int32))] [(.ref b3), (.ref b1)]) (fun t k => XS.aloadN X9.here hx rfl (hb hby at_46) rfl rfl k) ?_
  refine Goes.to (T' := T9) (mkF m 48 #[.val (.int ops), .val (.ref b1), .val (.ref b3), .val (.ref b6), .val (.int (0 : Int32)), .val (.int (1 : Int32))] [(.ref b6), (.ref b3), (.ref b1)]) (fun t k => XS.aloadN X9.here hx rfl (hb hby at_47) rfl rfl k) ?_
  refine Goes.to (T' := T9) (mkF m 49 #[.val (.int ops), .val (.ref b1), .val (.ref b3), .val (.ref b6), .val (.int (0 : Int32)), .val (.int (1 : Int32))] [(.int ops), (.ref b6), (.ref b3), (.ref b1)]) (fun t k => XS.iloadN X9.here hx rfl (hb hby at_48) rfl k) ?_
  refine Goes.to (T' := T9) (mkF m 50 #[.val (.int ops), .val (.ref b1), .val (.ref b3), .val (.ref b6), .val (.int (0 : Int32)), .val (.int (1 : Int32))] [(.int (3 : Int32)), (.int ops), (.ref b6), (.ref b3), (.ref b1)]) (fun t k => XS.iconst X9.here hx rfl (hb hby at_49) k) ?_
  refine Goes.to (T' := T9) (mkF m 51 #[.val (.int ops), .val (.ref b1), .val (.ref b3), .val (.ref b6), .val (.int (0 : Int32)), .val (.int (1 : Int32))] [(.int (ops &&& (3 : Int32))), (.ref b6), (.ref b3), (.ref b1)]) (fun t k => XS.iand X9.here hx rfl (hb hby at_50) rfl k) ?_
  refine Goes.to (T' := T9) (mkF m 53 #[.val (.int ops), .val (.ref b1), .val (.ref b3), .val (.ref b6), .val (.int (0 : Int32)), .val (.int (1 : Int32))] [(.int (0 : Int32)), (.int (ops &&& (3 : Int32))), (.ref b6), (.ref b3), (.ref b1)]) (fun t k => XS.iload X9.here hx rfl (hb hby at_51) rfl k) ?_
  obtain ⟨_, _, ⟨T10, L10, k10, n10⟩, -, X10, ⟨Lc10, hQ10, l10, y10, z10⟩, st10⟩ := Jvm.LawKit.callS X9 hx (y := (⟨"com/example/lachesis/lachesis/engine/RunEndEndedPinLaw", "step", "(Lcom/example/lachesis/lachesis/engine/RunEnd;Lcom/example/lachesis/lachesis/engine/ClientProcessException;Lcom/example/lachesis/lachesis/engine/ClientProcessException;II)I"⟩ : MethodName)) hown (mvT hZ (hw _ (List.mem_of_getElem? (i := 87) rfl))) (mvT hZ (hw _ (List.mem_of_getElem? (i := 88) rfl))) (mvT hZ (hw _ (List.mem_of_getElem? (i := 89) rfl))) (mvT hZ (hw _ (List.mem_of_getElem? (i := 90) rfl))) (by decide) (backOf (W := 0) (rm_step l Z a0 hw [] b1 b3 b6 (ops &&& (3 : Int32)) (0 : Int32) .null 0 T8.heap n0 O F_failure_b1 F_closed_b1 E_b1 g_b1 own_inv0) hZ (hw _ (List.mem_of_getElem? (i := 90) rfl)) (hw _ (List.mem_of_getElem? (i := 89) rfl)) (by decide) (by decide)) (g := (mkF m 53 #[.val (.int ops), .val (.ref b1), .val (.ref b3), .val (.ref b6), .val (.int (0 : Int32)), .val (.int (1 : Int32))] [(.int (0 : Int32)), (.int (ops &&& (3 : Int32))), (.ref b6), (.ref b3), (.ref b1)])) rfl (by rw [hml]; rfl) (argsL := [(.ref b1), (.ref b3), (.ref b6), (.int (ops &&& (3 : Int32))), (.int (0 : Int32))]) (rest := []) (lenOf pd_5 rfl) rfl (by show 2 * 0 + _ ≤ _; exact Nat.le_of_eq rfl) (hb hby at_53) (fun _ _ => ⟨rfl, hs9, (by decide : 9 + 0 ≤ _), (by decide : 5558 + 0 ≤ _)⟩)
  dsimp only [Pt.U, Pt.locs, Pt.cells, Pt.slots] at X10 l10 y10 z10 st10 hQ10
  subst l10 y10 z10
  obtain ⟨s10, fv10, cv10, rfl, N10, K10, F_failure_b1, F_closed_b1, I10⟩ := hQ10
  have N10' := Fr.app N9' N10
  replace E_b1 := E_b1.keep K10
  replace E_b3 := E_b3.keep K10
  replace E_b6 := E_b6.keep K10
  replace O := O.keep K10 (allS g_b1 all0)
  replace hk0 := Nat.le_trans hk0 K10.1
  refine Goes.to (T' := T10) (mkF m 56 #[.val (.int ops), .val (.ref b1), .val (.ref b3), .val (.ref b6), .val (.int (0 : Int32)), .val (.int (1 : Int32))] [(.int s10)]) (fun t k => st10 t k) ?_
  refine Goes.to (T' := T10) (mkF m 58 #[.val (.int ops), .val (.ref b1), .val (.ref b3), .val (.ref b6), .val (.int s10), .val (.int (1 : Int32))] []) (fun t k => XS.istore X10.here hx rfl (hb hby at_56) rfl (l' := #[.val (.int ops), .val (.ref b1), .val (.ref b3), .val (.ref b6), .val (.int s10), .val (.int (1 : Int32))]) rfl k) ?_
  refine Goes.to (T' := T10) (mkF m 60 #[.val (.int ops), .val (.ref b1), .val (.ref b3), .val (.ref b6), .val (.int s10), .val (.int (1 : Int32))] [(.int (1 : Int32))]) (fun t k => XS.iload X10.here hx rfl (hb hby at_58) rfl k) ?_
  refine Goes.to (T' := T10) (mkF m 63 #[.val (.int ops), .val (.ref b1), .val (.ref b3), .val (.ref b6), .val (.int s10), .val (.int (1 : Int32))] []) (fun t k => XS.ifNo X10.here hx rfl (hb hby at_60) rfl ((if0 _ _).trans (feq ((by decide) : ¬ ((1 : Int32) = (0 : Int32)))).1) k) ?_
  refine Goes.to (T' := T10) (mkF m 64 #[.val (.int ops), .val (.ref b1), .val (.ref b3), .val (.ref b6), .val (.int s10), .val (.int (1 : Int32))] [(.ref b1)]) (fun t k => XS.aloadN X10.here hx rfl (hb hby at_63) rfl rfl k) ?_
  obtain ⟨cq11, kq11, q11a, q11b, q11c⟩ := isOf hZ rfl E_b1
  obtain ⟨_, _, ⟨T11, L11, k11, n11⟩, -, X11, ⟨Lc11, hQ11, l11, y11, z11⟩, st11⟩ := X10.virtualBack hx (y := (⟨"com/example/lachesis/lachesis/engine/RunEnd", "ended", "()Z"⟩ : MethodName)) (z := (⟨"com/example/lachesis/lachesis/engine/RunEnd", "ended", "()Z"⟩ : MethodName)) hown (mvT hZ (hw _ (List.mem_of_getElem? (i := 78) rfl))) (mvT hZ (hw _ (List.mem_of_getElem? (i := 79) rfl))) (notFace_of_selects (args := #[]) (mvT hZ (hw _ (List.mem_of_getElem? (i := 81) rfl)))) (mvT hZ (hw _ (List.mem_of_getElem? (i := 81) rfl))) (mvT hZ (hw _ (List.mem_of_getElem? (i := 80) rfl))) (by decide) (backOf (W := 0) (rm_ended l Z a0 hw [] b1 fv10 cv10 s10 T10.heap n0 O F_failure_b1 F_closed_b1 I10) hZ (hw _ (List.mem_of_getElem? (i := 82) rfl)) (hw _ (List.mem_of_getElem? (i := 2) rfl)) (by decide) (by decide)) q11a q11c (g := (mkF m 64 #[.val (.int ops), .val (.ref b1), .val (.ref b3), .val (.ref b6), .val (.int s10), .val (.int (1 : Int32))] [(.ref b1)])) rfl (by rw [hml]; rfl) (Steps.refl _) (argsL := []) (rest := []) (lenOf pd_4 rfl) rfl (by show 2 * 0 + _ ≤ _; exact Nat.le_of_eq rfl) (hb hby at_64) (fun _ _ => ⟨rfl, rfl, (by decide : 9 + 0 ≤ _), (by decide : 5558 + 0 ≤ _)⟩)
  dsimp only [Pt.U, Pt.locs, Pt.cells, Pt.slots] at X11 l11 y11 z11 st11 hQ11
  subst l11 y11 z11
  obtain ⟨rfl, N11, hs11⟩ := hQ11
  have N11' := Fr.app N10' N11
  refine Goes.to (T' := T11) (mkF m 67 #[.val (.int ops), .val (.ref b1), .val (.ref b3), .val (.ref b6), .val (.int s10), .val (.int (1 : Int32))] [(.int (bit (¬ s10 = 0)))]) (fun t k => st11.trans k) ?_
  have D67_12 : ∀ t, Steps p.tables e below (T11.setTop (mkF m 77 #[.val (.int ops), .val (.ref b1), .val (.ref b3), .val (.ref b6), .val (.int s10), .val (.int (1 : Int32))] [(.int (if s10 = (0 : Int32) then (0 : Int32) else (1 : Int32))), (.int (bit (¬ s10 = 0)))])) t → Steps p.tables e below (T11.setTop (mkF m 67 #[.val (.int ops), .val (.ref b1), .val (.ref b3), .val (.ref b6), .val (.int s10), .val (.int (1 : Int32))] [(.int (bit (¬ s10 = 0)))])) t := by
    intro t k
    refine XS.iload X11.here hx rfl (hb hby at_67) rfl ?_
    show Steps p.tables e below (T11.setTop (mkF m 69 #[.val (.int ops), .val (.ref b1), .val (.ref b3), .val (.ref b6), .val (.int s10), .val (.int (1 : Int32))] [(.int s10), (.int (bit (¬ s10 = 0)))])) _
    by_cases hq : s10 = (0 : Int32)
    · simp only [if_pos hq] at k
      refine XS.ifYes X11.here hx rfl (pc0 := 69) (pc' := 76) rfl (hb hby at_69) rfl ((if0 _ _).trans (teq hq).1) (by decide) (by decide) ?_
      show Steps p.tables e below (T11.setTop (mkF m 76 #[.val (.int ops), .val (.ref b1), .val (.ref b3), .val (.ref b6), .val (.int s10), .val (.int (1 : Int32))] [(.int (bit (¬ s10 = 0)))])) _
      refine XS.iconst X11.here hx rfl (hb hby at_76) ?_
      show Steps p.tables e below (T11.setTop (mkF m 77 #[.val (.int ops), .val (.ref b1), .val (.ref b3), .val (.ref b6), .val (.int s10), .val (.int (1 : Int32))] [(.int (0 : Int32)), (.int (bit (¬ s10 = 0)))])) _
      exact k
    · simp only [if_neg hq] at k
      refine XS.ifNo X11.here hx rfl (hb hby at_69) rfl ((if0 _ _).trans (feq hq).1) ?_
      show Steps p.tables e below (T11.setTop (mkF m 72 #[.val (.int ops), .val (.ref b1), .val (.ref b3), .val (.ref b6), .val (.int s10), .val (.int (1 : Int32))] [(.int (bit (¬ s10 = 0)))])) _
      refine XS.iconst X11.here hx rfl (hb hby at_72) ?_
      show Steps p.tables e below (T11.setTop (mkF m 73 #[.val (.int ops), .val (.ref b1), .val (.ref b3), .val (.ref b6), .val (.int s10), .val (.int (1 : Int32))] [(.int (1 : Int32)), (.int (bit (¬ s10 = 0)))])) _
      refine XS.goto X11.here hx rfl (pc0 := 73) (pc' := 77) rfl (hb hby at_73) (by decide) (by decide) ?_
      show Steps p.tables e below (T11.setTop (mkF m 77 #[.val (.int ops), .val (.ref b1), .val (.ref b3), .val (.ref b6), .val (.int s10), .val (.int (1 : Int32))] [(.int (1 : Int32)), (.int (bit (¬ s10 = 0)))])) _
      exact k
  refine Goes.to (T' := T11) (mkF m 77 #[.val (.int ops), .val (.ref b1), .val (.ref b3), .val (.ref b6), .val (.int s10), .val (.int (1 : Int32))] [(.int (if s10 = (0 : Int32) then (0 : Int32) else (1 : Int32))), (.int (bit (¬ s10 = 0)))]) D67_12 ?_
  obtain ⟨z77, z77_eq⟩ : ∃ z, z = (if s10 = (0 : Int32) then (0 : Int32) else (1 : Int32)) := ⟨_, rfl⟩
  rw [← z77_eq]
  refine Goes.to (T' := T11) (mkF m 80 #[.val (.int ops), .val (.ref b1), .val (.ref b3), .val (.ref b6), .val (.int s10), .val (.int (1 : Int32))] []) (fun t k => XS.icmpNo X11.here hx rfl (hb hby at_77) rfl (teq (own_zeq z77_eq : (bit (¬ s10 = 0)) = z77)).2 k) ?_
  refine Goes.to (T' := T11) (mkF m 81 #[.val (.int ops), .val (.ref b1), .val (.ref b3), .val (.ref b6), .val (.int s10), .val (.int (1 : Int32))] [(.int (1 : Int32))]) (fun t k => XS.iconst X11.here hx rfl (hb hby at_80) k) ?_
  refine Goes.to (T' := T11) (mkF m 85 #[.val (.int ops), .val (.ref b1), .val (.ref b3), .val (.ref b6), .val (.int s10), .val (.int (1 : Int32))] [(.int (1 : Int32))]) (fun t k => XS.goto X11.here hx rfl (pc0 := 81) (pc' := 85) rfl (hb hby at_81) (by decide) (by decide) k) ?_
  refine Goes.to (T' := T11) (mkF m 87 #[.val (.int ops), .val (.ref b1), .val (.ref b3), .val (.ref b6), .val (.int s10), .val (.int (1 : Int32))] []) (fun t k => XS.istore X11.here hx rfl (hb hby at_85) rfl (l' := #[.val (.int ops), .val (.ref b1), .val (.ref b3), .val (.ref b6), .val (.int s10), .val (.int (1 : Int32))]) rfl k) ?_
  refine Goes.to (T' := T11) (mkF m 88 #[.val (.int ops), .val (.ref b1), .val (.ref b3), .val (.ref b6), .val (.int s10), .val (.int (1 : Int32))] [(.ref b1)]) (fun t k => XS.aloadN X11.here hx rfl (hb hby at_87) rfl rfl k) ?_
  refine Goes.to (T' := T11) (mkF m 89 #[.val (.int ops), .val (.ref b1), .val (.ref b3), .val (.ref b6), .val (.int s10), .val (.int (1 : Int32))] [(.ref b3), (.ref b1)]) (fun t k => XS.aloadN X11.here hx rfl (hb hby at_88) rfl rfl k) ?_
  refine Goes.to (T' := T11) (mkF m 90 #[.val (.int ops), .val (.ref b1), .val (.ref b3), .val (.ref b6), .val (.int s10), .val (.int (1 : Int32))] [(.ref b6), (.ref b3), (.ref b1)]) (fun t k => XS.aloadN X11.here hx rfl (hb hby at_89) rfl rfl k) ?_
  refine Goes.to (T' := T11) (mkF m 91 #[.val (.int ops), .val (.ref b1), .val (.ref b3), .val (.ref b6), .val (.int s10), .val (.int (1 : Int32))] [(.int ops), (.ref b6), (.ref b3), (.ref b1)]) (fun t k => XS.iloadN X11.here hx rfl (hb hby at_90) rfl k) ?_
  refine Goes.to (T' := T11) (mkF m 92 #[.val (.int ops), .val (.ref b1), .val (.ref b3), .val (.ref b6), .val (.int s10), .val (.int (1 : Int32))] [(.int (2 : Int32)), (.int ops), (.ref b6), (.ref b3), (.ref b1)]) (fun t k => XS.iconst X11.here hx rfl (hb hby at_91) k) ?_
  refine Goes.to (T' := T11) (mkF m 93 #[.val (.int ops), .val (.ref b1), .val (.ref b3), .val (.ref b6), .val (.int s10), .val (.int (1 : Int32))] [(.int ((ops.toUInt32 >>> ((2 : Int32) &&& 31).toUInt32).toInt32)), (.ref b6), (.ref b3), (.ref b1)]) (fun t k => XS.iushr X11.here hx rfl (hb hby at_92) rfl k) ?_
  refine Goes.to (T' := T11) (mkF m 94 #[.val (.int ops), .val (.ref b1), .val (.ref b3), .val (.ref b6), .val (.int s10), .val (.int (1 : Int32))] [(.int (3 : Int32)), (.int ((ops.toUInt32 >>> ((2 : Int32) &&& 31).toUInt32).toInt32)), (.ref b6), (.ref b3), (.ref b1)]) (fun t k => XS.iconst X11.here hx rfl (hb hby at_93) k) ?_
  refine Goes.to (T' := T11) (mkF m 95 #[.val (.int ops), .val (.ref b1), .val (.ref b3), .val (.ref b6), .val (.int s10), .val (.int (1 : Int32))] [(.int (((ops.toUInt32 >>> ((2 : Int32) &&& 31).toUInt32).toInt32) &&& (3 : Int32))), (.ref b6), (.ref b3), (.ref b1)]) (fun t k => XS.iand X11.here hx rfl (hb hby at_94) rfl k) ?_
  refine Goes.to (T' := T11) (mkF m 97 #[.val (.int ops), .val (.ref b1), .val (.ref b3), .val (.ref b6), .val (.int s10), .val (.int (1 : Int32))] [(.int s10), (.int (((ops.toUInt32 >>> ((2 : Int32) &&& 31).toUInt32).toInt32) &&& (3 : Int32))), (.ref b6), (.ref b3), (.ref b1)]) (fun t k => XS.iload X11.here hx rfl (hb hby at_95) rfl k) ?_
  obtain ⟨_, _, ⟨T14, L14, k14, n14⟩, -, X14, ⟨Lc14, hQ14, l14, y14, z14⟩, st14⟩ := Jvm.LawKit.callS X11 hx (y := (⟨"com/example/lachesis/lachesis/engine/RunEndEndedPinLaw", "step", "(Lcom/example/lachesis/lachesis/engine/RunEnd;Lcom/example/lachesis/lachesis/engine/ClientProcessException;Lcom/example/lachesis/lachesis/engine/ClientProcessException;II)I"⟩ : MethodName)) hown (mvT hZ (hw _ (List.mem_of_getElem? (i := 87) rfl))) (mvT hZ (hw _ (List.mem_of_getElem? (i := 88) rfl))) (mvT hZ (hw _ (List.mem_of_getElem? (i := 89) rfl))) (mvT hZ (hw _ (List.mem_of_getElem? (i := 90) rfl))) (by decide) (backOf (W := 0) (rm_step l Z a0 hw [] b1 b3 b6 (((ops.toUInt32 >>> ((2 : Int32) &&& 31).toUInt32).toInt32) &&& (3 : Int32)) s10 fv10 cv10 T10.heap n0 O F_failure_b1 F_closed_b1 E_b1 g_b1 I10) hZ (hw _ (List.mem_of_getElem? (i := 90) rfl)) (hw _ (List.mem_of_getElem? (i := 89) rfl)) (by decide) (by decide)) (g := (mkF m 97 #[.val (.int ops), .val (.ref b1), .val (.ref b3), .val (.ref b6), .val (.int s10), .val (.int (1 : Int32))] [(.int s10), (.int (((ops.toUInt32 >>> ((2 : Int32) &&& 31).toUInt32).toInt32) &&& (3 : Int32))), (.ref b6), (.ref b3), (.ref b1)])) rfl (by rw [hml]; rfl) (argsL := [(.ref b1), (.ref b3), (.ref b6), (.int (((ops.toUInt32 >>> ((2 : Int32) &&& 31).toUInt32).toInt32) &&& (3 : Int32))), (.int s10)]) (rest := []) (lenOf pd_5 rfl) rfl (by show 2 * 0 + _ ≤ _; exact Nat.le_of_eq rfl) (hb hby at_97) (fun _ _ => ⟨rfl, hs11, (by decide : 9 + 0 ≤ _), (by decide : 5558 + 0 ≤ _)⟩)
  dsimp only [Pt.U, Pt.locs, Pt.cells, Pt.slots] at X14 l14 y14 z14 st14 hQ14
  subst l14 y14 z14
  obtain ⟨s14, fv14, cv14, rfl, N14, K14, F_failure_b1, F_closed_b1, I14⟩ := hQ14
  have N14' := Fr.app N11' N14
  replace E_b1 := E_b1.keep K14
  replace E_b3 := E_b3.keep K14
  replace E_b6 := E_b6.keep K14
  replace O := O.keep K14 (allS g_b1 all0)
  replace hk0 := Nat.le_trans hk0 K14.1
  refine Goes.to (T' := T14) (mkF m 100 #[.val (.int ops), .val (.ref b1), .val (.ref b3), .val (.ref b6), .val (.int s10), .val (.int (1 : Int32))] [(.int s14)]) (fun t k => st14 t k) ?_
  refine Goes.to (T' := T14) (mkF m 102 #[.val (.int ops), .val (.ref b1), .val (.ref b3), .val (.ref b6), .val (.int s14), .val (.int (1 : Int32))] []) (fun t k => XS.istore X14.here hx rfl (hb hby at_100) rfl (l' := #[.val (.int ops), .val (.ref b1), .val (.ref b3), .val (.ref b6), .val (.int s14), .val (.int (1 : Int32))]) rfl k) ?_
  refine Goes.to (T' := T14) (mkF m 104 #[.val (.int ops), .val (.ref b1), .val (.ref b3), .val (.ref b6), .val (.int s14), .val (.int (1 : Int32))] [(.int (1 : Int32))]) (fun t k => XS.iload X14.here hx rfl (hb hby at_102) rfl k) ?_
  refine Goes.to (T' := T14) (mkF m 107 #[.val (.int ops), .val (.ref b1), .val (.ref b3), .val (.ref b6), .val (.int s14), .val (.int (1 : Int32))] []) (fun t k => XS.ifNo X14.here hx rfl (hb hby at_104) rfl ((if0 _ _).trans (feq ((by decide) : ¬ ((1 : Int32) = (0 : Int32)))).1) k) ?_
  refine Goes.to (T' := T14) (mkF m 108 #[.val (.int ops), .val (.ref b1), .val (.ref b3), .val (.ref b6), .val (.int s14), .val (.int (1 : Int32))] [(.ref b1)]) (fun t k => XS.aloadN X14.here hx rfl (hb hby at_107) rfl rfl k) ?_
  obtain ⟨cq15, kq15, q15a, q15b, q15c⟩ := isOf hZ rfl E_b1
  obtain ⟨_, _, ⟨T15, L15, k15, n15⟩, -, X15, ⟨Lc15, hQ15, l15, y15, z15⟩, st15⟩ := X14.virtualBack hx (y := (⟨"com/example/lachesis/lachesis/engine/RunEnd", "ended", "()Z"⟩ : MethodName)) (z := (⟨"com/example/lachesis/lachesis/engine/RunEnd", "ended", "()Z"⟩ : MethodName)) hown (mvT hZ (hw _ (List.mem_of_getElem? (i := 78) rfl))) (mvT hZ (hw _ (List.mem_of_getElem? (i := 79) rfl))) (notFace_of_selects (args := #[]) (mvT hZ (hw _ (List.mem_of_getElem? (i := 81) rfl)))) (mvT hZ (hw _ (List.mem_of_getElem? (i := 81) rfl))) (mvT hZ (hw _ (List.mem_of_getElem? (i := 80) rfl))) (by decide) (backOf (W := 0) (rm_ended l Z a0 hw [] b1 fv14 cv14 s14 T14.heap n0 O F_failure_b1 F_closed_b1 I14) hZ (hw _ (List.mem_of_getElem? (i := 82) rfl)) (hw _ (List.mem_of_getElem? (i := 2) rfl)) (by decide) (by decide)) q15a q15c (g := (mkF m 108 #[.val (.int ops), .val (.ref b1), .val (.ref b3), .val (.ref b6), .val (.int s14), .val (.int (1 : Int32))] [(.ref b1)])) rfl (by rw [hml]; rfl) (Steps.refl _) (argsL := []) (rest := []) (lenOf pd_4 rfl) rfl (by show 2 * 0 + _ ≤ _; exact Nat.le_of_eq rfl) (hb hby at_108) (fun _ _ => ⟨rfl, rfl, (by decide : 9 + 0 ≤ _), (by decide : 5558 + 0 ≤ _)⟩)
  dsimp only [Pt.U, Pt.locs, Pt.cells, Pt.slots] at X15 l15 y15 z15 st15 hQ15
  subst l15 y15 z15
  obtain ⟨rfl, N15, hs15⟩ := hQ15
  have N15' := Fr.app N14' N15
  refine Goes.to (T' := T15) (mkF m 111 #[.val (.int ops), .val (.ref b1), .val (.ref b3), .val (.ref b6), .val (.int s14), .val (.int (1 : Int32))] [(.int (bit (¬ s14 = 0)))]) (fun t k => st15.trans k) ?_
  have D111_16 : ∀ t, Steps p.tables e below (T15.setTop (mkF m 121 #[.val (.int ops), .val (.ref b1), .val (.ref b3), .val (.ref b6), .val (.int s14), .val (.int (1 : Int32))] [(.int (if s14 = (0 : Int32) then (0 : Int32) else (1 : Int32))), (.int (bit (¬ s14 = 0)))])) t → Steps p.tables e below (T15.setTop (mkF m 111 #[.val (.int ops), .val (.ref b1), .val (.ref b3), .val (.ref b6), .val (.int s14), .val (.int (1 : Int32))] [(.int (bit (¬ s14 = 0)))])) t := by
    intro t k
    refine XS.iload X15.here hx rfl (hb hby at_111) rfl ?_
    show Steps p.tables e below (T15.setTop (mkF m 113 #[.val (.int ops), .val (.ref b1), .val (.ref b3), .val (.ref b6), .val (.int s14), .val (.int (1 : Int32))] [(.int s14), (.int (bit (¬ s14 = 0)))])) _
    by_cases hq : s14 = (0 : Int32)
    · simp only [if_pos hq] at k
      refine XS.ifYes X15.here hx rfl (pc0 := 113) (pc' := 120) rfl (hb hby at_113) rfl ((if0 _ _).trans (teq hq).1) (by decide) (by decide) ?_
      show Steps p.tables e below (T15.setTop (mkF m 120 #[.val (.int ops), .val (.ref b1), .val (.ref b3), .val (.ref b6), .val (.int s14), .val (.int (1 : Int32))] [(.int (bit (¬ s14 = 0)))])) _
      refine XS.iconst X15.here hx rfl (hb hby at_120) ?_
      show Steps p.tables e below (T15.setTop (mkF m 121 #[.val (.int ops), .val (.ref b1), .val (.ref b3), .val (.ref b6), .val (.int s14), .val (.int (1 : Int32))] [(.int (0 : Int32)), (.int (bit (¬ s14 = 0)))])) _
      exact k
    · simp only [if_neg hq] at k
      refine XS.ifNo X15.here hx rfl (hb hby at_113) rfl ((if0 _ _).trans (feq hq).1) ?_
      show Steps p.tables e below (T15.setTop (mkF m 116 #[.val (.int ops), .val (.ref b1), .val (.ref b3), .val (.ref b6), .val (.int s14), .val (.int (1 : Int32))] [(.int (bit (¬ s14 = 0)))])) _
      refine XS.iconst X15.here hx rfl (hb hby at_116) ?_
      show Steps p.tables e below (T15.setTop (mkF m 117 #[.val (.int ops), .val (.ref b1), .val (.ref b3), .val (.ref b6), .val (.int s14), .val (.int (1 : Int32))] [(.int (1 : Int32)), (.int (bit (¬ s14 = 0)))])) _
      refine XS.goto X15.here hx rfl (pc0 := 117) (pc' := 121) rfl (hb hby at_117) (by decide) (by decide) ?_
      show Steps p.tables e below (T15.setTop (mkF m 121 #[.val (.int ops), .val (.ref b1), .val (.ref b3), .val (.ref b6), .val (.int s14), .val (.int (1 : Int32))] [(.int (1 : Int32)), (.int (bit (¬ s14 = 0)))])) _
      exact k
  refine Goes.to (T' := T15) (mkF m 121 #[.val (.int ops), .val (.ref b1), .val (.ref b3), .val (.ref b6), .val (.int s14), .val (.int (1 : Int32))] [(.int (if s14 = (0 : Int32) then (0 : Int32) else (1 : Int32))), (.int (bit (¬ s14 = 0)))]) D111_16 ?_
  obtain ⟨z121, z121_eq⟩ : ∃ z, z = (if s14 = (0 : Int32) then (0 : Int32) else (1 : Int32)) := ⟨_, rfl⟩
  rw [← z121_eq]
  refine Goes.to (T' := T15) (mkF m 124 #[.val (.int ops), .val (.ref b1), .val (.ref b3), .val (.ref b6), .val (.int s14), .val (.int (1 : Int32))] []) (fun t k => XS.icmpNo X15.here hx rfl (hb hby at_121) rfl (teq (own_zeq z121_eq : (bit (¬ s14 = 0)) = z121)).2 k) ?_
  refine Goes.to (T' := T15) (mkF m 125 #[.val (.int ops), .val (.ref b1), .val (.ref b3), .val (.ref b6), .val (.int s14), .val (.int (1 : Int32))] [(.int (1 : Int32))]) (fun t k => XS.iconst X15.here hx rfl (hb hby at_124) k) ?_
  refine Goes.to (T' := T15) (mkF m 129 #[.val (.int ops), .val (.ref b1), .val (.ref b3), .val (.ref b6), .val (.int s14), .val (.int (1 : Int32))] [(.int (1 : Int32))]) (fun t k => XS.goto X15.here hx rfl (pc0 := 125) (pc' := 129) rfl (hb hby at_125) (by decide) (by decide) k) ?_
  refine Goes.to (T' := T15) (mkF m 131 #[.val (.int ops), .val (.ref b1), .val (.ref b3), .val (.ref b6), .val (.int s14), .val (.int (1 : Int32))] []) (fun t k => XS.istore X15.here hx rfl (hb hby at_129) rfl (l' := #[.val (.int ops), .val (.ref b1), .val (.ref b3), .val (.ref b6), .val (.int s14), .val (.int (1 : Int32))]) rfl k) ?_
  refine Goes.to (T' := T15) (mkF m 132 #[.val (.int ops), .val (.ref b1), .val (.ref b3), .val (.ref b6), .val (.int s14), .val (.int (1 : Int32))] [(.ref b1)]) (fun t k => XS.aloadN X15.here hx rfl (hb hby at_131) rfl rfl k) ?_
  refine Goes.to (T' := T15) (mkF m 133 #[.val (.int ops), .val (.ref b1), .val (.ref b3), .val (.ref b6), .val (.int s14), .val (.int (1 : Int32))] [(.ref b3), (.ref b1)]) (fun t k => XS.aloadN X15.here hx rfl (hb hby at_132) rfl rfl k) ?_
  refine Goes.to (T' := T15) (mkF m 134 #[.val (.int ops), .val (.ref b1), .val (.ref b3), .val (.ref b6), .val (.int s14), .val (.int (1 : Int32))] [(.ref b6), (.ref b3), (.ref b1)]) (fun t k => XS.aloadN X15.here hx rfl (hb hby at_133) rfl rfl k) ?_
  refine Goes.to (T' := T15) (mkF m 135 #[.val (.int ops), .val (.ref b1), .val (.ref b3), .val (.ref b6), .val (.int s14), .val (.int (1 : Int32))] [(.int ops), (.ref b6), (.ref b3), (.ref b1)]) (fun t k => XS.iloadN X15.here hx rfl (hb hby at_134) rfl k) ?_
  refine Goes.to (T' := T15) (mkF m 136 #[.val (.int ops), .val (.ref b1), .val (.ref b3), .val (.ref b6), .val (.int s14), .val (.int (1 : Int32))] [(.int (4 : Int32)), (.int ops), (.ref b6), (.ref b3), (.ref b1)]) (fun t k => XS.iconst X15.here hx rfl (hb hby at_135) k) ?_
  refine Goes.to (T' := T15) (mkF m 137 #[.val (.int ops), .val (.ref b1), .val (.ref b3), .val (.ref b6), .val (.int s14), .val (.int (1 : Int32))] [(.int ((ops.toUInt32 >>> ((4 : Int32) &&& 31).toUInt32).toInt32)), (.ref b6), (.ref b3), (.ref b1)]) (fun t k => XS.iushr X15.here hx rfl (hb hby at_136) rfl k) ?_
  refine Goes.to (T' := T15) (mkF m 138 #[.val (.int ops), .val (.ref b1), .val (.ref b3), .val (.ref b6), .val (.int s14), .val (.int (1 : Int32))] [(.int (3 : Int32)), (.int ((ops.toUInt32 >>> ((4 : Int32) &&& 31).toUInt32).toInt32)), (.ref b6), (.ref b3), (.ref b1)]) (fun t k => XS.iconst X15.here hx rfl (hb hby at_137) k) ?_
  refine Goes.to (T' := T15) (mkF m 139 #[.val (.int ops), .val (.ref b1), .val (.ref b3), .val (.ref b6), .val (.int s14), .val (.int (1 : Int32))] [(.int (((ops.toUInt32 >>> ((4 : Int32) &&& 31).toUInt32).toInt32) &&& (3 : Int32))), (.ref b6), (.ref b3), (.ref b1)]) (fun t k => XS.iand X15.here hx rfl (hb hby at_138) rfl k) ?_
  refine Goes.to (T' := T15) (mkF m 141 #[.val (.int ops), .val (.ref b1), .val (.ref b3), .val (.ref b6), .val (.int s14), .val (.int (1 : Int32))] [(.int s14), (.int (((ops.toUInt32 >>> ((4 : Int32) &&& 31).toUInt32).toInt32) &&& (3 : Int32))), (.ref b6), (.ref b3), (.ref b1)]) (fun t k => XS.iload X15.here hx rfl (hb hby at_139) rfl k) ?_
  obtain ⟨_, _, ⟨T18, L18, k18, n18⟩, -, X18, ⟨Lc18, hQ18, l18, y18, z18⟩, st18⟩ := Jvm.LawKit.callS X15 hx (y := (⟨"com/example/lachesis/lachesis/engine/RunEndEndedPinLaw", "step", "(Lcom/example/lachesis/lachesis/engine/RunEnd;Lcom/example/lachesis/lachesis/engine/ClientProcessException;Lcom/example/lachesis/lachesis/engine/ClientProcessException;II)I"⟩ : MethodName)) hown (mvT hZ (hw _ (List.mem_of_getElem? (i := 87) rfl))) (mvT hZ (hw _ (List.mem_of_getElem? (i := 88) rfl))) (mvT hZ (hw _ (List.mem_of_getElem? (i := 89) rfl))) (mvT hZ (hw _ (List.mem_of_getElem? (i := 90) rfl))) (by decide) (backOf (W := 0) (rm_step l Z a0 hw [] b1 b3 b6 (((ops.toUInt32 >>> ((4 : Int32) &&& 31).toUInt32).toInt32) &&& (3 : Int32)) s14 fv14 cv14 T14.heap n0 O F_failure_b1 F_closed_b1 E_b1 g_b1 I14) hZ (hw _ (List.mem_of_getElem? (i := 90) rfl)) (hw _ (List.mem_of_getElem? (i := 89) rfl)) (by decide) (by decide)) (g := (mkF m 141 #[.val (.int ops), .val (.ref b1), .val (.ref b3), .val (.ref b6), .val (.int s14), .val (.int (1 : Int32))] [(.int s14), (.int (((ops.toUInt32 >>> ((4 : Int32) &&& 31).toUInt32).toInt32) &&& (3 : Int32))), (.ref b6), (.ref b3), (.ref b1)])) rfl (by rw [hml]; rfl) (argsL := [(.ref b1), (.ref b3), (.ref b6), (.int (((ops.toUInt32 >>> ((4 : Int32) &&& 31).toUInt32).toInt32) &&& (3 : Int32))), (.int s14)]) (rest := []) (lenOf pd_5 rfl) rfl (by show 2 * 0 + _ ≤ _; exact Nat.le_of_eq rfl) (hb hby at_141) (fun _ _ => ⟨rfl, hs15, (by decide : 9 + 0 ≤ _), (by decide : 5558 + 0 ≤ _)⟩)
  dsimp only [Pt.U, Pt.locs, Pt.cells, Pt.slots] at X18 l18 y18 z18 st18 hQ18
  subst l18 y18 z18
  obtain ⟨s18, fv18, cv18, rfl, N18, K18, F_failure_b1, F_closed_b1, I18⟩ := hQ18
  have N18' := Fr.app N15' N18
  replace E_b1 := E_b1.keep K18
  replace E_b3 := E_b3.keep K18
  replace E_b6 := E_b6.keep K18
  replace O := O.keep K18 (allS g_b1 all0)
  replace hk0 := Nat.le_trans hk0 K18.1
  refine Goes.to (T' := T18) (mkF m 144 #[.val (.int ops), .val (.ref b1), .val (.ref b3), .val (.ref b6), .val (.int s14), .val (.int (1 : Int32))] [(.int s18)]) (fun t k => st18 t k) ?_
  refine Goes.to (T' := T18) (mkF m 146 #[.val (.int ops), .val (.ref b1), .val (.ref b3), .val (.ref b6), .val (.int s18), .val (.int (1 : Int32))] []) (fun t k => XS.istore X18.here hx rfl (hb hby at_144) rfl (l' := #[.val (.int ops), .val (.ref b1), .val (.ref b3), .val (.ref b6), .val (.int s18), .val (.int (1 : Int32))]) rfl k) ?_
  refine Goes.to (T' := T18) (mkF m 148 #[.val (.int ops), .val (.ref b1), .val (.ref b3), .val (.ref b6), .val (.int s18), .val (.int (1 : Int32))] [(.int (1 : Int32))]) (fun t k => XS.iload X18.here hx rfl (hb hby at_146) rfl k) ?_
  refine Goes.to (T' := T18) (mkF m 151 #[.val (.int ops), .val (.ref b1), .val (.ref b3), .val (.ref b6), .val (.int s18), .val (.int (1 : Int32))] []) (fun t k => XS.ifNo X18.here hx rfl (hb hby at_148) rfl ((if0 _ _).trans (feq ((by decide) : ¬ ((1 : Int32) = (0 : Int32)))).1) k) ?_
  refine Goes.to (T' := T18) (mkF m 152 #[.val (.int ops), .val (.ref b1), .val (.ref b3), .val (.ref b6), .val (.int s18), .val (.int (1 : Int32))] [(.ref b1)]) (fun t k => XS.aloadN X18.here hx rfl (hb hby at_151) rfl rfl k) ?_
  obtain ⟨cq19, kq19, q19a, q19b, q19c⟩ := isOf hZ rfl E_b1
  obtain ⟨_, _, ⟨T19, L19, k19, n19⟩, -, X19, ⟨Lc19, hQ19, l19, y19, z19⟩, st19⟩ := X18.virtualBack hx (y := (⟨"com/example/lachesis/lachesis/engine/RunEnd", "ended", "()Z"⟩ : MethodName)) (z := (⟨"com/example/lachesis/lachesis/engine/RunEnd", "ended", "()Z"⟩ : MethodName)) hown (mvT hZ (hw _ (List.mem_of_getElem? (i := 78) rfl))) (mvT hZ (hw _ (List.mem_of_getElem? (i := 79) rfl))) (notFace_of_selects (args := #[]) (mvT hZ (hw _ (List.mem_of_getElem? (i := 81) rfl)))) (mvT hZ (hw _ (List.mem_of_getElem? (i := 81) rfl))) (mvT hZ (hw _ (List.mem_of_getElem? (i := 80) rfl))) (by decide) (backOf (W := 0) (rm_ended l Z a0 hw [] b1 fv18 cv18 s18 T18.heap n0 O F_failure_b1 F_closed_b1 I18) hZ (hw _ (List.mem_of_getElem? (i := 82) rfl)) (hw _ (List.mem_of_getElem? (i := 2) rfl)) (by decide) (by decide)) q19a q19c (g := (mkF m 152 #[.val (.int ops), .val (.ref b1), .val (.ref b3), .val (.ref b6), .val (.int s18), .val (.int (1 : Int32))] [(.ref b1)])) rfl (by rw [hml]; rfl) (Steps.refl _) (argsL := []) (rest := []) (lenOf pd_4 rfl) rfl (by show 2 * 0 + _ ≤ _; exact Nat.le_of_eq rfl) (hb hby at_152) (fun _ _ => ⟨rfl, rfl, (by decide : 9 + 0 ≤ _), (by decide : 5558 + 0 ≤ _)⟩)
  dsimp only [Pt.U, Pt.locs, Pt.cells, Pt.slots] at X19 l19 y19 z19 st19 hQ19
  subst l19 y19 z19
  obtain ⟨rfl, N19, hs19⟩ := hQ19
  have N19' := Fr.app N18' N19
  refine Goes.to (T' := T19) (mkF m 155 #[.val (.int ops), .val (.ref b1), .val (.ref b3), .val (.ref b6), .val (.int s18), .val (.int (1 : Int32))] [(.int (bit (¬ s18 = 0)))]) (fun t k => st19.trans k) ?_
  have D155_20 : ∀ t, Steps p.tables e below (T19.setTop (mkF m 165 #[.val (.int ops), .val (.ref b1), .val (.ref b3), .val (.ref b6), .val (.int s18), .val (.int (1 : Int32))] [(.int (if s18 = (0 : Int32) then (0 : Int32) else (1 : Int32))), (.int (bit (¬ s18 = 0)))])) t → Steps p.tables e below (T19.setTop (mkF m 155 #[.val (.int ops), .val (.ref b1), .val (.ref b3), .val (.ref b6), .val (.int s18), .val (.int (1 : Int32))] [(.int (bit (¬ s18 = 0)))])) t := by
    intro t k
    refine XS.iload X19.here hx rfl (hb hby at_155) rfl ?_
    show Steps p.tables e below (T19.setTop (mkF m 157 #[.val (.int ops), .val (.ref b1), .val (.ref b3), .val (.ref b6), .val (.int s18), .val (.int (1 : Int32))] [(.int s18), (.int (bit (¬ s18 = 0)))])) _
    by_cases hq : s18 = (0 : Int32)
    · simp only [if_pos hq] at k
      refine XS.ifYes X19.here hx rfl (pc0 := 157) (pc' := 164) rfl (hb hby at_157) rfl ((if0 _ _).trans (teq hq).1) (by decide) (by decide) ?_
      show Steps p.tables e below (T19.setTop (mkF m 164 #[.val (.int ops), .val (.ref b1), .val (.ref b3), .val (.ref b6), .val (.int s18), .val (.int (1 : Int32))] [(.int (bit (¬ s18 = 0)))])) _
      refine XS.iconst X19.here hx rfl (hb hby at_164) ?_
      show Steps p.tables e below (T19.setTop (mkF m 165 #[.val (.int ops), .val (.ref b1), .val (.ref b3), .val (.ref b6), .val (.int s18), .val (.int (1 : Int32))] [(.int (0 : Int32)), (.int (bit (¬ s18 = 0)))])) _
      exact k
    · simp only [if_neg hq] at k
      refine XS.ifNo X19.here hx rfl (hb hby at_157) rfl ((if0 _ _).trans (feq hq).1) ?_
      show Steps p.tables e below (T19.setTop (mkF m 160 #[.val (.int ops), .val (.ref b1), .val (.ref b3), .val (.ref b6), .val (.int s18), .val (.int (1 : Int32))] [(.int (bit (¬ s18 = 0)))])) _
      refine XS.iconst X19.here hx rfl (hb hby at_160) ?_
      show Steps p.tables e below (T19.setTop (mkF m 161 #[.val (.int ops), .val (.ref b1), .val (.ref b3), .val (.ref b6), .val (.int s18), .val (.int (1 : Int32))] [(.int (1 : Int32)), (.int (bit (¬ s18 = 0)))])) _
      refine XS.goto X19.here hx rfl (pc0 := 161) (pc' := 165) rfl (hb hby at_161) (by decide) (by decide) ?_
      show Steps p.tables e below (T19.setTop (mkF m 165 #[.val (.int ops), .val (.ref b1), .val (.ref b3), .val (.ref b6), .val (.int s18), .val (.int (1 : Int32))] [(.int (1 : Int32)), (.int (bit (¬ s18 = 0)))])) _
      exact k
  refine Goes.to (T' := T19) (mkF m 165 #[.val (.int ops), .val (.ref b1), .val (.ref b3), .val (.ref b6), .val (.int s18), .val (.int (1 : Int32))] [(.int (if s18 = (0 : Int32) then (0 : Int32) else (1 : Int32))), (.int (bit (¬ s18 = 0)))]) D155_20 ?_
  obtain ⟨z165, z165_eq⟩ : ∃ z, z = (if s18 = (0 : Int32) then (0 : Int32) else (1 : Int32)) := ⟨_, rfl⟩
  rw [← z165_eq]
  refine Goes.to (T' := T19) (mkF m 168 #[.val (.int ops), .val (.ref b1), .val (.ref b3), .val (.ref b6), .val (.int s18), .val (.int (1 : Int32))] []) (fun t k => XS.icmpNo X19.here hx rfl (hb hby at_165) rfl (teq (own_zeq z165_eq : (bit (¬ s18 = 0)) = z165)).2 k) ?_
  refine Goes.to (T' := T19) (mkF m 169 #[.val (.int ops), .val (.ref b1), .val (.ref b3), .val (.ref b6), .val (.int s18), .val (.int (1 : Int32))] [(.int (1 : Int32))]) (fun t k => XS.iconst X19.here hx rfl (hb hby at_168) k) ?_
  refine Goes.to (T' := T19) (mkF m 173 #[.val (.int ops), .val (.ref b1), .val (.ref b3), .val (.ref b6), .val (.int s18), .val (.int (1 : Int32))] [(.int (1 : Int32))]) (fun t k => XS.goto X19.here hx rfl (pc0 := 169) (pc' := 173) rfl (hb hby at_169) (by decide) (by decide) k) ?_
  refine Goes.to (T' := T19) (mkF m 175 #[.val (.int ops), .val (.ref b1), .val (.ref b3), .val (.ref b6), .val (.int s18), .val (.int (1 : Int32))] []) (fun t k => XS.istore X19.here hx rfl (hb hby at_173) rfl (l' := #[.val (.int ops), .val (.ref b1), .val (.ref b3), .val (.ref b6), .val (.int s18), .val (.int (1 : Int32))]) rfl k) ?_
  refine Goes.to (T' := T19) (mkF m 177 #[.val (.int ops), .val (.ref b1), .val (.ref b3), .val (.ref b6), .val (.int s18), .val (.int (1 : Int32))] [(.int (1 : Int32))]) (fun t k => XS.iload X19.here hx rfl (hb hby at_175) rfl k) ?_
  refine Goes.retNW X19 hx Bd.notSynchronized hS0 (by rw [hs19]; exact hk0) (t := .boolean) Bd.returns (by simp) (hb hby at_177) (by decide) (by decide) ?_
  rw [hs19]
  exact ⟨rfl, N19'⟩
set_option maxRecDepth 65536 in
set_option maxHeartbeats 40000000 in
theorem comes_1 {Post : Tables → Env → Array Value → State → Outcome → State → Prop} (hpost : ∀ tb e args s v u, (limb_1_1.after args s (.returned v) u = true ∧ limb_1_2.after args s (.returned v) u = true ∧ True) → ReturnedEndW s (.returned v) u (Jvm.fieldLocs frame_1_writes args s ++ Jvm.arrayLocs frame_1_arrays args s ++ Jvm.staticLocs frame_1_statics s) 24 13184 → Post tb e args s (.returned v) u) :
    ArmFor flags0 classFile x code maxLocals ret World_1 tables_1 room_1 Calls_1 rest_1 Pre_1 Post := by
  intro l hfl _ _ p e ha hc hk s m args below hf hA hF happ hP
  obtain ⟨hcalls, hrest, hpre⟩ := hP
  obtain ⟨-, -, -, hnamed, -, -, -, hat⟩ := (Spec.applies_iff hf).mp happ
  obtain ⟨hg, hn⟩ := and_e (Cond.before_iff.mp (show (Jvm.Cond.and given_1 narrow_1).before args s = true from hpre))
  obtain ⟨gg0, gr0⟩ := and_e hg
  have gg1 := gr0
  obtain ⟨w0, rfl⟩ : ∃ w0 : Value, args = #[w0] := by
    have hs : args.size = 1 := by simpa [Cond.value, given_1] using gg0
    obtain ⟨L⟩ := args
    match L, hs with
    | [w0], _ => exact ⟨w0, rfl⟩
  have hw := fun d (hd : d ∈ tables_1) => atoms_spec (ws := Jvm.Cond.code x code maxLocals ret :: tables_1) hat d (List.mem_cons_of_mem _ hd)
  have hfit : Fit s := fun {y c} hc i hi => by
    obtain ⟨ha, rfl⟩ := Array.getElem?_eq_some_iff.mp hc
    have q := List.all_eq_true.mp ((Array.all_eq_true_iff_forall_mem.mp hF) _ (Array.getElem_mem ha)) i (List.mem_range.mpr hi)
    simpa [Array.getElem?_eq_getElem hi] using q
  obtain ⟨hsets, hown0⟩ := atoms_of _ (rest_1_c_eq ▸ (show rest_1_c.before _ s = true from hrest))
  have hr0 := Cond.before_iff.mp hown0
  obtain ⟨a_SUPPRESSED_SENTINEL, ev_SUPPRESSED_SENTINEL⟩ := exa_v (Cond.before_iff.mp (hsets _ (List.mem_of_getElem? (i := 13) rfl)))
  have S_SUPPRESSED_SENTINEL : Sta s s.heap "java/lang/Throwable" "SUPPRESSED_SENTINEL" "Ljava/util/List;" (.ref a_SUPPRESSED_SENTINEL) := Sta.start ev_SUPPRESSED_SENTINEL (Or.inl (hsets _ (List.mem_of_getElem? (i := 11) rfl)))
  have E_SUPPRESSED_SENTINEL : Exa s s.heap a_SUPPRESSED_SENTINEL "java/util/Collections$EmptyList" := Exa.start ev_SUPPRESSED_SENTINEL (Cond.before_iff.mp (hsets _ (List.mem_of_getElem? (i := 13) rfl)))
  obtain ⟨i0, ei0⟩ := is_v gg1
  obtain rfl : w0 = (.int i0) := Option.some.inj ei0
  obtain ⟨hc1, hc2, -⟩ := hcalls
  have hst : l.stackTraces = true := by unfold Launch.stackTraces; rw [hfl]; decide
  obtain ⟨us, ev_us, hus⟩ := isR_v (Cond.before_iff.mp (hsets _ (List.mem_of_getElem? (i := 7) rfl)))
  have S_US : Sta s s.heap "java/lang/Throwable" "UNASSIGNED_STACK" "[Ljava/lang/StackTraceElement;" us := Sta.start ev_us (Or.inl (hsets _ (List.mem_of_getElem? (i := 6) rfl)))
  obtain ⟨ss, ev_ss, hss⟩ := isR_v (Cond.before_iff.mp (hsets _ (List.mem_of_getElem? (i := 12) rfl)))
  have S_SS : Sta s s.heap "java/lang/Throwable" "SUPPRESSED_SENTINEL" "Ljava/util/List;" ss := Sta.start ev_ss (Or.inl (hsets _ (List.mem_of_getElem? (i := 11) rfl)))
  obtain ⟨n, o, h1, h2, h3, _, L, rfl, ⟨rfl, N⟩, hq⟩ := rm_law l s _ hw tables_1 i0 us ss s.heap s.heap.size (Old.start s) S_US hus S_SS hss hst p e ha hc hk s m _ below hf ((Spec.applies_iff_loose hf).mp happ).1 ⟨rfl, State.Warmed39.refl s, rfl⟩ ⟨MethodsKnown_of_tablesKnown hc2, FramesKnown_of_framesKnown hc1 hf⟩
  refine ⟨n, _, h1, h2, h3, hpost _ _ _ _ _ _ ⟨Cond.after_iff.mpr rfl, Cond.after_iff.mpr (eq_i res_at (Term.int_eval (1)) rfl), trivial⟩ ⟨hq.1, hq.2.1, hq.2.2.1, (hq.2.2.2.sift fun y hy => Or.inr (N y hy)).mono (by decide) (by decide)⟩⟩
theorem main_1_1 : Claimed_1_1 := comes_1 fun _ _ _ _ _ _ h hF => ⟨h.1, hF⟩
theorem main_1_2 : Claimed_1_2 := comes_1 fun _ _ _ _ _ _ h hF => ⟨h.2.1, hF⟩

end Jvm.Pilot.@@N@@
namespace Jvm.Pilot.@@N@@
open Jvm Jvm.ClassFile Sem Op Lib Jvm.Free Jvm.Stand Jvm.Pilot.@@N@@.Jvm.D
/-! MADE BY PROGRAM (witnessworld.py) out of the Statement's table words and the real class files: 31 classes; the members and pool entries that the words name. The judged class is class 1, her method 1. -/
namespace start1
open Jvm.ClassFile
def u (s : String) : CpInfo := .utf8 (stringToUtf16 s)
/-- a pool by its gaps: so many unusable entries, then the entry; so many at the end -/
def gap : Nat → List CpInfo → List CpInfo
  | 0, r => r
  | n + 1, r => .unusable :: gap n r
def poolList (es : List (Nat × CpInfo)) (last : Nat) : List CpInfo := es.foldr (fun e r => gap e.1 (e.2 :: r)) (gap last [])
def pool (es : List (Nat × CpInfo)) (last : Nat) : Array CpInfo := ⟨poolList es last⟩
def fileOf (pool : Array CpInfo) (this : Nat) (attrs : Array Attribute := #[]) (ms : Array MethodInfo := #[]) (fl : Nat := 33) (sup : Nat := 0) (ifs : Array Nat := #[]) (fds : Array FieldInfo := #[]) : ClassFile where
  minorVersion := 0
  majorVersion := 65
  constantPool := pool
  accessFlags := fl
  thisClass := this
  superClass := sup
  interfaces := ifs
  fields := fds
  methods := ms
  attributes := attrs
def plain (name : String) (sup : Option ClassId) : Class where
  name := name
  kind := .ordinary
  loader := none
  accessFlags := 33
  super := sup
  interfaces := #[]
  cf := none
  fields := #[]
  methods := #[]
  instanceTypes := #[]
  staticTypes := #[]
  resolved := #[]
  callSites := []
  init := .initialized
  statics := none
  mirror := none

def pool0 : Array CpInfo := pool [(5, u "<init>"), (0, u "()V"), (1, .class_ 10), (1, u "java/lang/Object")] 113

def k0c0 : Code := { maxStack := 0, maxLocals := 1, code := object_method_1_code, exceptionTable := #[], attributes := #[] }
def k0m0 : Method := { name := "<init>", desc := "()V", sig := { parameters := [], returnType := none }, accessFlags := 1, code := some k0c0 }
/-- java/lang/Object -/
def k0 : Class := { plain "java/lang/Object" none with
  accessFlags := 33
  interfaces := #[]
  cf := some (fileOf pool0 8 #[] #[{ accessFlags := 1, nameIndex := 5, descriptorIndex := 6, attributes := #[] }] 33 0 #[] #[])
  fields := #[]
  methods := #[k0m0]
  instanceTypes := #[]
  staticTypes := #[]
  resolved := Array.replicate 124 none
  statics := none }

def pool1 : Array CpInfo := pool [(2, .class_ 4), (0, .nameAndType 5 6), (0, u "java/lang/Object"), (0, u "<init>"), (0, u "()V"), (0, .class_ 8), (0, u "com/example/lachesis/lachesis/engine/RunEnd"), (0, .methodref 7 3), (0, .class_ 11), (0, u "com/example/lachesis/lachesis/engine/ClientProcessException"), (0, .string 13), (0, u "boom"), (0, .methodref 10 15), (0, .nameAndType 5 16), (0, u "(Ljava/lang/String;)V"), (0, .string 18), (0, u "bang"), (0, .methodref 7 20), (0, .nameAndType 21 22), (0, u "ended"), (0, u "()Z"), (0, .methodref 24 25), (0, .class_ 26), (0, .nameAndType 27 28), (0, u "com/example/lachesis/lachesis/engine/RunEndEndedPinLaw"), (0, u "step"), (0, u "(Lcom/example/lachesis/lachesis/engine/RunEnd;Lcom/example/lachesis/lachesis/engine/ClientProcessException;Lcom/example/lachesis/lachesis/engine/ClientProcessException;II)I"), (0, .methodref 7 30), (0, .nameAndType 31 32), (0, u "fail"), (0, u "(Ljava/lang/Throwable;)V"), (0, .methodref 7 34), (0, .nameAndType 35 6), (0, u "close"), (2, u "law"), (0, u "(I)Z")] 3

def k1m0 : Method := { name := "<init>", desc := "()V", sig := { parameters := [], returnType := none }, accessFlags := 1, code := none }
def k1c1 : Code := { maxStack := 5, maxLocals := 6, code := code, exceptionTable := #[], attributes := #[] }
def k1m1 : Method := { name := "law", desc := "(I)Z", sig := { parameters := [.int], returnType := some .boolean }, accessFlags := 9, code := some k1c1 }
def k1c2 : Code := { maxStack := 2, maxLocals := 5, code := method_3_code, exceptionTable := #[], attributes := #[] }
def k1m2 : Method := { name := "step", desc := "(Lcom/example/lachesis/lachesis/engine/RunEnd;Lcom/example/lachesis/lachesis/engine/ClientProcessException;Lcom/example/lachesis/lachesis/engine/ClientProcessException;II)I", sig := { parameters := [(.object "com/example/lachesis/lachesis/engine/RunEnd"), (.object "com/example/lachesis/lachesis/engine/ClientProcessException"), (.object "com/example/lachesis/lachesis/engine/ClientProcessException"), .int, .int], returnType := some .int }, accessFlags := 10, code := some k1c2 }
/-- com/example/lachesis/lachesis/engine/RunEndEndedPinLaw -/
def k1 : Class := { plain "com/example/lachesis/lachesis/engine/RunEndEndedPinLaw" (some 0) with
  accessFlags := 49
  interfaces := #[]
  cf := some (fileOf pool1 24 #[] #[{ accessFlags := 1, nameIndex := 5, descriptorIndex := 6, attributes := #[] }, { accessFlags := 9, nameIndex := 38, descriptorIndex := 39, attributes := #[] }, { accessFlags := 10, nameIndex := 27, descriptorIndex := 28, attributes := #[] }] 49 2 #[] #[])
  fields := #[]
  methods := #[k1m0, k1m1, k1m2]
  instanceTypes := #[]
  staticTypes := #[]
  resolved := Array.replicate 43 none
  statics := none }

def pool2 : Array CpInfo := pool [(1, .methodref 2 3), (0, .class_ 4), (0, .nameAndType 5 6), (0, u "java/lang/Object"), (0, u "<init>"), (0, u "()V"), (0, .fieldref 8 9), (0, .class_ 10), (0, .nameAndType 11 12), (0, u "com/example/lachesis/lachesis/engine/RunEnd"), (0, u "failure"), (0, u "Ljava/lang/Throwable;"), (0, .fieldref 8 14), (0, .nameAndType 15 16), (0, u "closed"), (0, u "Z"), (38, u "fail"), (0, u "(Ljava/lang/Throwable;)V"), (0, u "close"), (0, u "ended"), (0, u "()Z")] 21

def k2c0 : Code := { maxStack := 1, maxLocals := 1, code := prog_25_method_1_code, exceptionTable := #[], attributes := #[] }
def k2m0 : Method := { name := "<init>", desc := "()V", sig := { parameters := [], returnType := none }, accessFlags := 0, code := some k2c0 }
def k2c1 : Code := { maxStack := 2, maxLocals := 2, code := prog_25_method_2_code, exceptionTable := #[], attributes := #[] }
def k2m1 : Method := { name := "fail", desc := "(Ljava/lang/Throwable;)V", sig := { parameters := [(.object "java/lang/Throwable")], returnType := none }, accessFlags := 0, code := some k2c1 }
def k2c2 : Code := { maxStack := 2, maxLocals := 1, code := prog_25_method_3_code, exceptionTable := #[], attributes := #[] }
def k2m2 : Method := { name := "close", desc := "()V", sig := { parameters := [], returnType := none }, accessFlags := 0, code := some k2c2 }
def k2c3 : Code := { maxStack := 1, maxLocals := 1, code := prog_25_method_4_code, exceptionTable := #[], attributes := #[] }
def k2m3 : Method := { name := "ended", desc := "()Z", sig := { parameters := [], returnType := some .boolean }, accessFlags := 0, code := some k2c3 }
/-- com/example/lachesis/lachesis/engine/RunEnd -/
def k2 : Class := { plain "com/example/lachesis/lachesis/engine/RunEnd" (some 0) with
  accessFlags := 48
  interfaces := #[]
  cf := some (fileOf pool2 8 #[] #[{ accessFlags := 0, nameIndex := 5, descriptorIndex := 6, attributes := #[] }, { accessFlags := 0, nameIndex := 55, descriptorIndex := 56, attributes := #[] }, { accessFlags := 0, nameIndex := 57, descriptorIndex := 6, attributes := #[] }, { accessFlags := 0, nameIndex := 58, descriptorIndex := 59, attributes := #[] }] 48 2 #[] #[{ accessFlags := 2, nameIndex := 11, descriptorIndex := 12, attributes := #[] }, { accessFlags := 2, nameIndex := 15, descriptorIndex := 16, attributes := #[] }])
  fields := #[{ name := "failure", type := (.object "java/lang/Throwable"), accessFlags := 2, slot := 0, constantValue := 0 }, { name := "closed", type := .boolean, accessFlags := 2, slot := 1, constantValue := 0 }]
  methods := #[k2m0, k2m1, k2m2, k2m3]
  instanceTypes := #[(.object "java/lang/Throwable"), .boolean]
  staticTypes := #[]
  resolved := Array.replicate 81 none
  statics := none }

def pool3 : Array CpInfo := pool [(1, .class_ 2), (0, u "java/io/Serializable"), (0, .class_ 4), (0, u "java/lang/Object")] 2

/-- java/io/Serializable -/
def k3 : Class := { plain "java/io/Serializable" (some 0) with
  accessFlags := 1537
  interfaces := #[]
  cf := some (fileOf pool3 1 #[] #[] 1537 3 #[] #[])
  fields := #[]
  methods := #[]
  instanceTypes := #[]
  staticTypes := #[]
  resolved := Array.replicate 7 none
  statics := none }

def pool4 : Array CpInfo := pool [(1, .methodref 2 3), (0, .class_ 4), (0, .nameAndType 5 6), (0, u "java/lang/Object"), (0, u "<init>"), (0, u "()V"), (0, .fieldref 8 9), (0, .class_ 10), (0, .nameAndType 11 12), (0, u "java/lang/Throwable"), (0, u "cause"), (0, u "Ljava/lang/Throwable;"), (0, .fieldref 8 14), (0, .nameAndType 15 16), (0, u "UNASSIGNED_STACK"), (0, u "[Ljava/lang/StackTraceElement;"), (0, .fieldref 8 18), (0, .nameAndType 19 16), (0, u "stackTrace"), (0, .fieldref 8 21), (0, .nameAndType 22 23), (0, u "SUPPRESSED_SENTINEL"), (0, u "Ljava/util/List;"), (0, .fieldref 8 25), (0, .nameAndType 26 23), (0, u "suppressedExceptions"), (0, .methodref 8 28), (0, .nameAndType 29 30), (0, u "fillInStackTrace"), (0, u "()Ljava/lang/Throwable;"), (0, .fieldref 8 32), (0, .nameAndType 33 34), (0, u "detailMessage"), (0, u "Ljava/lang/String;"), (58, .class_ 94), (0, u "java/lang/Throwable$WrappedPrintStream"), (6, .class_ 103), (1, u "java/lang/Throwable$PrintStreamOrWriter"), (61, u "$assertionsDisabled"), (0, u "Z"), (26, .class_ 194), (0, u "java/lang/Throwable$WrappedPrintWriter"), (3, .fieldref 8 199), (0, .nameAndType 200 201), (0, u "backtrace"), (0, u "Ljava/lang/Object;"), (0, .methodref 8 203), (0, .nameAndType 29 204), (0, u "(I)Ljava/lang/Throwable;"), (6, u "depth"), (0, u "I"), (10, u "(Ljava/lang/String;)V"), (45, .class_ 271), (1, u "java/lang/Throwable$SentinelHolder"), (32, u "EMPTY_THROWABLE_ARRAY"), (0, u "[Ljava/lang/Throwable;"), (12, .class_ 319), (0, u "java/io/Serializable"), (0, u "serialVersionUID"), (0, u "J"), (5, u "NULL_CAUSE_MESSAGE"), (0, u "SELF_SUPPRESSION_MESSAGE"), (0, u "CAUSE_CAPTION"), (0, u "SUPPRESSED_CAPTION")] 73

def k4c0 : Code := { maxStack := 2, maxLocals := 1, code := jdk_78_method_1_code, exceptionTable := #[], attributes := #[] }
def k4m0 : Method := { name := "<init>", desc := "()V", sig := { parameters := [], returnType := none }, accessFlags := 1, code := some k4c0 }
def k4c1 : Code := { maxStack := 2, maxLocals := 2, code := jdk_78_method_2_code, exceptionTable := #[], attributes := #[] }
def k4m1 : Method := { name := "<init>", desc := "(Ljava/lang/String;)V", sig := { parameters := [(.object "java/lang/String")], returnType := none }, accessFlags := 1, code := some k4c1 }
def k4c2 : Code := { maxStack := 2, maxLocals := 1, code := jdk_78_method_18_code, exceptionTable := #[], attributes := #[] }
def k4m2 : Method := { name := "fillInStackTrace", desc := "()Ljava/lang/Throwable;", sig := { parameters := [], returnType := some (.object "java/lang/Throwable") }, accessFlags := 33, code := some k4c2 }
def k4m3 : Method := { name := "fillInStackTrace", desc := "(I)Ljava/lang/Throwable;", sig := { parameters := [.int], returnType := some (.object "java/lang/Throwable") }, accessFlags := 258, code := none }
/-- java/lang/Throwable -/
def k4 : Class := { plain "java/lang/Throwable" (some 0) with
  accessFlags := 33
  interfaces := #[3]
  cf := some (fileOf pool4 8 #[.nestMembers #[193, 93, 101, 269]] #[{ accessFlags := 1, nameIndex := 5, descriptorIndex := 6, attributes := #[] }, { accessFlags := 1, nameIndex := 5, descriptorIndex := 223, attributes := #[] }, { accessFlags := 33, nameIndex := 29, descriptorIndex := 30, attributes := #[] }, { accessFlags := 258, nameIndex := 29, descriptorIndex := 204, attributes := #[] }] 33 2 #[318] #[{ accessFlags := 26, nameIndex := 320, descriptorIndex := 321, attributes := #[] }, { accessFlags := 130, nameIndex := 200, descriptorIndex := 201, attributes := #[] }, { accessFlags := 2, nameIndex := 33, descriptorIndex := 34, attributes := #[] }, { accessFlags := 26, nameIndex := 15, descriptorIndex := 16, attributes := #[] }, { accessFlags := 2, nameIndex := 11, descriptorIndex := 12, attributes := #[] }, { accessFlags := 2, nameIndex := 19, descriptorIndex := 16, attributes := #[] }, { accessFlags := 130, nameIndex := 211, descriptorIndex := 212, attributes := #[] }, { accessFlags := 26, nameIndex := 22, descriptorIndex := 23, attributes := #[] }, { accessFlags := 2, nameIndex := 26, descriptorIndex := 23, attributes := #[] }, { accessFlags := 26, nameIndex := 327, descriptorIndex := 34, attributes := #[] }, { accessFlags := 26, nameIndex := 328, descriptorIndex := 34, attributes := #[] }, { accessFlags := 26, nameIndex := 329, descriptorIndex := 34, attributes := #[] }, { accessFlags := 26, nameIndex := 330, descriptorIndex := 34, attributes := #[] }, { accessFlags := 26, nameIndex := 304, descriptorIndex := 305, attributes := #[] }, { accessFlags := 4120, nameIndex := 165, descriptorIndex := 166, attributes := #[] }])
  fields := #[{ name := "serialVersionUID", type := .long, accessFlags := 26, slot := 0, constantValue := 0 }, { name := "backtrace", type := (.object "java/lang/Object"), accessFlags := 130, slot := 0, constantValue := 0 }, { name := "detailMessage", type := (.object "java/lang/String"), accessFlags := 2, slot := 1, constantValue := 0 }, { name := "UNASSIGNED_STACK", type := (.array (.object "java/lang/StackTraceElement")), accessFlags := 26, slot := 1, constantValue := 0 }, { name := "cause", type := (.object "java/lang/Throwable"), accessFlags := 2, slot := 2, constantValue := 0 }, { name := "stackTrace", type := (.array (.object "java/lang/StackTraceElement")), accessFlags := 2, slot := 3, constantValue := 0 }, { name := "depth", type := .int, accessFlags := 130, slot := 4, constantValue := 0 }, { name := "SUPPRESSED_SENTINEL", type := (.object "java/util/List"), accessFlags := 26, slot := 2, constantValue := 0 }, { name := "suppressedExceptions", type := (.object "java/util/List"), accessFlags := 2, slot := 5, constantValue := 0 }, { name := "NULL_CAUSE_MESSAGE", type := (.object "java/lang/String"), accessFlags := 26, slot := 3, constantValue := 0 }, { name := "SELF_SUPPRESSION_MESSAGE", type := (.object "java/lang/String"), accessFlags := 26, slot := 4, constantValue := 0 }, { name := "CAUSE_CAPTION", type := (.object "java/lang/String"), accessFlags := 26, slot := 5, constantValue := 0 }, { name := "SUPPRESSED_CAPTION", type := (.object "java/lang/String"), accessFlags := 26, slot := 6, constantValue := 0 }, { name := "EMPTY_THROWABLE_ARRAY", type := (.array (.object "java/lang/Throwable")), accessFlags := 26, slot := 7, constantValue := 0 }, { name := "$assertionsDisabled", type := .boolean, accessFlags := 4120, slot := 8, constantValue := 0 }]
  methods := #[k4m0, k4m1, k4m2, k4m3]
  instanceTypes := #[(.object "java/lang/Object"), (.object "java/lang/String"), (.object "java/lang/Throwable"), (.array (.object "java/lang/StackTraceElement")), .int, (.object "java/util/List")]
  staticTypes := #[.long, (.array (.object "java/lang/StackTraceElement")), (.object "java/util/List"), (.object "java/lang/String"), (.object "java/lang/String"), (.object "java/lang/String"), (.object "java/lang/String"), (.array (.object "java/lang/Throwable")), .boolean]
  resolved := Array.replicate 404 none
  statics := some 0 }

def pool5 : Array CpInfo := pool [(2, .class_ 4), (1, u "java/lang/Throwable"), (0, u "<init>"), (0, u "()V"), (0, .methodref 2 8), (0, .nameAndType 5 9), (0, u "(Ljava/lang/String;)V"), (9, .class_ 20), (0, u "java/lang/Exception"), (0, u "serialVersionUID"), (0, u "J")] 17

def k5m0 : Method := { name := "<init>", desc := "()V", sig := { parameters := [], returnType := none }, accessFlags := 1, code := none }
def k5c1 : Code := { maxStack := 2, maxLocals := 2, code := jdk_59_method_2_code, exceptionTable := #[], attributes := #[] }
def k5m1 : Method := { name := "<init>", desc := "(Ljava/lang/String;)V", sig := { parameters := [(.object "java/lang/String")], returnType := none }, accessFlags := 1, code := some k5c1 }
/-- java/lang/Exception -/
def k5 : Class := { plain "java/lang/Exception" (some 4) with
  accessFlags := 33
  interfaces := #[]
  cf := some (fileOf pool5 19 #[] #[{ accessFlags := 1, nameIndex := 5, descriptorIndex := 6, attributes := #[] }, { accessFlags := 1, nameIndex := 5, descriptorIndex := 9, attributes := #[] }] 33 2 #[] #[{ accessFlags := 24, nameIndex := 21, descriptorIndex := 22, attributes := #[] }])
  fields := #[{ name := "serialVersionUID", type := .long, accessFlags := 24, slot := 0, constantValue := 0 }]
  methods := #[k5m0, k5m1]
  instanceTypes := #[(.object "java/lang/Object"), (.object "java/lang/String"), (.object "java/lang/Throwable"), (.array (.object "java/lang/StackTraceElement")), .int, (.object "java/util/List")]
  staticTypes := #[.long]
  resolved := Array.replicate 40 none
  statics := none }

def pool6 : Array CpInfo := pool [(2, .class_ 4), (1, u "java/lang/Exception"), (0, u "<init>"), (0, u "()V"), (0, .methodref 2 8), (0, .nameAndType 5 9), (0, u "(Ljava/lang/String;)V"), (9, .class_ 20), (0, u "java/lang/RuntimeException"), (0, u "serialVersionUID"), (0, u "J")] 17

def k6m0 : Method := { name := "<init>", desc := "()V", sig := { parameters := [], returnType := none }, accessFlags := 1, code := none }
def k6c1 : Code := { maxStack := 2, maxLocals := 2, code := jdk_58_method_2_code, exceptionTable := #[], attributes := #[] }
def k6m1 : Method := { name := "<init>", desc := "(Ljava/lang/String;)V", sig := { parameters := [(.object "java/lang/String")], returnType := none }, accessFlags := 1, code := some k6c1 }
/-- java/lang/RuntimeException -/
def k6 : Class := { plain "java/lang/RuntimeException" (some 5) with
  accessFlags := 33
  interfaces := #[]
  cf := some (fileOf pool6 19 #[] #[{ accessFlags := 1, nameIndex := 5, descriptorIndex := 6, attributes := #[] }, { accessFlags := 1, nameIndex := 5, descriptorIndex := 9, attributes := #[] }] 33 2 #[] #[{ accessFlags := 24, nameIndex := 21, descriptorIndex := 22, attributes := #[] }])
  fields := #[{ name := "serialVersionUID", type := .long, accessFlags := 24, slot := 0, constantValue := 0 }]
  methods := #[k6m0, k6m1]
  instanceTypes := #[(.object "java/lang/Object"), (.object "java/lang/String"), (.object "java/lang/Throwable"), (.array (.object "java/lang/StackTraceElement")), .int, (.object "java/util/List")]
  staticTypes := #[.long]
  resolved := Array.replicate 40 none
  statics := none }

def pool7 : Array CpInfo := pool [(1, .methodref 2 3), (0, .class_ 4), (0, .nameAndType 5 6), (0, u "java/lang/RuntimeException"), (0, u "<init>"), (0, u "(Ljava/lang/String;)V"), (3, .class_ 11), (0, u "com/example/lachesis/lachesis/engine/ClientProcessException"), (0, u "serialVersionUID"), (0, u "J")] 7

def k7c0 : Code := { maxStack := 2, maxLocals := 2, code := prog_13_method_1_code, exceptionTable := #[], attributes := #[] }
def k7m0 : Method := { name := "<init>", desc := "(Ljava/lang/String;)V", sig := { parameters := [(.object "java/lang/String")], returnType := none }, accessFlags := 1, code := some k7c0 }
/-- com/example/lachesis/lachesis/engine/ClientProcessException -/
def k7 : Class := { plain "com/example/lachesis/lachesis/engine/ClientProcessException" (some 6) with
  accessFlags := 49
  interfaces := #[]
  cf := some (fileOf pool7 10 #[] #[{ accessFlags := 1, nameIndex := 5, descriptorIndex := 6, attributes := #[] }] 49 2 #[] #[{ accessFlags := 26, nameIndex := 12, descriptorIndex := 13, attributes := #[] }])
  fields := #[{ name := "serialVersionUID", type := .long, accessFlags := 26, slot := 0, constantValue := 0 }]
  methods := #[k7m0]
  instanceTypes := #[(.object "java/lang/Object"), (.object "java/lang/String"), (.object "java/lang/Throwable"), (.array (.object "java/lang/StackTraceElement")), .int, (.object "java/util/List")]
  staticTypes := #[.long]
  resolved := Array.replicate 21 none
  statics := none }

def pool8 : Array CpInfo := pool [(1, .class_ 2), (0, u "java/lang/Comparable"), (0, .class_ 4), (0, u "java/lang/Object")] 7

/-- java/lang/Comparable -/
def k8 : Class := { plain "java/lang/Comparable" (some 0) with
  accessFlags := 1537
  interfaces := #[]
  cf := some (fileOf pool8 1 #[] #[] 1537 3 #[] #[])
  fields := #[]
  methods := #[]
  instanceTypes := #[]
  staticTypes := #[]
  resolved := Array.replicate 12 none
  statics := none }

def pool9 : Array CpInfo := pool [(2, .class_ 4), (1, u "java/lang/CharSequence"), (42, .class_ 48), (0, u "java/lang/CharSequence$1CodePointIterator"), (10, .class_ 60), (0, u "java/lang/CharSequence$1CharIterator"), (5, .class_ 67), (0, u "java/lang/Object")] 63

/-- java/lang/CharSequence -/
def k9 : Class := { plain "java/lang/CharSequence" (some 0) with
  accessFlags := 1537
  interfaces := #[]
  cf := some (fileOf pool9 2 #[.nestMembers #[47, 59]] #[] 1537 66 #[] #[])
  fields := #[]
  methods := #[]
  instanceTypes := #[]
  staticTypes := #[]
  resolved := Array.replicate 131 none
  statics := none }

def pool10 : Array CpInfo := pool [(1, .class_ 2), (0, u "java/lang/constant/Constable"), (0, .class_ 4), (0, u "java/lang/Object")] 6

/-- java/lang/constant/Constable -/
def k10 : Class := { plain "java/lang/constant/Constable" (some 0) with
  accessFlags := 1537
  interfaces := #[]
  cf := some (fileOf pool10 1 #[] #[] 1537 3 #[] #[])
  fields := #[]
  methods := #[]
  instanceTypes := #[]
  staticTypes := #[]
  resolved := Array.replicate 11 none
  statics := none }

def pool11 : Array CpInfo := pool [(1, .class_ 2), (0, u "java/lang/constant/ConstantDesc"), (0, .class_ 4), (0, u "java/lang/Object")] 32

/-- java/lang/constant/ConstantDesc -/
def k11 : Class := { plain "java/lang/constant/ConstantDesc" (some 0) with
  accessFlags := 1537
  interfaces := #[]
  cf := some (fileOf pool11 1 #[] #[] 1537 3 #[] #[])
  fields := #[]
  methods := #[]
  instanceTypes := #[]
  staticTypes := #[]
  resolved := Array.replicate 37 none
  statics := none }

def pool12 : Array CpInfo := pool [(2, .class_ 4), (1, u "java/lang/Object"), (0, u "<init>"), (0, u "()V"), (3, .class_ 12), (1, u "java/lang/String"), (0, u "value"), (0, u "[B"), (2, u "coder"), (0, u "B"), (2, u "hash"), (0, u "I"), (2, u "hashIsZero"), (0, u "Z"), (13, u "COMPACT_STRINGS"), (534, .class_ 576), (0, u "java/lang/CharSequence"), (22, u "CASE_INSENSITIVE_ORDER"), (0, u "Ljava/util/Comparator;"), (500, u "serialPersistentFields"), (0, u "[Ljava/io/ObjectStreamField;"), (0, .class_ 1104), (0, u "java/lang/String$CaseInsensitiveComparator"), (1, .class_ 1107), (0, u "java/io/Serializable"), (0, .class_ 1109), (0, u "java/lang/Comparable"), (0, .class_ 1111), (0, u "java/lang/constant/Constable"), (0, .class_ 1113), (0, u "java/lang/constant/ConstantDesc"), (2, u "serialVersionUID"), (0, u "J"), (3, u "REPL"), (0, u "C"), (2, u "LATIN1"), (1, u "UTF16")] 323

def k12m0 : Method := { name := "<init>", desc := "()V", sig := { parameters := [], returnType := none }, accessFlags := 1, code := none }
/-- java/lang/String -/
def k12 : Class := { plain "java/lang/String" (some 0) with
  accessFlags := 49
  interfaces := #[3, 8, 9, 10, 11]
  cf := some (fileOf pool12 10 #[.nestMembers #[1103]] #[{ accessFlags := 1, nameIndex := 5, descriptorIndex := 6, attributes := #[] }] 49 2 #[1106, 1108, 575, 1110, 1112] #[{ accessFlags := 18, nameIndex := 13, descriptorIndex := 14, attributes := #[] }, { accessFlags := 18, nameIndex := 17, descriptorIndex := 18, attributes := #[] }, { accessFlags := 2, nameIndex := 21, descriptorIndex := 22, attributes := #[] }, { accessFlags := 2, nameIndex := 25, descriptorIndex := 26, attributes := #[] }, { accessFlags := 26, nameIndex := 1116, descriptorIndex := 1117, attributes := #[] }, { accessFlags := 24, nameIndex := 40, descriptorIndex := 26, attributes := #[] }, { accessFlags := 26, nameIndex := 1101, descriptorIndex := 1102, attributes := #[] }, { accessFlags := 26, nameIndex := 1121, descriptorIndex := 1122, attributes := #[] }, { accessFlags := 25, nameIndex := 599, descriptorIndex := 600, attributes := #[] }, { accessFlags := 24, nameIndex := 1125, descriptorIndex := 18, attributes := #[] }, { accessFlags := 24, nameIndex := 1127, descriptorIndex := 18, attributes := #[] }])
  fields := #[{ name := "value", type := (.array .byte), accessFlags := 18, slot := 0, constantValue := 0 }, { name := "coder", type := .byte, accessFlags := 18, slot := 1, constantValue := 0 }, { name := "hash", type := .int, accessFlags := 2, slot := 2, constantValue := 0 }, { name := "hashIsZero", type := .boolean, accessFlags := 2, slot := 3, constantValue := 0 }, { name := "serialVersionUID", type := .long, accessFlags := 26, slot := 0, constantValue := 0 }, { name := "COMPACT_STRINGS", type := .boolean, accessFlags := 24, slot := 1, constantValue := 0 }, { name := "serialPersistentFields", type := (.array (.object "java/io/ObjectStreamField")), accessFlags := 26, slot := 2, constantValue := 0 }, { name := "REPL", type := .char, accessFlags := 26, slot := 3, constantValue := 0 }, { name := "CASE_INSENSITIVE_ORDER", type := (.object "java/util/Comparator"), accessFlags := 25, slot := 4, constantValue := 0 }, { name := "LATIN1", type := .byte, accessFlags := 24, slot := 5, constantValue := 0 }, { name := "UTF16", type := .byte, accessFlags := 24, slot := 6, constantValue := 0 }]
  methods := #[k12m0]
  instanceTypes := #[(.array .byte), .byte, .int, .boolean]
  staticTypes := #[.long, .boolean, (.array (.object "java/io/ObjectStreamField")), .char, (.object "java/util/Comparator"), .byte, .byte]
  resolved := Array.replicate 1451 none
  statics := none }

def pool13 : Array CpInfo := pool [(2, .class_ 4), (1, u "java/lang/Object"), (0, u "<init>"), (0, u "()V"), (12, .class_ 20), (0, u "java/util/Collections"), (63, u "r"), (0, u "Ljava/util/Random;"), (80, .class_ 167), (0, u "java/util/Collections$UnmodifiableCollection"), (6, .class_ 175), (0, u "java/util/Collections$UnmodifiableSequencedCollection"), (6, .class_ 183), (0, u "java/util/Collections$UnmodifiableSet"), (6, .class_ 191), (0, u "java/util/Collections$UnmodifiableSequencedSet"), (6, .class_ 199), (0, u "java/util/Collections$UnmodifiableSortedSet"), (6, .class_ 207), (0, u "java/util/Collections$UnmodifiableNavigableSet"), (4, .class_ 213), (0, u "java/util/Collections$UnmodifiableList"), (1, .class_ 216), (0, u "java/util/Collections$UnmodifiableRandomAccessList"), (6, .class_ 224), (0, u "java/util/Collections$UnmodifiableMap"), (6, .class_ 232), (0, u "java/util/Collections$UnmodifiableSequencedMap"), (4, .class_ 238), (0, u "java/util/Collections$UnmodifiableSortedMap"), (6, .class_ 246), (0, u "java/util/Collections$UnmodifiableNavigableMap"), (3, .class_ 251), (0, u "java/util/Collections$SynchronizedCollection"), (4, .class_ 257), (0, u "java/util/Collections$SynchronizedSet"), (4, .class_ 263), (0, u "java/util/Collections$SynchronizedSortedSet"), (1, .class_ 266), (0, u "java/util/Collections$SynchronizedNavigableSet"), (1, .class_ 269), (0, u "java/util/Collections$SynchronizedRandomAccessList"), (1, .class_ 272), (0, u "java/util/Collections$SynchronizedList"), (5, .class_ 279), (0, u "java/util/Collections$SynchronizedMap"), (1, .class_ 282), (0, u "java/util/Collections$SynchronizedSortedMap"), (1, .class_ 285), (0, u "java/util/Collections$SynchronizedNavigableMap"), (1, .class_ 288), (0, u "java/util/Collections$CheckedCollection"), (11, .class_ 301), (0, u "java/util/Collections$CheckedQueue"), (3, .class_ 306), (0, u "java/util/Collections$CheckedSet"), (3, .class_ 311), (0, u "java/util/Collections$CheckedSortedSet"), (3, .class_ 316), (0, u "java/util/Collections$CheckedNavigableSet"), (3, .class_ 321), (0, u "java/util/Collections$CheckedRandomAccessList"), (3, .class_ 326), (0, u "java/util/Collections$CheckedList"), (1, .class_ 329), (0, u "java/util/Collections$CheckedMap"), (3, .class_ 334), (0, u "java/util/Collections$CheckedSortedMap"), (3, .class_ 339), (0, u "java/util/Collections$CheckedNavigableMap"), (4, .class_ 346), (1, u "java/util/Collections$EmptyIterator"), (3, .class_ 352), (1, u "java/util/Collections$EmptyListIterator"), (2, .class_ 357), (1, u "java/util/Collections$EmptyEnumeration"), (4, u "EMPTY_SET"), (0, u "Ljava/util/Set;"), (6, u "EMPTY_LIST"), (0, u "Ljava/util/List;"), (2, u "EMPTY_MAP"), (0, u "Ljava/util/Map;"), (4, .class_ 381), (0, u "java/util/Collections$SingletonSet"), (2, .class_ 385), (0, u "java/util/Collections$1"), (1, .class_ 388), (0, u "java/util/Collections$2"), (1, .class_ 391), (0, u "java/util/Collections$SingletonList"), (1, .class_ 394), (0, u "java/util/Collections$SingletonMap"), (22, .class_ 418), (0, u "java/util/Collections$CopiesList"), (4, .class_ 425), (1, u "java/util/Collections$ReverseComparator"), (8, .class_ 435), (0, u "java/util/Collections$ReverseComparator2"), (6, .class_ 443), (0, u "java/util/Collections$3"), (25, .class_ 470), (0, u "java/util/Collections$SetFromMap"), (2, .class_ 474), (0, u "java/util/Collections$SequencedSetFromMap"), (3, .class_ 479), (0, u "java/util/Collections$AsLIFOQueue"), (11, .class_ 492), (0, u "java/util/Collections$EmptySet"), (1, .class_ 495), (0, u "java/util/Collections$EmptyList"), (1, .class_ 498), (0, u "java/util/Collections$EmptyMap"), (1, u "BINARYSEARCH_THRESHOLD"), (0, u "I"), (2, u "REVERSE_THRESHOLD"), (1, u "SHUFFLE_THRESHOLD"), (1, u "FILL_THRESHOLD"), (1, u "ROTATE_THRESHOLD"), (1, u "COPY_THRESHOLD"), (1, u "REPLACEALL_THRESHOLD"), (1, u "INDEXOFSUBLIST_THRESHOLD"), (333, .class_ 851), (0, u "java/util/Collections$CheckedMap$CheckedEntrySet"), (0, .class_ 853), (0, u "java/util/Collections$CheckedMap$CheckedEntrySet$CheckedEntry"), (0, .class_ 855), (0, u "java/util/Collections$CheckedMap$CheckedEntrySet$1"), (0, .class_ 857), (0, u "java/util/Collections$CheckedList$1"), (0, .class_ 859), (0, u "java/util/Collections$CheckedCollection$1"), (0, .class_ 861), (0, u "java/util/Collections$UnmodifiableNavigableMap$EmptyNavigableMap"), (0, .class_ 863), (0, u "java/util/Collections$UnmodifiableMap$UnmodifiableEntrySet"), (0, .class_ 865), (0, u "java/util/Collections$UnmodifiableMap$UnmodifiableEntrySet$UnmodifiableEntry"), (0, .class_ 867), (0, u "java/util/Collections$UnmodifiableMap$UnmodifiableEntrySet$UnmodifiableEntrySetSpliterator"), (0, .class_ 869), (0, u "java/util/Collections$UnmodifiableMap$UnmodifiableEntrySet$1"), (0, .class_ 871), (0, u "java/util/Collections$UnmodifiableList$1"), (0, .class_ 873), (0, u "java/util/Collections$UnmodifiableNavigableSet$EmptyNavigableSet"), (0, .class_ 875), (0, u "java/util/Collections$UnmodifiableCollection$1")] 57

def k13m0 : Method := { name := "<init>", desc := "()V", sig := { parameters := [], returnType := none }, accessFlags := 2, code := none }
/-- java/util/Collections -/
def k13 : Class := { plain "java/util/Collections" (some 0) with
  accessFlags := 33
  interfaces := #[]
  cf := some (fileOf pool13 19 #[.nestMembers #[478, 473, 469, 434, 423, 417, 393, 390, 380, 497, 494, 491, 355, 350, 344, 338, 333, 328, 850, 852, 854, 320, 325, 856, 315, 310, 305, 300, 287, 858, 284, 281, 278, 268, 271, 265, 262, 256, 250, 245, 860, 237, 231, 223, 862, 864, 866, 868, 215, 212, 870, 206, 872, 198, 190, 182, 174, 166, 874, 442, 387, 384]] #[{ accessFlags := 2, nameIndex := 5, descriptorIndex := 6, attributes := #[] }] 33 2 #[] #[{ accessFlags := 26, nameIndex := 500, descriptorIndex := 501, attributes := #[] }, { accessFlags := 26, nameIndex := 504, descriptorIndex := 501, attributes := #[] }, { accessFlags := 26, nameIndex := 506, descriptorIndex := 501, attributes := #[] }, { accessFlags := 26, nameIndex := 508, descriptorIndex := 501, attributes := #[] }, { accessFlags := 26, nameIndex := 510, descriptorIndex := 501, attributes := #[] }, { accessFlags := 26, nameIndex := 512, descriptorIndex := 501, attributes := #[] }, { accessFlags := 26, nameIndex := 514, descriptorIndex := 501, attributes := #[] }, { accessFlags := 26, nameIndex := 516, descriptorIndex := 501, attributes := #[] }, { accessFlags := 10, nameIndex := 84, descriptorIndex := 85, attributes := #[] }, { accessFlags := 25, nameIndex := 362, descriptorIndex := 363, attributes := #[] }, { accessFlags := 25, nameIndex := 370, descriptorIndex := 371, attributes := #[] }, { accessFlags := 25, nameIndex := 374, descriptorIndex := 375, attributes := #[] }])
  fields := #[{ name := "BINARYSEARCH_THRESHOLD", type := .int, accessFlags := 26, slot := 0, constantValue := 0 }, { name := "REVERSE_THRESHOLD", type := .int, accessFlags := 26, slot := 1, constantValue := 0 }, { name := "SHUFFLE_THRESHOLD", type := .int, accessFlags := 26, slot := 2, constantValue := 0 }, { name := "FILL_THRESHOLD", type := .int, accessFlags := 26, slot := 3, constantValue := 0 }, { name := "ROTATE_THRESHOLD", type := .int, accessFlags := 26, slot := 4, constantValue := 0 }, { name := "COPY_THRESHOLD", type := .int, accessFlags := 26, slot := 5, constantValue := 0 }, { name := "REPLACEALL_THRESHOLD", type := .int, accessFlags := 26, slot := 6, constantValue := 0 }, { name := "INDEXOFSUBLIST_THRESHOLD", type := .int, accessFlags := 26, slot := 7, constantValue := 0 }, { name := "r", type := (.object "java/util/Random"), accessFlags := 10, slot := 8, constantValue := 0 }, { name := "EMPTY_SET", type := (.object "java/util/Set"), accessFlags := 25, slot := 9, constantValue := 0 }, { name := "EMPTY_LIST", type := (.object "java/util/List"), accessFlags := 25, slot := 10, constantValue := 0 }, { name := "EMPTY_MAP", type := (.object "java/util/Map"), accessFlags := 25, slot := 11, constantValue := 0 }]
  methods := #[k13m0]
  instanceTypes := #[]
  staticTypes := #[.int, .int, .int, .int, .int, .int, .int, .int, (.object "java/util/Random"), (.object "java/util/Set"), (.object "java/util/List"), (.object "java/util/Map")]
  resolved := Array.replicate 933 none
  statics := some 1 }

def pool14 : Array CpInfo := pool [(8, .class_ 10), (1, u "java/lang/Iterable"), (24, .class_ 36), (0, u "java/lang/Object")] 25

/-- java/lang/Iterable -/
def k14 : Class := { plain "java/lang/Iterable" (some 0) with
  accessFlags := 1537
  interfaces := #[]
  cf := some (fileOf pool14 8 #[] #[] 1537 35 #[] #[])
  fields := #[]
  methods := #[]
  instanceTypes := #[]
  staticTypes := #[]
  resolved := Array.replicate 62 none
  statics := none }

def pool15 : Array CpInfo := pool [(10, .class_ 12), (1, u "java/util/Collection"), (47, .class_ 61), (0, u "java/lang/Object"), (0, .class_ 63), (0, u "java/lang/Iterable")] 51

/-- java/util/Collection -/
def k15 : Class := { plain "java/util/Collection" (some 0) with
  accessFlags := 1537
  interfaces := #[14]
  cf := some (fileOf pool15 10 #[] #[] 1537 60 #[62] #[])
  fields := #[]
  methods := #[]
  instanceTypes := #[]
  staticTypes := #[]
  resolved := Array.replicate 115 none
  statics := none }

def pool16 : Array CpInfo := pool [(2, .class_ 4), (1, u "java/lang/Object"), (0, u "<init>"), (0, u "()V"), (1, .class_ 10), (1, u "java/util/AbstractCollection"), (66, .class_ 78), (0, u "java/util/Collection")] 81

def k16m0 : Method := { name := "<init>", desc := "()V", sig := { parameters := [], returnType := none }, accessFlags := 4, code := none }
/-- java/util/AbstractCollection -/
def k16 : Class := { plain "java/util/AbstractCollection" (some 0) with
  accessFlags := 1057
  interfaces := #[15]
  cf := some (fileOf pool16 8 #[] #[{ accessFlags := 4, nameIndex := 5, descriptorIndex := 6, attributes := #[] }] 1057 2 #[77] #[])
  fields := #[]
  methods := #[k16m0]
  instanceTypes := #[]
  staticTypes := #[]
  resolved := Array.replicate 160 none
  statics := none }

def pool17 : Array CpInfo := pool [(8, .class_ 10), (1, u "java/util/SequencedCollection"), (15, .class_ 27), (0, u "java/lang/Object"), (0, .class_ 29), (0, u "java/util/Collection")] 27

/-- java/util/SequencedCollection -/
def k17 : Class := { plain "java/util/SequencedCollection" (some 0) with
  accessFlags := 1537
  interfaces := #[15]
  cf := some (fileOf pool17 8 #[] #[] 1537 26 #[28] #[])
  fields := #[]
  methods := #[]
  instanceTypes := #[]
  staticTypes := #[]
  resolved := Array.replicate 57 none
  statics := none }

def pool18 : Array CpInfo := pool [(8, .class_ 10), (1, u "java/util/List"), (92, .class_ 104), (0, u "java/lang/Object"), (15, .class_ 121), (0, u "java/util/SequencedCollection")] 129

/-- java/util/List -/
def k18 : Class := { plain "java/util/List" (some 0) with
  accessFlags := 1537
  interfaces := #[17]
  cf := some (fileOf pool18 8 #[] #[] 1537 103 #[120] #[])
  fields := #[]
  methods := #[]
  instanceTypes := #[]
  staticTypes := #[]
  resolved := Array.replicate 251 none
  statics := none }

def pool19 : Array CpInfo := pool [(2, .class_ 4), (1, u "java/util/AbstractCollection"), (0, u "<init>"), (0, u "()V"), (1, .class_ 10), (1, u "java/util/AbstractList"), (0, u "modCount"), (0, u "I"), (64, .class_ 78), (0, u "java/util/AbstractList$Itr"), (3, .class_ 83), (0, u "java/util/AbstractList$ListItr"), (9, .class_ 94), (0, u "java/util/AbstractList$RandomAccessSubList"), (3, .class_ 99), (0, u "java/util/AbstractList$SubList"), (33, .class_ 134), (0, u "java/util/List"), (73, .class_ 209), (0, u "java/util/AbstractList$SubList$1"), (0, .class_ 211), (0, u "java/util/AbstractList$RandomAccessSpliterator")] 6

def k19m0 : Method := { name := "<init>", desc := "()V", sig := { parameters := [], returnType := none }, accessFlags := 4, code := none }
/-- java/util/AbstractList -/
def k19 : Class := { plain "java/util/AbstractList" (some 16) with
  accessFlags := 1057
  interfaces := #[18]
  cf := some (fileOf pool19 8 #[.nestMembers #[93, 98, 208, 210, 82, 77]] #[{ accessFlags := 4, nameIndex := 5, descriptorIndex := 6, attributes := #[] }] 1057 2 #[133] #[{ accessFlags := 132, nameIndex := 11, descriptorIndex := 12, attributes := #[] }])
  fields := #[{ name := "modCount", type := .int, accessFlags := 132, slot := 0, constantValue := 0 }]
  methods := #[k19m0]
  instanceTypes := #[.int]
  staticTypes := #[]
  resolved := Array.replicate 218 none
  statics := none }

def pool20 : Array CpInfo := pool [(1, .class_ 2), (0, u "java/util/RandomAccess"), (0, .class_ 4), (0, u "java/lang/Object")] 2

/-- java/util/RandomAccess -/
def k20 : Class := { plain "java/util/RandomAccess" (some 0) with
  accessFlags := 1537
  interfaces := #[]
  cf := some (fileOf pool20 1 #[] #[] 1537 3 #[] #[])
  fields := #[]
  methods := #[]
  instanceTypes := #[]
  staticTypes := #[]
  resolved := Array.replicate 7 none
  statics := none }

def pool21 : Array CpInfo := pool [(2, .class_ 4), (1, u "java/util/AbstractList"), (0, u "<init>"), (0, u "()V"), (1, .class_ 10), (1, u "java/util/Collections"), (54, .class_ 66), (0, u "java/util/Collections$EmptyList"), (0, .class_ 68), (0, u "java/util/RandomAccess"), (0, .class_ 70), (0, u "java/io/Serializable"), (0, u "serialVersionUID"), (0, u "J")] 77

def k21m0 : Method := { name := "<init>", desc := "()V", sig := { parameters := [], returnType := none }, accessFlags := 2, code := none }
/-- java/util/Collections$EmptyList -/
def k21 : Class := { plain "java/util/Collections$EmptyList" (some 19) with
  accessFlags := 32
  interfaces := #[20, 3]
  cf := some (fileOf pool21 65 #[.nestHost 8] #[{ accessFlags := 2, nameIndex := 5, descriptorIndex := 6, attributes := #[] }] 32 2 #[67, 69] #[{ accessFlags := 26, nameIndex := 71, descriptorIndex := 72, attributes := #[] }])
  fields := #[{ name := "serialVersionUID", type := .long, accessFlags := 26, slot := 0, constantValue := 0 }]
  methods := #[k21m0]
  instanceTypes := #[.int]
  staticTypes := #[.long]
  resolved := Array.replicate 150 none
  statics := none }

def pool22 : Array CpInfo := pool [(2, .class_ 4), (1, u "java/lang/StackTraceElement"), (0, u "<init>"), (2, .class_ 10), (1, u "java/lang/Object"), (0, u "()V"), (2, u "format"), (0, u "B"), (2, u "classLoaderName"), (0, u "Ljava/lang/String;"), (2, u "moduleName"), (2, u "moduleVersion"), (12, u "declaringClass"), (4, u "methodName"), (2, u "fileName"), (2, u "lineNumber"), (0, u "I"), (65, u "declaringClassObject"), (0, u "Ljava/lang/Class;"), (33, .class_ 153), (1, u "java/lang/StackTraceElement$HashedModules"), (17, .class_ 172), (0, u "java/io/Serializable"), (0, u "NATIVE_METHOD"), (1, u "UNKNOWN_SOURCE"), (2, u "BUILTIN_CLASS_LOADER"), (1, u "JDK_NON_UPGRADEABLE_MODULE"), (1, u "serialVersionUID"), (0, u "J")] 51

def k22m0 : Method := { name := "<init>", desc := "()V", sig := { parameters := [], returnType := none }, accessFlags := 2, code := none }
/-- java/lang/StackTraceElement -/
def k22 : Class := { plain "java/lang/StackTraceElement" (some 0) with
  accessFlags := 49
  interfaces := #[3]
  cf := some (fileOf pool22 2 #[.nestMembers #[151]] #[{ accessFlags := 2, nameIndex := 5, descriptorIndex := 11, attributes := #[] }] 49 8 #[171] #[{ accessFlags := 26, nameIndex := 173, descriptorIndex := 19, attributes := #[] }, { accessFlags := 26, nameIndex := 175, descriptorIndex := 19, attributes := #[] }, { accessFlags := 130, nameIndex := 116, descriptorIndex := 117, attributes := #[] }, { accessFlags := 2, nameIndex := 18, descriptorIndex := 19, attributes := #[] }, { accessFlags := 2, nameIndex := 22, descriptorIndex := 19, attributes := #[] }, { accessFlags := 2, nameIndex := 25, descriptorIndex := 19, attributes := #[] }, { accessFlags := 2, nameIndex := 38, descriptorIndex := 19, attributes := #[] }, { accessFlags := 2, nameIndex := 43, descriptorIndex := 19, attributes := #[] }, { accessFlags := 2, nameIndex := 46, descriptorIndex := 19, attributes := #[] }, { accessFlags := 2, nameIndex := 49, descriptorIndex := 50, attributes := #[] }, { accessFlags := 2, nameIndex := 14, descriptorIndex := 15, attributes := #[] }, { accessFlags := 26, nameIndex := 178, descriptorIndex := 15, attributes := #[] }, { accessFlags := 26, nameIndex := 180, descriptorIndex := 15, attributes := #[] }, { accessFlags := 26, nameIndex := 182, descriptorIndex := 183, attributes := #[] }])
  fields := #[{ name := "NATIVE_METHOD", type := (.object "java/lang/String"), accessFlags := 26, slot := 0, constantValue := 0 }, { name := "UNKNOWN_SOURCE", type := (.object "java/lang/String"), accessFlags := 26, slot := 1, constantValue := 0 }, { name := "declaringClassObject", type := (.object "java/lang/Class"), accessFlags := 130, slot := 0, constantValue := 0 }, { name := "classLoaderName", type := (.object "java/lang/String"), accessFlags := 2, slot := 1, constantValue := 0 }, { name := "moduleName", type := (.object "java/lang/String"), accessFlags := 2, slot := 2, constantValue := 0 }, { name := "moduleVersion", type := (.object "java/lang/String"), accessFlags := 2, slot := 3, constantValue := 0 }, { name := "declaringClass", type := (.object "java/lang/String"), accessFlags := 2, slot := 4, constantValue := 0 }, { name := "methodName", type := (.object "java/lang/String"), accessFlags := 2, slot := 5, constantValue := 0 }, { name := "fileName", type := (.object "java/lang/String"), accessFlags := 2, slot := 6, constantValue := 0 }, { name := "lineNumber", type := .int, accessFlags := 2, slot := 7, constantValue := 0 }, { name := "format", type := .byte, accessFlags := 2, slot := 8, constantValue := 0 }, { name := "BUILTIN_CLASS_LOADER", type := .byte, accessFlags := 26, slot := 2, constantValue := 0 }, { name := "JDK_NON_UPGRADEABLE_MODULE", type := .byte, accessFlags := 26, slot := 3, constantValue := 0 }, { name := "serialVersionUID", type := .long, accessFlags := 26, slot := 4, constantValue := 0 }]
  methods := #[k22m0]
  instanceTypes := #[(.object "java/lang/Class"), (.object "java/lang/String"), (.object "java/lang/String"), (.object "java/lang/String"), (.object "java/lang/String"), (.object "java/lang/String"), (.object "java/lang/String"), .int, .byte]
  staticTypes := #[(.object "java/lang/String"), (.object "java/lang/String"), .byte, .byte, .long]
  resolved := Array.replicate 235 none
  statics := none }

def pool23 : Array CpInfo := pool [(1, u "java/lang/Cloneable"), (0, .class_ 1), (0, u "java/lang/Object"), (0, .class_ 3)] 3

/-- java/lang/Cloneable -/
def k23 : Class := { plain "java/lang/Cloneable" (some 0) with
  accessFlags := 1537
  interfaces := #[]
  cf := some (fileOf pool23 2 #[] #[] 1537 4 #[] #[])
  fields := #[]
  methods := #[]
  instanceTypes := #[]
  staticTypes := #[]
  resolved := Array.replicate 8 none
  statics := none }

/-- the primitive byte -/
def k24 : Class := { plain "byte" none with kind := .primitive 'B', accessFlags := 0x411 }
/-- [B -/
def k25 : Class := { plain "[B" (some 0) with kind := .array 24 .byte, interfaces := #[23, 3], accessFlags := 1041 }

/-- the primitive int -/
def k26 : Class := { plain "int" none with kind := .primitive 'I', accessFlags := 0x411 }
/-- [I -/
def k27 : Class := { plain "[I" (some 0) with kind := .array 26 .int, interfaces := #[23, 3], accessFlags := 1041 }

/-- [Ljava/lang/Object; -/
def k28 : Class := { plain "[Ljava/lang/Object;" (some 0) with kind := .array 0 (.object "java/lang/Object"), interfaces := #[23, 3], accessFlags := 1041 }

/-- [Ljava/lang/StackTraceElement; -/
def k29 : Class := { plain "[Ljava/lang/StackTraceElement;" (some 0) with kind := .array 22 (.object "java/lang/StackTraceElement"), interfaces := #[23, 3], accessFlags := 1041 }

/-- [Ljava/lang/Throwable; -/
def k30 : Class := { plain "[Ljava/lang/Throwable;" (some 0) with kind := .array 4 (.object "java/lang/Throwable"), interfaces := #[23, 3], accessFlags := 1041 }

def heap : Heap := #[{ cls := 4, slots := #[.long 0, .ref 2, .ref 3, .null, .null, .null, .null, .ref 4, .int 1], vm := .statics 4 },
  { cls := 13, slots := #[.int 0, .int 0, .int 0, .int 0, .int 0, .int 0, .int 0, .int 0, .null, .null, .ref 3, .null], vm := .statics 13 },
  { cls := 29, slots := #[], vm := .none },
  { cls := 21, slots := #[.int 0], vm := .none },
  { cls := 30, slots := #[], vm := .none }]
def classes : Array Class := #[k0, k1, k2, k3, k4, k5, k6, k7, k8, k9, k10, k11, k12, k13, k14, k15, k16, k17, k18, k19, k20, k21, k22, k23, k24, k25, k26, k27, k28, k29, k30]
def interned : List (Array UInt16 × Addr) := []
def slotsUsed : Nat := 22
def theMethod : MethodId := ⟨1, 1⟩
def args0 : Array Value := #[.int 5]
def aboutOver (below : List Frame) : State where
  vm := { classes := classes, interned := interned.toArray }
  heap := heap
  slotsUsed := slotsUsed
  threads := #[{ frames := .invoking theMethod args0 :: below }]
def below0 : List Frame := [.native { method := ⟨0, 0⟩, args := #[] }]
def about1 : State := aboutOver below0
def p0 : Program := .bare "" "" ""
def e0 : Env := launch0.env 0 0 0
theorem w_frames : about1.frames = Frame.invoking theMethod args0 :: below0 := rfl
set_option maxRecDepth 65536 in
theorem w_args : argsFit about1.vm theMethod args0 = true := by decide +kernel
set_option maxRecDepth 65536 in
theorem w_heap : heapFits about1 = true := by decide +kernel
set_option maxRecDepth 65536 in
theorem w_runnable : about1.curStatus? = some .runnable := by decide +kernel
set_option maxRecDepth 65536 in
theorem w_alone : about1.alone = true := by decide +kernel
set_option maxRecDepth 65536 in
theorem w_named : about1.methodNamed? x = some theMethod := by decide +kernel
set_option maxRecDepth 65536 in
theorem w_hears : about1.hears theMethod below0 = true := by decide +kernel
set_option maxRecDepth 65536 in
theorem w_ripe : about1.ripe theMethod args0 below0 = true := by decide +kernel
theorem w_running : about1.status = .running := rfl
set_option maxRecDepth 65536 in
theorem w_room : about1.hasRoom e0.platform room_1 = true :=
  launch0.hasRoom_least _ room_1 (by decide +kernel) (by decide +kernel) (by decide +kernel) (by decide +kernel) (by decide +kernel) (by decide +kernel)
theorem allAtoms_all (ts : List Jvm.Cond) (a : Array Jvm.Value) (st : Jvm.State) : (allAtoms ts).before a st = ts.all (fun c => c.before a st) := by
  induction ts with
  | nil => rfl
  | cons c t ih =>
    show (Jvm.Cond.and c (allAtoms t)).before a st = _
    rw [Jvm.Cond.before_and, ih, List.all_cons]
def words1 : List Jvm.Cond := Jvm.Cond.code x code maxLocals ret :: tables_1
/-- a 'code' word, met by the world's own term for the bytes: nothing is compared byte by byte -/
theorem code_word {y : MethodName} {bytes : ByteArray} {mx : Nat} {rt : Option FieldType} {a : Array Value} {s : State} {m : MethodId} {meth : Method} {c : Code} (h1 : s.methodNamed? y = some m) (h2 : s.vm.method? m = some meth) (h3 : meth.code = some c) (h4 : c.code = bytes)
    (h5 : (c.maxLocals == mx && c.exceptionTable.isEmpty && decide (c.maxStack ≤ mostOperands) && decide (meth.sig.returnType = rt) && !meth.locks && decide (parseMethodDescriptor y.desc = some meth.sig)) = true) : (Jvm.Cond.code y bytes mx rt).before a s = true := by
  simp only [Bool.and_eq_true, beq_iff_eq, Bool.not_eq_true', decide_eq_true_eq] at h5
  obtain ⟨⟨⟨⟨⟨g1, g2⟩, g3⟩, g4⟩, g5⟩, g6⟩ := h5
  simp [Cond.before, Cond.holds, Cond.value, h1, h2, h3, h4, g1, g2, g3, g4, g5, g6]
def isCode : Jvm.Cond → Bool
  | .code _ _ _ _ => true
  | _ => false
theorem all_split {L : List Jvm.Cond} {P : Jvm.Cond → Bool} (h1 : L.all (fun c => isCode c || P c) = true) (h2 : ∀ c ∈ L.filter isCode, P c = true) : L.all P = true := by
  refine List.all_eq_true.mpr fun c hc => ?_
  have h := List.all_eq_true.mp h1 c hc
  rcases Bool.eq_false_or_eq_true (isCode c) with hi | hi
  · exact h2 c (List.mem_filter.mpr ⟨hc, hi⟩)
  · simpa [hi] using h
set_option maxRecDepth 65536 in
theorem w_c0 : (Jvm.Cond.code x code maxLocals ret).before args0 about1 = true := code_word (m := ⟨1, 1⟩) (meth := k1m1) (c := k1c1) (by decide +kernel) rfl rfl rfl (by decide +kernel)
set_option maxRecDepth 65536 in
theorem w_c1 : (Jvm.Cond.code ({ cls := "com/example/lachesis/lachesis/engine/RunEnd", name := "<init>", desc := "()V" } : Jvm.MethodName) prog_25_method_1_code (1 : Nat) (Option.none : Option Jvm.ClassFile.FieldType)).before args0 about1 = true := code_word (m := ⟨2, 0⟩) (meth := k2m0) (c := k2c0) (by decide +kernel) rfl rfl rfl (by decide +kernel)
set_option maxRecDepth 65536 in
theorem w_c2 : (Jvm.Cond.code ({ cls := "java/lang/Object", name := "<init>", desc := "()V" } : Jvm.MethodName) object_method_1_code (1 : Nat) (Option.none : Option Jvm.ClassFile.FieldType)).before args0 about1 = true := code_word (m := ⟨0, 0⟩) (meth := k0m0) (c := k0c0) (by decide +kernel) rfl rfl rfl (by decide +kernel)
set_option maxRecDepth 65536 in
theorem w_c3 : (Jvm.Cond.code ({ cls := "com/example/lachesis/lachesis/engine/ClientProcessException", name := "<init>", desc := "(Ljava/lang/String;)V" } : Jvm.MethodName) prog_13_method_1_code (2 : Nat) (Option.none : Option Jvm.ClassFile.FieldType)).before args0 about1 = true := code_word (m := ⟨7, 0⟩) (meth := k7m0) (c := k7c0) (by decide +kernel) rfl rfl rfl (by decide +kernel)
set_option maxRecDepth 65536 in
theorem w_c4 : (Jvm.Cond.code ({ cls := "java/lang/RuntimeException", name := "<init>", desc := "(Ljava/lang/String;)V" } : Jvm.MethodName) jdk_58_method_2_code (2 : Nat) (Option.none : Option Jvm.ClassFile.FieldType)).before args0 about1 = true := code_word (m := ⟨6, 1⟩) (meth := k6m1) (c := k6c1) (by decide +kernel) rfl rfl rfl (by decide +kernel)
set_option maxRecDepth 65536 in
theorem w_c5 : (Jvm.Cond.code ({ cls := "java/lang/Exception", name := "<init>", desc := "(Ljava/lang/String;)V" } : Jvm.MethodName) jdk_59_method_2_code (2 : Nat) (Option.none : Option Jvm.ClassFile.FieldType)).before args0 about1 = true := code_word (m := ⟨5, 1⟩) (meth := k5m1) (c := k5c1) (by decide +kernel) rfl rfl rfl (by decide +kernel)
set_option maxRecDepth 65536 in
theorem w_c6 : (Jvm.Cond.code ({ cls := "java/lang/Throwable", name := "<init>", desc := "(Ljava/lang/String;)V" } : Jvm.MethodName) jdk_78_method_2_code (2 : Nat) (Option.none : Option Jvm.ClassFile.FieldType)).before args0 about1 = true := code_word (m := ⟨4, 1⟩) (meth := k4m1) (c := k4c1) (by decide +kernel) rfl rfl rfl (by decide +kernel)
set_option maxRecDepth 65536 in
theorem w_c7 : (Jvm.Cond.code ({ cls := "java/lang/Throwable", name := "<init>", desc := "()V" } : Jvm.MethodName) jdk_78_method_1_code (1 : Nat) (Option.none : Option Jvm.ClassFile.FieldType)).before args0 about1 = true := code_word (m := ⟨4, 0⟩) (meth := k4m0) (c := k4c0) (by decide +kernel) rfl rfl rfl (by decide +kernel)
set_option maxRecDepth 65536 in
theorem w_c8 : (Jvm.Cond.code ({ cls := "com/example/lachesis/lachesis/engine/RunEnd", name := "ended", desc := "()Z" } : Jvm.MethodName) prog_25_method_4_code (1 : Nat) (Option.some Jvm.ClassFile.FieldType.boolean)).before args0 about1 = true := code_word (m := ⟨2, 3⟩) (meth := k2m3) (c := k2c3) (by decide +kernel) rfl rfl rfl (by decide +kernel)
set_option maxRecDepth 65536 in
theorem w_c9 : (Jvm.Cond.code ({ cls := "com/example/lachesis/lachesis/engine/RunEndEndedPinLaw", name := "step", desc := "(Lcom/example/lachesis/lachesis/engine/RunEnd;Lcom/example/lachesis/lachesis/engine/ClientProcessException;Lcom/example/lachesis/lachesis/engine/ClientProcessException;II)I" } : Jvm.MethodName) method_3_code (5 : Nat) (Option.some Jvm.ClassFile.FieldType.int)).before args0 about1 = true := code_word (m := ⟨1, 2⟩) (meth := k1m2) (c := k1c2) (by decide +kernel) rfl rfl rfl (by decide +kernel)
set_option maxRecDepth 65536 in
theorem w_c10 : (Jvm.Cond.code ({ cls := "com/example/lachesis/lachesis/engine/RunEnd", name := "fail", desc := "(Ljava/lang/Throwable;)V" } : Jvm.MethodName) prog_25_method_2_code (2 : Nat) (Option.none : Option Jvm.ClassFile.FieldType)).before args0 about1 = true := code_word (m := ⟨2, 1⟩) (meth := k2m1) (c := k2c1) (by decide +kernel) rfl rfl rfl (by decide +kernel)
set_option maxRecDepth 65536 in
theorem w_c11 : (Jvm.Cond.code ({ cls := "com/example/lachesis/lachesis/engine/RunEnd", name := "close", desc := "()V" } : Jvm.MethodName) prog_25_method_3_code (1 : Nat) (Option.none : Option Jvm.ClassFile.FieldType)).before args0 about1 = true := code_word (m := ⟨2, 2⟩) (meth := k2m2) (c := k2c2) (by decide +kernel) rfl rfl rfl (by decide +kernel)
def codes1 : List Jvm.Cond := [Jvm.Cond.code x code maxLocals ret, Jvm.Cond.code ({ cls := "com/example/lachesis/lachesis/engine/RunEnd", name := "<init>", desc := "()V" } : Jvm.MethodName) prog_25_method_1_code (1 : Nat) (Option.none : Option Jvm.ClassFile.FieldType), Jvm.Cond.code ({ cls := "java/lang/Object", name := "<init>", desc := "()V" } : Jvm.MethodName) object_method_1_code (1 : Nat) (Option.none : Option Jvm.ClassFile.FieldType), Jvm.Cond.code ({ cls := "com/example/lachesis/lachesis/engine/ClientProcessException", name := "<init>", desc := "(Ljava/lang/String;)V" } : Jvm.MethodName) prog_13_method_1_code (2 : Nat) (Option.none : Option Jvm.ClassFile.FieldType), Jvm.Cond.code ({ cls := "java/lang/RuntimeException", name := "<init>", desc := "(Ljava/lang/String;)V" } : Jvm.MethodName) jdk_58_method_2_code (2 : Nat) (Option.none : Option Jvm.ClassFile.FieldType), Jvm.Cond.code ({ cls := "java/lang/Exception", name := "<init>", desc := "(Ljava/lang/String;)V" } : Jvm.MethodName) jdk_59_method_2_code (2 : Nat) (Option.none : Option Jvm.ClassFile.FieldType), Jvm.Cond.code ({ cls := "java/lang/Throwable", name := "<init>", desc := "(Ljava/lang/String;)V" } : Jvm.MethodName) jdk_78_method_2_code (2 : Nat) (Option.none : Option Jvm.ClassFile.FieldType), Jvm.Cond.code ({ cls := "java/lang/Throwable", name := "<init>", desc := "()V" } : Jvm.MethodName) jdk_78_method_1_code (1 : Nat) (Option.none : Option Jvm.ClassFile.FieldType), Jvm.Cond.code ({ cls := "com/example/lachesis/lachesis/engine/RunEnd", name := "ended", desc := "()Z" } : Jvm.MethodName) prog_25_method_4_code (1 : Nat) (Option.some Jvm.ClassFile.FieldType.boolean), Jvm.Cond.code ({ cls := "com/example/lachesis/lachesis/engine/RunEndEndedPinLaw", name := "step", desc := "(Lcom/example/lachesis/lachesis/engine/RunEnd;Lcom/example/lachesis/lachesis/engine/ClientProcessException;Lcom/example/lachesis/lachesis/engine/ClientProcessException;II)I" } : Jvm.MethodName) method_3_code (5 : Nat) (Option.some Jvm.ClassFile.FieldType.int), Jvm.Cond.code ({ cls := "com/example/lachesis/lachesis/engine/RunEnd", name := "fail", desc := "(Ljava/lang/Throwable;)V" } : Jvm.MethodName) prog_25_method_2_code (2 : Nat) (Option.none : Option Jvm.ClassFile.FieldType), Jvm.Cond.code ({ cls := "com/example/lachesis/lachesis/engine/RunEnd", name := "close", desc := "()V" } : Jvm.MethodName) prog_25_method_3_code (1 : Nat) (Option.none : Option Jvm.ClassFile.FieldType)]
set_option maxRecDepth 65536 in
theorem codes_eq : words1.filter isCode = codes1 := rfl
theorem w_codes : ∀ c ∈ words1.filter isCode, c.before args0 about1 = true := by
  rw [codes_eq]
  intro c hc
  simp only [codes1, List.mem_cons, List.not_mem_nil, or_false] at hc
  rcases hc with rfl | rfl | rfl | rfl | rfl | rfl | rfl | rfl | rfl | rfl | rfl | rfl
  · exact w_c0
  · exact w_c1
  · exact w_c2
  · exact w_c3
  · exact w_c4
  · exact w_c5
  · exact w_c6
  · exact w_c7
  · exact w_c8
  · exact w_c9
  · exact w_c10
  · exact w_c11
set_option maxRecDepth 65536 in
theorem w_t1 : (words1.take 24).all (fun c => isCode c || c.before args0 about1) = true := by decide +kernel
set_option maxRecDepth 65536 in
theorem w_t2 : ((words1.drop 24).take 24).all (fun c => isCode c || c.before args0 about1) = true := by decide +kernel
set_option maxRecDepth 65536 in
theorem w_t3 : (((words1.drop 24).drop 24).take 24).all (fun c => isCode c || c.before args0 about1) = true := by decide +kernel
set_option maxRecDepth 65536 in
theorem w_t4 : ((((words1.drop 24).drop 24).drop 24).take 24).all (fun c => isCode c || c.before args0 about1) = true := by decide +kernel
set_option maxRecDepth 65536 in
theorem w_t5 : ((((words1.drop 24).drop 24).drop 24).drop 24).all (fun c => isCode c || c.before args0 about1) = true := by decide +kernel
theorem w_tables : (allAtoms (Jvm.Cond.code x code maxLocals ret :: tables_1)).before args0 about1 = true := by
  rw [allAtoms_all]
  show words1.all (fun c => c.before args0 about1) = true
  refine all_split ?_ w_codes
  rw [← List.take_append_drop 24 words1, List.all_append, w_t1, ← List.take_append_drop 24 (words1.drop 24), List.all_append, w_t2, ← List.take_append_drop 24 ((words1.drop 24).drop 24), List.all_append, w_t3, ← List.take_append_drop 24 (((words1.drop 24).drop 24).drop 24), List.all_append, w_t4, w_t5]
  rfl
set_option maxRecDepth 65536 in
theorem w_rest : rest_1_c.before args0 about1 = true := by decide +kernel
set_option maxRecDepth 65536 in
theorem w_case : (Jvm.Cond.and given_1 narrow_1).before args0 about1 = true := by decide +kernel
theorem w_applies : (headSpec (Jvm.Cond.code x code maxLocals ret :: tables_1) room_1).applies x e0.platform about1 = true :=
  (Spec.applies_iff w_frames).mpr ⟨w_running, w_runnable, w_alone, w_named, w_hears, w_ripe, w_room, w_tables⟩
theorem atStart : AtStart classFile x code maxLocals ret World_1 tables_1 room_1 Calls_1 rest_1 Pre_1 launch0 p0 e0 about1 theMethod args0 below0 :=
  ⟨lists_1, trivial, launch0.admits_env _ _ _, launch0.least_env, fairChoices_fair.cas, fairChoices_fair.clock, w_frames, w_args, w_heap, w_applies, ⟨(by decide +kernel : framesKnown about1 = true), ⟨(by decide +kernel : tablesKnown about1 = true), trivial⟩⟩, w_rest, w_case⟩
end start1
theorem witness_1 : WitnessClaimed_1 := ⟨start1.p0, start1.e0, start1.about1, start1.theMethod, start1.args0, start1.below0, start1.atStart⟩
end Jvm.Pilot.@@N@@
