import JvmDerived
import JvmDerived.Pilot.@@N@@Statement
import JvmDerived.Pilot.@@N@@Code
set_option linter.unusedVariables false
set_option linter.unusedSimpArgs false
namespace Jvm.RoadKit
open Sem ClassFile Op Lib Jvm.Stand Jvm.Free Jvm.LawKit
section New
variable {p : Program} {l : Launch} {e : Env} {R : Room} {s : State} {m : MethodId} {args : Array Value} {below : List Frame} {meth : Method} {c : Code} {T : State} {locs : List Loc} {cells slots : Nat}
theorem retI (X : Stand p l e R s m args below meth c T locs cells slots) (hx : p.tables.exec = Jvm.exec) {pc : Nat} {Ls : Array Slot} {z : Int32} {rest : List Value} (hret : meth.sig.returnType = some .int) (hd : decode c.code pc = .ok (.ireturn, 1)) {fs : List Frame}
    (hl : ∀ (f : JFrame) (acts : List Action), f.method = m → f.locked = none → f.entered = [] → (doReturn e (T.setTop f) acts (some (.int z))).1 = T.setFrames fs) : Steps p.tables e below (T.setTop (mkF m pc Ls (.int z :: rest))) (T.setFrames fs) := by
  have hm' : T.vm.method? m = some meth := X.method'
  have hn : narrow .int (.int z) = .int z := rfl
  show Steps p.tables e below (T.setTop { method := m, pc := pc, locals := Ls, stack := _ :: rest, locked := none }) _
  jvm_step X.here [X.here.top, hx, hd, hm', hret, hn]
  first | (intro acts; rw [hl _ acts rfl rfl rfl]) | rw [hl _ _ rfl rfl rfl]
  exact Steps.refl _
theorem own_retJ (X : Stand p l e R s m args below meth c T locs cells slots) (hx : p.tables.exec = Jvm.exec) {pc : Nat} {Ls : Array Slot} {z : Int64} {rest : List Value} (hret : meth.sig.returnType = some .long) (hd : decode c.code pc = .ok (.lreturn, 1)) {fs : List Frame}
    (hl : ∀ (f : JFrame) (acts : List Action), f.method = m → f.locked = none → f.entered = [] → (doReturn e (T.setTop f) acts (some (.long z))).1 = T.setFrames fs) : Steps p.tables e below (T.setTop (mkF m pc Ls (.long z :: rest))) (T.setFrames fs) := by
  have hm' : T.vm.method? m = some meth := X.method'
  show Steps p.tables e below (T.setTop { method := m, pc := pc, locals := Ls, stack := _ :: rest, locked := none }) _
  jvm_step X.here [X.here.top, hx, hd, hm', hret, narrow]
  first | (intro acts; rw [hl _ acts rfl rfl rfl]) | rw [hl _ _ rfl rfl rfl]
  exact Steps.refl _
theorem own_retD (X : Stand p l e R s m args below meth c T locs cells slots) (hx : p.tables.exec = Jvm.exec) {pc : Nat} {Ls : Array Slot} {z : UInt64} {rest : List Value} (hret : meth.sig.returnType = some .double) (hd : decode c.code pc = .ok (.dreturn, 1)) {fs : List Frame}
    (hl : ∀ (f : JFrame) (acts : List Action), f.method = m → f.locked = none → f.entered = [] → (doReturn e (T.setTop f) acts (some (.double z))).1 = T.setFrames fs) : Steps p.tables e below (T.setTop (mkF m pc Ls (.double z :: rest))) (T.setFrames fs) := by
  have hm' : T.vm.method? m = some meth := X.method'
  show Steps p.tables e below (T.setTop { method := m, pc := pc, locals := Ls, stack := _ :: rest, locked := none }) _
  jvm_step X.here [X.here.top, hx, hd, hm', hret, narrow]
  first | (intro acts; rw [hl _ acts rfl rfl rfl]) | rw [hl _ _ rfl rfl rfl]
  exact Steps.refl _
/-- from T, with the frame g on top, the run comes to an end of the kind that Q tells; Fe: the frame of that end -/
def Goes (p : Program) (e : Env) (below : List Frame) (s : State) (Fe : State → Outcome → State → List Loc → Nat → Nat → Prop) (kc ks : Nat) (Q : Option Value → Heap → List Loc → Prop) (T : State) (g : JFrame) : Prop :=
  ∃ s₂ o, Steps p.tables e below (T.setTop g) s₂ ∧ s₂.status = .running ∧ Ended s₂ below o ∧ ∃ v L, o = .returned v ∧ Q v s₂.heap L ∧ Fe s o s₂ L kc ks
/-- a wide end that keeps the invariant of the held constants -/
def HeldEnd (Z : State) (EL : List (String × Nat)) (s : State) (o : Outcome) (t : State) (L : List Loc) (k n : Nat) : Prop := CHr Z EL s.vm s.heap t.vm t.heap ∧ ReturnedEndW s o t L k n
variable {kc ks : Nat} {Q : Option Value → Heap → List Loc → Prop} {T' : State} {Fe : State → Outcome → State → List Loc → Nat → Nat → Prop}
theorem Goes.go {g g' : JFrame} (h : ∀ t, Steps p.tables e below (T'.setTop g') t → Steps p.tables e below (T.setTop g) t) (k : Goes p e below s Fe kc ks Q T' g') : Goes p e below s Fe kc ks Q T g := by
  obtain ⟨s₂, o, h1, h2⟩ := k
  exact ⟨s₂, o, h _ h1, h2⟩
theorem Goes.to {g : JFrame} (g' : JFrame) (h : ∀ t, Steps p.tables e below (T'.setTop g') t → Steps p.tables e below (T.setTop g) t) (k : Goes p e below s Fe kc ks Q T' g') : Goes p e below s Fe kc ks Q T g := k.go h
theorem Goes.cast {g g' : JFrame} (q : g = g') (k : Goes p e below s Fe kc ks Q T g') : Goes p e below s Fe kc ks Q T g := q ▸ k
theorem Goes.retN (X : Stand p l e R s m args below meth c T locs cells slots) (hx : p.tables.exec = Jvm.exec) (hlk : meth.locks = false) {pc : Nat} {Ls : Array Slot} {z : Int32} {t : FieldType} {rest : List Value} (hret : meth.sig.returnType = some t) (ht : t = .boolean ∨ t = .byte ∨ t = .char ∨ t = .short) (hd : decode c.code pc = .ok (.ireturn, 1)) (hc : cells ≤ kc) (hs : slots ≤ ks) (hQ : Q (some (.int (nar t z))) T.heap locs) : Goes p e below s FrameEnd kc ks Q T (mkF m pc Ls (.int z :: rest)) := by
  obtain ⟨fs, hr, hrun, hended, hW, hsame⟩ := X.leave (v := some (.int (nar t z))) (fun h => by rw [hret] at h; cases h) hlk
  exact ⟨_, _, RoadKit.retN X hx hret ht hd hr, hrun, hended, _, _, rfl, hQ, ⟨_, rfl⟩, hW, hsame.mono hc hs⟩
theorem Goes.retNW {vm1 : Vm} {k0 : Nat} (X : Stand p l e R (s.setVm vm1) m args below meth c T locs cells slots) (hx : p.tables.exec = Jvm.exec) (hlk : meth.locks = false) (hS : s.Since vm1 k0) (hk : k0 ≤ T.heap.size) {pc : Nat} {Ls : Array Slot} {z : Int32} {t : FieldType} {rest : List Value} (hret : meth.sig.returnType = some t) (ht : t = .boolean ∨ t = .byte ∨ t = .char ∨ t = .short) (hd : decode c.code pc = .ok (.ireturn, 1)) (hc : cells ≤ kc) (hs : slots ≤ ks) (hQ : Q (some (.int (nar t z))) T.heap locs) : Goes p e below s ReturnedEndW kc ks Q T (mkF m pc Ls (.int z :: rest)) := by
  obtain ⟨fs, hr, hrun, hended, h1, h2, h3, hsame⟩ := X.leaveW hS hk (v := some (.int (nar t z))) (fun h => by rw [hret] at h; cases h) hlk
  exact ⟨_, _, RoadKit.retN X hx hret ht hd hr, hrun, hended, _, _, rfl, hQ, h1, h2, h3, hsame.mono hc hs⟩
theorem Goes.retI (X : Stand p l e R s m args below meth c T locs cells slots) (hx : p.tables.exec = Jvm.exec) (hlk : meth.locks = false) {pc : Nat} {Ls : Array Slot} {z : Int32} {rest : List Value} (hret : meth.sig.returnType = some .int) (hd : decode c.code pc = .ok (.ireturn, 1)) (hc : cells ≤ kc) (hs : slots ≤ ks) (hQ : Q (some (.int z)) T.heap locs) : Goes p e below s FrameEnd kc ks Q T (mkF m pc Ls (.int z :: rest)) := by
  obtain ⟨fs, hr, hrun, hended, hW, hsame⟩ := X.leave (v := some (.int z)) (fun h => by rw [hret] at h; cases h) hlk
  exact ⟨_, _, RoadKit.retI X hx hret hd hr, hrun, hended, _, _, rfl, hQ, ⟨_, rfl⟩, hW, hsame.mono hc hs⟩
theorem Goes.retIW {vm1 : Vm} {k0 : Nat} (X : Stand p l e R (s.setVm vm1) m args below meth c T locs cells slots) (hx : p.tables.exec = Jvm.exec) (hlk : meth.locks = false) (hS : s.Since vm1 k0) (hk : k0 ≤ T.heap.size) {pc : Nat} {Ls : Array Slot} {z : Int32} {rest : List Value} (hret : meth.sig.returnType = some .int) (hd : decode c.code pc = .ok (.ireturn, 1)) (hc : cells ≤ kc) (hs : slots ≤ ks) (hQ : Q (some (.int z)) T.heap locs) : Goes p e below s ReturnedEndW kc ks Q T (mkF m pc Ls (.int z :: rest)) := by
  obtain ⟨fs, hr, hrun, hended, h1, h2, h3, hsame⟩ := X.leaveW hS hk (v := some (.int z)) (fun h => by rw [hret] at h; cases h) hlk
  exact ⟨_, _, RoadKit.retI X hx hret hd hr, hrun, hended, _, _, rfl, hQ, h1, h2, h3, hsame.mono hc hs⟩
theorem Goes.retJ (X : Stand p l e R s m args below meth c T locs cells slots) (hx : p.tables.exec = Jvm.exec) (hlk : meth.locks = false) {pc : Nat} {Ls : Array Slot} {z : Int64} {rest : List Value} (hret : meth.sig.returnType = some .long) (hd : decode c.code pc = .ok (.lreturn, 1)) (hc : cells ≤ kc) (hs : slots ≤ ks) (hQ : Q (some (.long z)) T.heap locs) : Goes p e below s FrameEnd kc ks Q T (mkF m pc Ls (.long z :: rest)) := by
  obtain ⟨fs, hr, hrun, hended, hW, hsame⟩ := X.leave (v := some (.long z)) (fun h => by rw [hret] at h; cases h) hlk
  exact ⟨_, _, own_retJ X hx hret hd hr, hrun, hended, _, _, rfl, hQ, ⟨_, rfl⟩, hW, hsame.mono hc hs⟩
theorem Goes.retJW {vm1 : Vm} {k0 : Nat} (X : Stand p l e R (s.setVm vm1) m args below meth c T locs cells slots) (hx : p.tables.exec = Jvm.exec) (hlk : meth.locks = false) (hS : s.Since vm1 k0) (hk : k0 ≤ T.heap.size) {pc : Nat} {Ls : Array Slot} {z : Int64} {rest : List Value} (hret : meth.sig.returnType = some .long) (hd : decode c.code pc = .ok (.lreturn, 1)) (hc : cells ≤ kc) (hs : slots ≤ ks) (hQ : Q (some (.long z)) T.heap locs) : Goes p e below s ReturnedEndW kc ks Q T (mkF m pc Ls (.long z :: rest)) := by
  obtain ⟨fs, hr, hrun, hended, h1, h2, h3, hsame⟩ := X.leaveW hS hk (v := some (.long z)) (fun h => by rw [hret] at h; cases h) hlk
  exact ⟨_, _, own_retJ X hx hret hd hr, hrun, hended, _, _, rfl, hQ, h1, h2, h3, hsame.mono hc hs⟩
theorem Goes.retD (X : Stand p l e R s m args below meth c T locs cells slots) (hx : p.tables.exec = Jvm.exec) (hlk : meth.locks = false) {pc : Nat} {Ls : Array Slot} {z : UInt64} {rest : List Value} (hret : meth.sig.returnType = some .double) (hd : decode c.code pc = .ok (.dreturn, 1)) (hc : cells ≤ kc) (hs : slots ≤ ks) (hQ : Q (some (.double z)) T.heap locs) : Goes p e below s FrameEnd kc ks Q T (mkF m pc Ls (.double z :: rest)) := by
  obtain ⟨fs, hr, hrun, hended, hW, hsame⟩ := X.leave (v := some (.double z)) (fun h => by rw [hret] at h; cases h) hlk
  exact ⟨_, _, own_retD X hx hret hd hr, hrun, hended, _, _, rfl, hQ, ⟨_, rfl⟩, hW, hsame.mono hc hs⟩
theorem Goes.retDW {vm1 : Vm} {k0 : Nat} (X : Stand p l e R (s.setVm vm1) m args below meth c T locs cells slots) (hx : p.tables.exec = Jvm.exec) (hlk : meth.locks = false) (hS : s.Since vm1 k0) (hk : k0 ≤ T.heap.size) {pc : Nat} {Ls : Array Slot} {z : UInt64} {rest : List Value} (hret : meth.sig.returnType = some .double) (hd : decode c.code pc = .ok (.dreturn, 1)) (hc : cells ≤ kc) (hs : slots ≤ ks) (hQ : Q (some (.double z)) T.heap locs) : Goes p e below s ReturnedEndW kc ks Q T (mkF m pc Ls (.double z :: rest)) := by
  obtain ⟨fs, hr, hrun, hended, h1, h2, h3, hsame⟩ := X.leaveW hS hk (v := some (.double z)) (fun h => by rw [hret] at h; cases h) hlk
  exact ⟨_, _, own_retD X hx hret hd hr, hrun, hended, _, _, rfl, hQ, h1, h2, h3, hsame.mono hc hs⟩
theorem Goes.retA (X : Stand p l e R s m args below meth c T locs cells slots) (hx : p.tables.exec = Jvm.exec) (hlk : meth.locks = false) {pc : Nat} {Ls : Array Slot} {w : Value} {t : FieldType} (hw : w.isRef = true) (hret : meth.sig.returnType = some t) (ht : t.isReference = true) (hd : decode c.code pc = .ok (.areturn, 1)) (hc : cells ≤ kc) (hs : slots ≤ ks) (hQ : Q (some w) T.heap locs) : Goes p e below s FrameEnd kc ks Q T (mkF m pc Ls [w]) := by
  obtain ⟨fs, hr, hrun, hended, hW, hsame⟩ := X.leave (v := some w) (fun h => by rw [hret] at h; cases h) hlk
  exact ⟨_, _, X.areturnOut hx hw hret ht hd hr, hrun, hended, _, _, rfl, hQ, ⟨_, rfl⟩, hW, hsame.mono hc hs⟩
theorem Goes.retAW {vm1 : Vm} {k0 : Nat} (X : Stand p l e R (s.setVm vm1) m args below meth c T locs cells slots) (hx : p.tables.exec = Jvm.exec) (hlk : meth.locks = false) (hS : s.Since vm1 k0) (hk : k0 ≤ T.heap.size) {pc : Nat} {Ls : Array Slot} {w : Value} {t : FieldType} (hw : w.isRef = true) (hret : meth.sig.returnType = some t) (ht : t.isReference = true) (hd : decode c.code pc = .ok (.areturn, 1)) (hc : cells ≤ kc) (hs : slots ≤ ks) (hQ : Q (some w) T.heap locs) : Goes p e below s ReturnedEndW kc ks Q T (mkF m pc Ls [w]) := by
  obtain ⟨fs, hr, hrun, hended, h1, h2, h3, hsame⟩ := X.leaveW hS hk (v := some w) (fun h => by rw [hret] at h; cases h) hlk
  exact ⟨_, _, X.areturnOut hx hw hret ht hd hr, hrun, hended, _, _, rfl, hQ, h1, h2, h3, hsame.mono hc hs⟩
theorem Goes.retV (X : Stand p l e R s m args below meth c T locs cells slots) (hx : p.tables.exec = Jvm.exec) (hlk : meth.locks = false) {pc : Nat} {Ls : Array Slot} (hret : meth.sig.returnType = none) (hd : decode c.code pc = .ok (.return_, 1)) (hc : cells ≤ kc) (hs : slots ≤ ks) (hQ : Q (none) T.heap locs) : Goes p e below s FrameEnd kc ks Q T (mkF m pc Ls []) := by
  obtain ⟨fs, hr, hrun, hended, hW, hsame⟩ := X.leave (v := none) (fun _ => rfl) hlk
  exact ⟨_, _, X.returnOut hx hret hd hr, hrun, hended, _, _, rfl, hQ, ⟨_, rfl⟩, hW, hsame.mono hc hs⟩
theorem Goes.retVW {vm1 : Vm} {k0 : Nat} (X : Stand p l e R (s.setVm vm1) m args below meth c T locs cells slots) (hx : p.tables.exec = Jvm.exec) (hlk : meth.locks = false) (hS : s.Since vm1 k0) (hk : k0 ≤ T.heap.size) {pc : Nat} {Ls : Array Slot} (hret : meth.sig.returnType = none) (hd : decode c.code pc = .ok (.return_, 1)) (hc : cells ≤ kc) (hs : slots ≤ ks) (hQ : Q (none) T.heap locs) : Goes p e below s ReturnedEndW kc ks Q T (mkF m pc Ls []) := by
  obtain ⟨fs, hr, hrun, hended, h1, h2, h3, hsame⟩ := X.leaveW hS hk (v := none) (fun _ => rfl) hlk
  exact ⟨_, _, X.returnOut hx hret hd hr, hrun, hended, _, _, rfl, hQ, h1, h2, h3, hsame.mono hc hs⟩
theorem Goes.retNH {vm1 : Vm} {k0 : Nat} {Z : State} {a0 : Array Value} {EL : List (String × Nat)} (X : Stand p l e R (s.setVm vm1) m args below meth c T locs cells slots) (hx : p.tables.exec = Jvm.exec) (hlk : meth.locks = false) (hS : s.Since vm1 k0) (hk : k0 ≤ T.heap.size) (hZ : Z.Warmed39 vm1) (hEL : EW Z a0 EL) (C : CHr Z EL s.vm s.heap vm1 T.heap) {pc : Nat} {Ls : Array Slot} {z : Int32} {t : FieldType} {rest : List Value} (hret : meth.sig.returnType = some t) (ht : t = .boolean ∨ t = .byte ∨ t = .char ∨ t = .short) (hd : decode c.code pc = .ok (.ireturn, 1)) (hc : cells ≤ kc) (hs : slots ≤ ks) (hQ : Q (some (.int (nar t z))) T.heap locs) : Goes p e below s (HeldEnd Z EL) kc ks Q T (mkF m pc Ls (.int z :: rest)) := by
  obtain ⟨fs, hr, hrun, hended, h1, h2, h3, hsame⟩ := X.leaveW hS hk (v := some (.int (nar t z))) (fun h => by rw [hret] at h; cases h) hlk
  exact ⟨_, _, RoadKit.retN X hx hret ht hd hr, hrun, hended, _, _, rfl, hQ, C.trans (CHv.at (T := T) X hZ hEL C.1), h1, h2, h3, hsame.mono hc hs⟩
theorem Goes.retIH {vm1 : Vm} {k0 : Nat} {Z : State} {a0 : Array Value} {EL : List (String × Nat)} (X : Stand p l e R (s.setVm vm1) m args below meth c T locs cells slots) (hx : p.tables.exec = Jvm.exec) (hlk : meth.locks = false) (hS : s.Since vm1 k0) (hk : k0 ≤ T.heap.size) (hZ : Z.Warmed39 vm1) (hEL : EW Z a0 EL) (C : CHr Z EL s.vm s.heap vm1 T.heap) {pc : Nat} {Ls : Array Slot} {z : Int32} {rest : List Value} (hret : meth.sig.returnType = some .int) (hd : decode c.code pc = .ok (.ireturn, 1)) (hc : cells ≤ kc) (hs : slots ≤ ks) (hQ : Q (some (.int z)) T.heap locs) : Goes p e below s (HeldEnd Z EL) kc ks Q T (mkF m pc Ls (.int z :: rest)) := by
  obtain ⟨fs, hr, hrun, hended, h1, h2, h3, hsame⟩ := X.leaveW hS hk (v := some (.int z)) (fun h => by rw [hret] at h; cases h) hlk
  exact ⟨_, _, RoadKit.retI X hx hret hd hr, hrun, hended, _, _, rfl, hQ, C.trans (CHv.at (T := T) X hZ hEL C.1), h1, h2, h3, hsame.mono hc hs⟩
theorem Goes.retAH {vm1 : Vm} {k0 : Nat} {Z : State} {a0 : Array Value} {EL : List (String × Nat)} (X : Stand p l e R (s.setVm vm1) m args below meth c T locs cells slots) (hx : p.tables.exec = Jvm.exec) (hlk : meth.locks = false) (hS : s.Since vm1 k0) (hk : k0 ≤ T.heap.size) (hZ : Z.Warmed39 vm1) (hEL : EW Z a0 EL) (C : CHr Z EL s.vm s.heap vm1 T.heap) {pc : Nat} {Ls : Array Slot} {w : Value} {t : FieldType} (hw : w.isRef = true) (hret : meth.sig.returnType = some t) (ht : t.isReference = true) (hd : decode c.code pc = .ok (.areturn, 1)) (hc : cells ≤ kc) (hs : slots ≤ ks) (hQ : Q (some w) T.heap locs) : Goes p e below s (HeldEnd Z EL) kc ks Q T (mkF m pc Ls [w]) := by
  obtain ⟨fs, hr, hrun, hended, h1, h2, h3, hsame⟩ := X.leaveW hS hk (v := some w) (fun h => by rw [hret] at h; cases h) hlk
  exact ⟨_, _, X.areturnOut hx hw hret ht hd hr, hrun, hended, _, _, rfl, hQ, C.trans (CHv.at (T := T) X hZ hEL C.1), h1, h2, h3, hsame.mono hc hs⟩
theorem Goes.retVH {vm1 : Vm} {k0 : Nat} {Z : State} {a0 : Array Value} {EL : List (String × Nat)} (X : Stand p l e R (s.setVm vm1) m args below meth c T locs cells slots) (hx : p.tables.exec = Jvm.exec) (hlk : meth.locks = false) (hS : s.Since vm1 k0) (hk : k0 ≤ T.heap.size) (hZ : Z.Warmed39 vm1) (hEL : EW Z a0 EL) (C : CHr Z EL s.vm s.heap vm1 T.heap) {pc : Nat} {Ls : Array Slot} (hret : meth.sig.returnType = none) (hd : decode c.code pc = .ok (.return_, 1)) (hc : cells ≤ kc) (hs : slots ≤ ks) (hQ : Q (none) T.heap locs) : Goes p e below s (HeldEnd Z EL) kc ks Q T (mkF m pc Ls []) := by
  obtain ⟨fs, hr, hrun, hended, h1, h2, h3, hsame⟩ := X.leaveW hS hk (v := none) (fun _ => rfl) hlk
  exact ⟨_, _, X.returnOut hx hret hd hr, hrun, hended, _, _, rfl, hQ, C.trans (CHv.at (T := T) X hZ hEL C.1), h1, h2, h3, hsame.mono hc hs⟩
end New
/-- a boolean as the machine holds it -/
def bit (P : Prop) [Decidable P] : Int32 := if P then 1 else 0
theorem bit_t {P : Prop} [Decidable P] (h : P) : bit P = 1 := if_pos h
theorem bit_f {P : Prop} [Decidable P] (h : ¬ P) : bit P = 0 := if_neg h
theorem nar_bit (P : Prop) [Decidable P] : nar .boolean (bit P) = bit P := by unfold bit; split <;> rfl
theorem bit_ne {P : Prop} [Decidable P] : ¬ bit P = 0 ↔ P := by unfold bit; split <;> simp_all
theorem bit_eq {P R : Prop} [Decidable P] [Decidable R] : bit P = bit R ↔ (P ↔ R) := by unfold bit; split <;> split <;> simp_all
theorem own_selPriv {Z s : State} {a0 args : Array Value} {y : MethodName} {n : Nat} (hZ : Z.Warmed39 s.vm) (wi : (Cond.instantiable y.cls n).before a0 Z = true) (wp : (Cond.privateMethod y).before a0 Z = true) (wm : (Cond.instanceMethod y).before a0 Z = true) (hy : y.cls ≠ "java/lang/invoke/MethodHandle" ∧ y.cls ≠ "java/lang/invoke/VarHandle") : (Cond.selects y.cls y y).before args s = true := by
  obtain ⟨c, k, h1, h2, h3, h4, -⟩ := Cond.instantiable_spec (mv hZ wi : (Cond.instantiable y.cls n).before args s = true)
  exact selects_self_of_private h1 h2 (Bool.or_eq_false_iff.mp h4).1 (Cond.privateMethod_at (mvP hZ wp (args := args))) (mv hZ wm) hy
theorem own_fldI {s : State} {args : Array Value} {t : Term} {a : Addr} {C n d : String} {k : Int32} (ev : t.eval args s none [] s = some (.ref a)) (h : (Jvm.Cond.eq (Term.field t C n d) (Term.int k)).value args s none s [] = some true) : Fld s s.heap a C n d (.int k) := by
  obtain ⟨x, y, h1, h2, h3, h4⟩ := cmp_v (Or.inl h)
  obtain rfl : Value.int k = y := Option.some.inj h2
  obtain ⟨z, rfl⟩ := h4
  have q : z = k := by simpa [Cond.value, h1, h2] using h
  subst q
  exact Fld.start ((fld_at ev).symm.trans h1)
end Jvm.RoadKit
namespace Jvm.Pilot.@@N@@
open Jvm Jvm.ClassFile Sem Op Lib Jvm.Free Jvm.Stand Jvm.LawKit Jvm.RoadKit Bundle Jvm.Pilot.@@N@@.Jvm.D
theorem pn_java_lang_Record : plainName "java/lang/Record" = true := by first | (simp [plainName, overriddenIn]; done) | decide +kernel
theorem ef_rm_rec (m : MethodId) (x0 : Addr) : entryFrame m #[(.ref x0)] 1 = mkF m 0 #[.val (.ref x0)] [] := by first | (simp [entryFrame, mkF, argsToLocals, Value.category]; done) | rfl
def Q_rm_rec (Z : State) (a : Addr) (h0 : Heap) (n0 : Nat) (v : Option Value) (h : Heap) (L : List Loc) : Prop := v = none ∧ Fr n0 L ∧ h = h0
theorem d2_0 : decode jdk_30_method_1_code 0 = .ok (.aload_n 0, 1) := by decide +kernel
theorem d2_1 : decode jdk_30_method_1_code 1 = .ok (.invokespecial 1, 3) := by decide +kernel
theorem d2_4 : decode jdk_30_method_1_code 4 = .ok (.return_, 1) := by decide +kernel
set_option maxRecDepth 65536 in
set_option maxHeartbeats 40000000 in
theorem rm_rec (l : Launch) (Z : State) (a0 : Array Value) (hw : ∀ d ∈ tables_1, d.before a0 Z = true) (ws : List Jvm.Cond) (a : Addr) (h0 : Heap) (n0 : Nat) (O : Old Z n0 h0) :
    MetFree l (⟨"java/lang/Record", "<init>", "()V"⟩ : MethodName) (head1 (Jvm.Cond.code (⟨"java/lang/Record", "<init>", "()V"⟩ : MethodName) jdk_30_method_1_code 1 none :: ws) ({ frames := 1, cells := 0, slots := 0, locals := 12 } : Room)) (fun aa U => aa = #[(.ref a)] ∧ Z.Warmed39 U.vm ∧ U.heap = h0) (fun _ _ _ _ _ => True) (fun _ U o U' => ∃ v L, o = .returned v ∧ Q_rm_rec Z a h0 n0 v U'.heap L ∧ FrameEnd U o U' L ({ frames := 1, cells := 0, slots := 0, locals := 12 } : Room).cells ({ frames := 1, cells := 0, slots := 0, locals := 12 } : Room).slots) := by
  refine MetFree.of_bodySF (plainFor_of_name pn_java_lang_Record) hisR ?_
  intro p e s m args below meth c s₁ Bd hml0 hP hK
  obtain ⟨rfl, hZ, hh⟩ := hP
  have hx := Bd.exec
  have hby := Bd.bytes
  have hml : c.maxLocals = 1 := hml0
  have hown : s.vm.findClass "java/lang/Record" = some m.cls := findClass_of_methodNamed Bd.named
  have hnm := (name_of_methodNamed Bd.named Bd.method).1
  have X0 : Stand p l e ({ frames := 1, cells := 0, slots := 0, locals := 12 } : Room) s m #[(.ref a)] below meth c s₁ [] 0 0 := Stand.of_body Bd
  have e0 : s₁.heap = h0 := by rw [← hh, Bd.state]; rfl
  have N0 := Fr.nil n0
  show Goes p e below s FrameEnd ({ frames := 1, cells := 0, slots := 0, locals := 12 } : Room).cells ({ frames := 1, cells := 0, slots := 0, locals := 12 } : Room).slots (Q_rm_rec Z a h0 n0) s₁ (entryFrame m #[(.ref a)] 1)
  refine Goes.cast (ef_rm_rec m a) ?_
  refine Goes.to (T' := s₁) (mkF m 1 #[.val (.ref a)] [(.ref a)]) (fun t k => XS.aloadN X0.here hx rfl (hb hby d2_0) rfl rfl k) ?_
  obtain ⟨T1, X1, e1, st1⟩ := initO X0 hx hZ hown (hw _ (List.mem_of_getElem? (i := 19) rfl)) (hw _ (List.mem_of_getElem? (i := 20) rfl)) (hw _ (List.mem_of_getElem? (i := 21) rfl)) e0 (g := (mkF m 1 #[.val (.ref a)] [(.ref a)])) rfl (by rw [hml]; rfl) rfl (hb hby d2_1) (by decide) (W := 0) (by show 2 * 0 + _ ≤ _; exact Nat.le_of_eq rfl) (by decide)
  refine Goes.to (T' := T1) (mkF m 4 #[.val (.ref a)] []) st1 ?_
  refine Goes.retV X1 hx Bd.notSynchronized Bd.returns (hb hby d2_4) (by decide) (by decide) ?_
  rw [e1]
  exact ⟨rfl, N0, rfl⟩
theorem pn_com_example_fleetmarshal_fleetmarshal_Call : plainName "com/example/fleetmarshal/fleetmarshal/Call" = true := by first | (simp [plainName, overriddenIn]; done) | decide +kernel
theorem ef_rm_call (m : MethodId) (x0 : Addr) (x1 : Addr) (x2 : UInt64) (x3 : Int32) (x4 : UInt64) : entryFrame m #[(.ref x0), (.ref x1), (.double x2), (.int x3), (.double x4)] 7 = mkF m 0 #[.val (.ref x0), .val (.ref x1), .val (.double x2), .second, .val (.int x3), .val (.double x4), .second] [] := by first | (simp [entryFrame, mkF, argsToLocals, Value.category]; done) | rfl
def Q_rm_call (Z : State) (a : Addr) (si : Addr) (d1 : UInt64) (i1 : Int32) (d2 : UInt64) (u0 u1 u2 u3 : Value) (h0 : Heap) (n0 : Nat) (v : Option Value) (h : Heap) (L : List Loc) : Prop := v = none ∧ Fr n0 L ∧ Keep h0 h [a] ∧ Fld Z h a "com/example/fleetmarshal/fleetmarshal/Call" "release" "D" (.double d1)
theorem d1_0 : decode prog_1_method_1_code 0 = .ok (.aload_n 0, 1) := by decide +kernel
theorem d1_1 : decode prog_1_method_1_code 1 = .ok (.invokespecial 1, 3) := by decide +kernel
theorem pd_0 : parseMethodDescriptor "()V" = some ⟨[], none⟩ := by decide +kernel
theorem d1_4 : decode prog_1_method_1_code 4 = .ok (.aload_n 0, 1) := by decide +kernel
theorem d1_5 : decode prog_1_method_1_code 5 = .ok (.aload_n 1, 1) := by decide +kernel
theorem d1_6 : decode prog_1_method_1_code 6 = .ok (.putfield 7, 3) := by decide +kernel
theorem d1_9 : decode prog_1_method_1_code 9 = .ok (.aload_n 0, 1) := by decide +kernel
theorem d1_10 : decode prog_1_method_1_code 10 = .ok (.dload_n 2, 1) := by decide +kernel
theorem d1_11 : decode prog_1_method_1_code 11 = .ok (.putfield 13, 3) := by decide +kernel
theorem d1_14 : decode prog_1_method_1_code 14 = .ok (.aload_n 0, 1) := by decide +kernel
theorem d1_15 : decode prog_1_method_1_code 15 = .ok (.iload 4, 2) := by decide +kernel
theorem d1_17 : decode prog_1_method_1_code 17 = .ok (.putfield 17, 3) := by decide +kernel
theorem d1_20 : decode prog_1_method_1_code 20 = .ok (.aload_n 0, 1) := by decide +kernel
theorem d1_21 : decode prog_1_method_1_code 21 = .ok (.dload 5, 2) := by decide +kernel
theorem d1_23 : decode prog_1_method_1_code 23 = .ok (.putfield 21, 3) := by decide +kernel
theorem d1_26 : decode prog_1_method_1_code 26 = .ok (.return_, 1) := by decide +kernel
set_option maxRecDepth 65536 in
set_option maxHeartbeats 40000000 in
theorem rm_call (l : Launch) (Z : State) (a0 : Array Value) (hw : ∀ d ∈ tables_1, d.before a0 Z = true) (ws : List Jvm.Cond) (a : Addr) (si : Addr) (d1 : UInt64) (i1 : Int32) (d2 : UInt64) (u0 u1 u2 u3 : Value) (h0 : Heap) (n0 : Nat) (O : Old Z n0 h0) (F_id_a : Fld Z h0 a "com/example/fleetmarshal/fleetmarshal/Call" "id" "Ljava/lang/String;" u0) (F_release_a : Fld Z h0 a "com/example/fleetmarshal/fleetmarshal/Call" "release" "D" u1) (F_scene_a : Fld Z h0 a "com/example/fleetmarshal/fleetmarshal/Call" "scene" "I" u2) (F_onScene_a : Fld Z h0 a "com/example/fleetmarshal/fleetmarshal/Call" "onScene" "D" u3) (E_a : Exa Z h0 a "com/example/fleetmarshal/fleetmarshal/Call") (g_a : n0 ≤ a) :
    MetFree l (⟨"com/example/fleetmarshal/fleetmarshal/Call", "<init>", "(Ljava/lang/String;DID)V"⟩ : MethodName) (head1 (Jvm.Cond.code (⟨"com/example/fleetmarshal/fleetmarshal/Call", "<init>", "(Ljava/lang/String;DID)V"⟩ : MethodName) prog_1_method_1_code 7 none :: ws) ({ frames := 2, cells := 0, slots := 0, locals := 24 } : Room)) (fun aa U => aa = #[(.ref a), (.ref si), (.double d1), (.int i1), (.double d2)] ∧ Z.Warmed39 U.vm ∧ U.heap = h0) (fun _ _ _ _ _ => True) (fun _ U o U' => ∃ v L, o = .returned v ∧ Q_rm_call Z a si d1 i1 d2 u0 u1 u2 u3 h0 n0 v U'.heap L ∧ FrameEnd U o U' L ({ frames := 2, cells := 0, slots := 0, locals := 24 } : Room).cells ({ frames := 2, cells := 0, slots := 0, locals := 24 } : Room).slots) := by
  refine MetFree.of_bodySF (plainFor_of_name pn_com_example_fleetmarshal_fleetmarshal_Call) hisR ?_
  intro p e s m args below meth c s₁ Bd hml0 hP hK
  obtain ⟨rfl, hZ, hh⟩ := hP
  have hx := Bd.exec
  have hby := Bd.bytes
  have hml : c.maxLocals = 7 := hml0
  have hown : s.vm.findClass "com/example/fleetmarshal/fleetmarshal/Call" = some m.cls := findClass_of_methodNamed Bd.named
  have hnm := (name_of_methodNamed Bd.named Bd.method).1
  have X0 : Stand p l e ({ frames := 2, cells := 0, slots := 0, locals := 24 } : Room) s m #[(.ref a), (.ref si), (.double d1), (.int i1), (.double d2)] below meth c s₁ [] 0 0 := Stand.of_body Bd
  have e0 : s₁.heap = h0 := by rw [← hh, Bd.state]; rfl
  have N0 := Fr.nil n0
  have K : Keep h0 h0 [a] := Keep.refl _ _
  show Goes p e below s FrameEnd ({ frames := 2, cells := 0, slots := 0, locals := 24 } : Room).cells ({ frames := 2, cells := 0, slots := 0, locals := 24 } : Room).slots (Q_rm_call Z a si d1 i1 d2 u0 u1 u2 u3 h0 n0) s₁ (entryFrame m #[(.ref a), (.ref si), (.double d1), (.int i1), (.double d2)] 7)
  refine Goes.cast (ef_rm_call m a si d1 i1 d2) ?_
  refine Goes.to (T' := s₁) (mkF m 1 #[.val (.ref a), .val (.ref si), .val (.double d1), .second, .val (.int i1), .val (.double d2), .second] [(.ref a)]) (fun t k => XS.aloadN X0.here hx rfl (hb hby d1_0) rfl rfl k) ?_
  obtain ⟨_, _, ⟨T1, L1, k1, n1⟩, -, X1, ⟨Lc1, hQ1, l1, y1, z1⟩, st1⟩ := X0.specialBack hx (y := (⟨"java/lang/Record", "<init>", "()V"⟩ : MethodName)) rfl hown (mvT hZ (hw _ (List.mem_of_getElem? (i := 14) rfl))) (mvT hZ (hw _ (List.mem_of_getElem? (i := 15) rfl))) (mvT hZ (hw _ (List.mem_of_getElem? (i := 18) rfl))) (by decide) (backOf (W := 0) (rm_rec l Z a0 hw [] a h0 n0 O) hZ (hw _ (List.mem_of_getElem? (i := 18) rfl)) (hw _ (List.mem_of_getElem? (i := 17) rfl)) (by decide) (by decide)) (g := (mkF m 1 #[.val (.ref a), .val (.ref si), .val (.double d1), .second, .val (.int i1), .val (.double d2), .second] [(.ref a)])) rfl (by rw [hml]; rfl) (Steps.refl _) (a := a) (argsL := []) (rest := []) (lenOf pd_0 rfl) rfl (by show 2 * 0 + _ ≤ _; exact Nat.le_of_eq rfl) (hb hby d1_1) (fun _ _ => ⟨rfl, e0, (by decide : 0 + 0 ≤ _), (by decide : 0 + 0 ≤ _)⟩)
  dsimp only [Pt.U, Pt.locs, Pt.cells, Pt.slots] at X1 l1 y1 z1 st1 hQ1
  subst l1 y1 z1
  obtain ⟨rfl, N1, hs1⟩ := hQ1
  have N1' := Fr.app N0 N1
  refine Goes.to (T' := T1) (mkF m 4 #[.val (.ref a), .val (.ref si), .val (.double d1), .second, .val (.int i1), .val (.double d2), .second] []) (fun t k => st1.trans k) ?_
  refine Goes.to (T' := T1) (mkF m 5 #[.val (.ref a), .val (.ref si), .val (.double d1), .second, .val (.int i1), .val (.double d2), .second] [(.ref a)]) (fun t k => XS.aloadN X1.here hx rfl (hb hby d1_4) rfl rfl k) ?_
  refine Goes.to (T' := T1) (mkF m 6 #[.val (.ref a), .val (.ref si), .val (.double d1), .second, .val (.int i1), .val (.double d2), .second] [(.ref si), (.ref a)]) (fun t k => XS.aloadN X1.here hx rfl (hb hby d1_5) rfl rfl k) ?_
  obtain ⟨T2, h2, X2, e2, W2, st2⟩ := putF X1 hx hZ hown (host := "") (Or.inl (hw _ (List.mem_of_getElem? (i := 22) rfl))) Via.refl hs1 F_id_a E_a (Or.inr ⟨(hw _ (List.mem_of_getElem? (i := 23) rfl)), rfl, hnm⟩) (hw _ (List.mem_of_getElem? (i := 1) rfl)) (ty := (.object "java/lang/String")) (by decide) rfl rfl (g := (mkF m 6 #[.val (.ref a), .val (.ref si), .val (.double d1), .second, .val (.int i1), .val (.double d2), .second] [(.ref si), (.ref a)])) rfl rfl (hb hby d1_6)
  replace E_a := E_a.wr W2
  replace F_id_a := F_id_a.same W2
  replace F_release_a := F_release_a.other W2 (Or.inr (slot_ne (Or.inr (hw _ (List.mem_of_getElem? (i := 25) rfl))) (Or.inr (hw _ (List.mem_of_getElem? (i := 23) rfl))) (by decide) (t := .double) (t' := (.object "java/lang/String")) (by decide) (by decide)))
  replace F_scene_a := F_scene_a.other W2 (Or.inr (slot_ne (Or.inr (hw _ (List.mem_of_getElem? (i := 27) rfl))) (Or.inr (hw _ (List.mem_of_getElem? (i := 23) rfl))) (by decide) (t := .int) (t' := (.object "java/lang/String")) (by decide) (by decide)))
  replace F_onScene_a := F_onScene_a.other W2 (Or.inr (slot_ne (Or.inr (hw _ (List.mem_of_getElem? (i := 29) rfl))) (Or.inr (hw _ (List.mem_of_getElem? (i := 23) rfl))) (by decide) (t := .double) (t' := (.object "java/lang/String")) (by decide) (by decide)))
  replace O := O.wr W2 g_a
  replace K := K.wr W2 (Or.inl (by simp))
  have N2 := Fr.snoc X2 N1' g_a
  refine Goes.to (T' := T2) (mkF m 9 #[.val (.ref a), .val (.ref si), .val (.double d1), .second, .val (.int i1), .val (.double d2), .second] []) st2 ?_
  refine Goes.to (T' := T2) (mkF m 10 #[.val (.ref a), .val (.ref si), .val (.double d1), .second, .val (.int i1), .val (.double d2), .second] [(.ref a)]) (fun t k => XS.aloadN X2.here hx rfl (hb hby d1_9) rfl rfl k) ?_
  refine Goes.to (T' := T2) (mkF m 11 #[.val (.ref a), .val (.ref si), .val (.double d1), .second, .val (.int i1), .val (.double d2), .second] [(.double d1), (.ref a)]) (fun t k => XS.dloadN X2.here hx rfl (hb hby d1_10) rfl k) ?_
  obtain ⟨T3, h3, X3, e3, W3, st3⟩ := putF X2 hx hZ hown (host := "") (Or.inl (hw _ (List.mem_of_getElem? (i := 24) rfl))) Via.refl e2 F_release_a E_a (Or.inr ⟨(hw _ (List.mem_of_getElem? (i := 25) rfl)), rfl, hnm⟩) (hw _ (List.mem_of_getElem? (i := 1) rfl)) (ty := .double) (by decide) rfl rfl (g := (mkF m 11 #[.val (.ref a), .val (.ref si), .val (.double d1), .second, .val (.int i1), .val (.double d2), .second] [(.double d1), (.ref a)])) rfl rfl (hb hby d1_11)
  replace E_a := E_a.wr W3
  replace F_id_a := F_id_a.other W3 (Or.inr (slot_ne (Or.inr (hw _ (List.mem_of_getElem? (i := 23) rfl))) (Or.inr (hw _ (List.mem_of_getElem? (i := 25) rfl))) (by decide) (t := (.object "java/lang/String")) (t' := .double) (by decide) (by decide)))
  replace F_release_a := F_release_a.same W3
  replace F_scene_a := F_scene_a.other W3 (Or.inr (slot_ne (Or.inr (hw _ (List.mem_of_getElem? (i := 27) rfl))) (Or.inr (hw _ (List.mem_of_getElem? (i := 25) rfl))) (by decide) (t := .int) (t' := .double) (by decide) (by decide)))
  replace F_onScene_a := F_onScene_a.other W3 (Or.inr (slot_ne (Or.inr (hw _ (List.mem_of_getElem? (i := 29) rfl))) (Or.inr (hw _ (List.mem_of_getElem? (i := 25) rfl))) (by decide) (t := .double) (t' := .double) (by decide) (by decide)))
  replace O := O.wr W3 g_a
  replace K := K.wr W3 (Or.inl (by simp))
  have N3 := Fr.snoc X3 N2 g_a
  refine Goes.to (T' := T3) (mkF m 14 #[.val (.ref a), .val (.ref si), .val (.double d1), .second, .val (.int i1), .val (.double d2), .second] []) st3 ?_
  refine Goes.to (T' := T3) (mkF m 15 #[.val (.ref a), .val (.ref si), .val (.double d1), .second, .val (.int i1), .val (.double d2), .second] [(.ref a)]) (fun t k => XS.aloadN X3.here hx rfl (hb hby d1_14) rfl rfl k) ?_
  refine Goes.to (T' := T3) (mkF m 17 #[.val (.ref a), .val (.ref si), .val (.double d1), .second, .val (.int i1), .val (.double d2), .second] [(.int i1), (.ref a)]) (fun t k => XS.iload X3.here hx rfl (hb hby d1_15) rfl k) ?_
  obtain ⟨T4, h4, X4, e4, W4, st4⟩ := putF X3 hx hZ hown (host := "") (Or.inl (hw _ (List.mem_of_getElem? (i := 26) rfl))) Via.refl e3 F_scene_a E_a (Or.inr ⟨(hw _ (List.mem_of_getElem? (i := 27) rfl)), rfl, hnm⟩) (hw _ (List.mem_of_getElem? (i := 1) rfl)) (ty := .int) (by decide) rfl rfl (g := (mkF m 17 #[.val (.ref a), .val (.ref si), .val (.double d1), .second, .val (.int i1), .val (.double d2), .second] [(.int i1), (.ref a)])) rfl rfl (hb hby d1_17)
  replace E_a := E_a.wr W4
  replace F_id_a := F_id_a.other W4 (Or.inr (slot_ne (Or.inr (hw _ (List.mem_of_getElem? (i := 23) rfl))) (Or.inr (hw _ (List.mem_of_getElem? (i := 27) rfl))) (by decide) (t := (.object "java/lang/String")) (t' := .int) (by decide) (by decide)))
  replace F_release_a := F_release_a.other W4 (Or.inr (slot_ne (Or.inr (hw _ (List.mem_of_getElem? (i := 25) rfl))) (Or.inr (hw _ (List.mem_of_getElem? (i := 27) rfl))) (by decide) (t := .double) (t' := .int) (by decide) (by decide)))
  replace F_scene_a := F_scene_a.same W4
  replace F_onScene_a := F_onScene_a.other W4 (Or.inr (slot_ne (Or.inr (hw _ (List.mem_of_getElem? (i := 29) rfl))) (Or.inr (hw _ (List.mem_of_getElem? (i := 27) rfl))) (by decide) (t := .double) (t' := .int) (by decide) (by decide)))
  replace O := O.wr W4 g_a
  replace K := K.wr W4 (Or.inl (by simp))
  have N4 := Fr.snoc X4 N3 g_a
  refine Goes.to (T' := T4) (mkF m 20 #[.val (.ref a), .val (.ref si), .val (.double d1), .second, .val (.int i1), .val (.double d2), .second] []) st4 ?_
  refine Goes.to (T' := T4) (mkF m 21 #[.val (.ref a), .val (.ref si), .val (.double d1), .second, .val (.int i1), .val (.double d2), .second] [(.ref a)]) (fun t k => XS.aloadN X4.here hx rfl (hb hby d1_20) rfl rfl k) ?_
  refine Goes.to (T' := T4) (mkF m 23 #[.val (.ref a), .val (.ref si), .val (.double d1), .second, .val (.int i1), .val (.double d2), .second] [(.double d2), (.ref a)]) (fun t k => XS.dload X4.here hx rfl (hb hby d1_21) rfl k) ?_
  obtain ⟨T5, h5, X5, e5, W5, st5⟩ := putF X4 hx hZ hown (host := "") (Or.inl (hw _ (List.mem_of_getElem? (i := 28) rfl))) Via.refl e4 F_onScene_a E_a (Or.inr ⟨(hw _ (List.mem_of_getElem? (i := 29) rfl)), rfl, hnm⟩) (hw _ (List.mem_of_getElem? (i := 1) rfl)) (ty := .double) (by decide) rfl rfl (g := (mkF m 23 #[.val (.ref a), .val (.ref si), .val (.double d1), .second, .val (.int i1), .val (.double d2), .second] [(.double d2), (.ref a)])) rfl rfl (hb hby d1_23)
  replace E_a := E_a.wr W5
  replace F_id_a := F_id_a.other W5 (Or.inr (slot_ne (Or.inr (hw _ (List.mem_of_getElem? (i := 23) rfl))) (Or.inr (hw _ (List.mem_of_getElem? (i := 29) rfl))) (by decide) (t := (.object "java/lang/String")) (t' := .double) (by decide) (by decide)))
  replace F_release_a := F_release_a.other W5 (Or.inr (slot_ne (Or.inr (hw _ (List.mem_of_getElem? (i := 25) rfl))) (Or.inr (hw _ (List.mem_of_getElem? (i := 29) rfl))) (by decide) (t := .double) (t' := .double) (by decide) (by decide)))
  replace F_scene_a := F_scene_a.other W5 (Or.inr (slot_ne (Or.inr (hw _ (List.mem_of_getElem? (i := 27) rfl))) (Or.inr (hw _ (List.mem_of_getElem? (i := 29) rfl))) (by decide) (t := .int) (t' := .double) (by decide) (by decide)))
  replace F_onScene_a := F_onScene_a.same W5
  replace O := O.wr W5 g_a
  replace K := K.wr W5 (Or.inl (by simp))
  have N5 := Fr.snoc X5 N4 g_a
  refine Goes.to (T' := T5) (mkF m 26 #[.val (.ref a), .val (.ref si), .val (.double d1), .second, .val (.int i1), .val (.double d2), .second] []) st5 ?_
  refine Goes.retV X5 hx Bd.notSynchronized Bd.returns (hb hby d1_26) (by decide) (by decide) ?_
  rw [e5]
  exact ⟨rfl, N5, K, F_release_a⟩
theorem pn_com_example_fleetmarshal_fleetmarshal_Vehicle : plainName "com/example/fleetmarshal/fleetmarshal/Vehicle" = true := by first | (simp [plainName, overriddenIn]; done) | decide +kernel
theorem ef_rm_veh (m : MethodId) (x0 : Addr) (x1 : Addr) (x2 : Int32) (x3 : Int32) : entryFrame m #[(.ref x0), (.ref x1), (.int x2), (.int x3)] 4 = mkF m 0 #[.val (.ref x0), .val (.ref x1), .val (.int x2), .val (.int x3)] [] := by first | (simp [entryFrame, mkF, argsToLocals, Value.category]; done) | rfl
def Q_rm_veh (Z : State) (a : Addr) (si : Addr) (i1 i2 : Int32) (u0 u1 u2 : Value) (h0 : Heap) (n0 : Nat) (v : Option Value) (h : Heap) (L : List Loc) : Prop := v = none ∧ Fr n0 L ∧ Keep h0 h [a]
theorem d4_0 : decode prog_59_method_1_code 0 = .ok (.aload_n 0, 1) := by decide +kernel
theorem d4_1 : decode prog_59_method_1_code 1 = .ok (.invokespecial 1, 3) := by decide +kernel
theorem d4_4 : decode prog_59_method_1_code 4 = .ok (.aload_n 0, 1) := by decide +kernel
theorem d4_5 : decode prog_59_method_1_code 5 = .ok (.aload_n 1, 1) := by decide +kernel
theorem d4_6 : decode prog_59_method_1_code 6 = .ok (.putfield 7, 3) := by decide +kernel
theorem d4_9 : decode prog_59_method_1_code 9 = .ok (.aload_n 0, 1) := by decide +kernel
theorem d4_10 : decode prog_59_method_1_code 10 = .ok (.iload_n 2, 1) := by decide +kernel
theorem d4_11 : decode prog_59_method_1_code 11 = .ok (.putfield 13, 3) := by decide +kernel
theorem d4_14 : decode prog_59_method_1_code 14 = .ok (.aload_n 0, 1) := by decide +kernel
theorem d4_15 : decode prog_59_method_1_code 15 = .ok (.iload_n 3, 1) := by decide +kernel
theorem d4_16 : decode prog_59_method_1_code 16 = .ok (.putfield 17, 3) := by decide +kernel
theorem d4_19 : decode prog_59_method_1_code 19 = .ok (.return_, 1) := by decide +kernel
set_option maxRecDepth 65536 in
set_option maxHeartbeats 40000000 in
theorem rm_veh (l : Launch) (Z : State) (a0 : Array Value) (hw : ∀ d ∈ tables_1, d.before a0 Z = true) (ws : List Jvm.Cond) (a : Addr) (si : Addr) (i1 i2 : Int32) (u0 u1 u2 : Value) (h0 : Heap) (n0 : Nat) (O : Old Z n0 h0) (F_id_a : Fld Z h0 a "com/example/fleetmarshal/fleetmarshal/Vehicle" "id" "Ljava/lang/String;" u0) (F_start_a : Fld Z h0 a "com/example/fleetmarshal/fleetmarshal/Vehicle" "start" "I" u1) (F_capacity_a : Fld Z h0 a "com/example/fleetmarshal/fleetmarshal/Vehicle" "capacity" "I" u2) (E_a : Exa Z h0 a "com/example/fleetmarshal/fleetmarshal/Vehicle") (g_a : n0 ≤ a) :
    MetFree l (⟨"com/example/fleetmarshal/fleetmarshal/Vehicle", "<init>", "(Ljava/lang/String;II)V"⟩ : MethodName) (head1 (Jvm.Cond.code (⟨"com/example/fleetmarshal/fleetmarshal/Vehicle", "<init>", "(Ljava/lang/String;II)V"⟩ : MethodName) prog_59_method_1_code 4 none :: ws) ({ frames := 2, cells := 0, slots := 0, locals := 24 } : Room)) (fun aa U => aa = #[(.ref a), (.ref si), (.int i1), (.int i2)] ∧ Z.Warmed39 U.vm ∧ U.heap = h0) (fun _ _ _ _ _ => True) (fun _ U o U' => ∃ v L, o = .returned v ∧ Q_rm_veh Z a si i1 i2 u0 u1 u2 h0 n0 v U'.heap L ∧ FrameEnd U o U' L ({ frames := 2, cells := 0, slots := 0, locals := 24 } : Room).cells ({ frames := 2, cells := 0, slots := 0, locals := 24 } : Room).slots) := by
  refine MetFree.of_bodySF (plainFor_of_name pn_com_example_fleetmarshal_fleetmarshal_Vehicle) hisR ?_
  intro p e s m args below meth c s₁ Bd hml0 hP hK
  obtain ⟨rfl, hZ, hh⟩ := hP
  have hx := Bd.exec
  have hby := Bd.bytes
  have hml : c.maxLocals = 4 := hml0
  have hown : s.vm.findClass "com/example/fleetmarshal/fleetmarshal/Vehicle" = some m.cls := findClass_of_methodNamed Bd.named
  have hnm := (name_of_methodNamed Bd.named Bd.method).1
  have X0 : Stand p l e ({ frames := 2, cells := 0, slots := 0, locals := 24 } : Room) s m #[(.ref a), (.ref si), (.int i1), (.int i2)] below meth c s₁ [] 0 0 := Stand.of_body Bd
  have e0 : s₁.heap = h0 := by rw [← hh, Bd.state]; rfl
  have N0 := Fr.nil n0
  have K : Keep h0 h0 [a] := Keep.refl _ _
  show Goes p e below s FrameEnd ({ frames := 2, cells := 0, slots := 0, locals := 24 } : Room).cells ({ frames := 2, cells := 0, slots := 0, locals := 24 } : Room).slots (Q_rm_veh Z a si i1 i2 u0 u1 u2 h0 n0) s₁ (entryFrame m #[(.ref a), (.ref si), (.int i1), (.int i2)] 4)
  refine Goes.cast (ef_rm_veh m a si i1 i2) ?_
  refine Goes.to (T' := s₁) (mkF m 1 #[.val (.ref a), .val (.ref si), .val (.int i1), .val (.int i2)] [(.ref a)]) (fun t k => XS.aloadN X0.here hx rfl (hb hby d4_0) rfl rfl k) ?_
  obtain ⟨_, _, ⟨T1, L1, k1, n1⟩, -, X1, ⟨Lc1, hQ1, l1, y1, z1⟩, st1⟩ := X0.specialBack hx (y := (⟨"java/lang/Record", "<init>", "()V"⟩ : MethodName)) rfl hown (mvT hZ (hw _ (List.mem_of_getElem? (i := 37) rfl))) (mvT hZ (hw _ (List.mem_of_getElem? (i := 15) rfl))) (mvT hZ (hw _ (List.mem_of_getElem? (i := 18) rfl))) (by decide) (backOf (W := 0) (rm_rec l Z a0 hw [] a h0 n0 O) hZ (hw _ (List.mem_of_getElem? (i := 18) rfl)) (hw _ (List.mem_of_getElem? (i := 17) rfl)) (by decide) (by decide)) (g := (mkF m 1 #[.val (.ref a), .val (.ref si), .val (.int i1), .val (.int i2)] [(.ref a)])) rfl (by rw [hml]; rfl) (Steps.refl _) (a := a) (argsL := []) (rest := []) (lenOf pd_0 rfl) rfl (by show 2 * 0 + _ ≤ _; exact Nat.le_of_eq rfl) (hb hby d4_1) (fun _ _ => ⟨rfl, e0, (by decide : 0 + 0 ≤ _), (by decide : 0 + 0 ≤ _)⟩)
  dsimp only [Pt.U, Pt.locs, Pt.cells, Pt.slots] at X1 l1 y1 z1 st1 hQ1
  subst l1 y1 z1
  obtain ⟨rfl, N1, hs1⟩ := hQ1
  have N1' := Fr.app N0 N1
  refine Goes.to (T' := T1) (mkF m 4 #[.val (.ref a), .val (.ref si), .val (.int i1), .val (.int i2)] []) (fun t k => st1.trans k) ?_
  refine Goes.to (T' := T1) (mkF m 5 #[.val (.ref a), .val (.ref si), .val (.int i1), .val (.int i2)] [(.ref a)]) (fun t k => XS.aloadN X1.here hx rfl (hb hby d4_4) rfl rfl k) ?_
  refine Goes.to (T' := T1) (mkF m 6 #[.val (.ref a), .val (.ref si), .val (.int i1), .val (.int i2)] [(.ref si), (.ref a)]) (fun t k => XS.aloadN X1.here hx rfl (hb hby d4_5) rfl rfl k) ?_
  obtain ⟨T2, h2, X2, e2, W2, st2⟩ := putF X1 hx hZ hown (host := "") (Or.inl (hw _ (List.mem_of_getElem? (i := 38) rfl))) Via.refl hs1 F_id_a E_a (Or.inr ⟨(hw _ (List.mem_of_getElem? (i := 39) rfl)), rfl, hnm⟩) (hw _ (List.mem_of_getElem? (i := 31) rfl)) (ty := (.object "java/lang/String")) (by decide) rfl rfl (g := (mkF m 6 #[.val (.ref a), .val (.ref si), .val (.int i1), .val (.int i2)] [(.ref si), (.ref a)])) rfl rfl (hb hby d4_6)
  replace E_a := E_a.wr W2
  replace F_id_a := F_id_a.same W2
  replace F_start_a := F_start_a.other W2 (Or.inr (slot_ne (Or.inr (hw _ (List.mem_of_getElem? (i := 41) rfl))) (Or.inr (hw _ (List.mem_of_getElem? (i := 39) rfl))) (by decide) (t := .int) (t' := (.object "java/lang/String")) (by decide) (by decide)))
  replace F_capacity_a := F_capacity_a.other W2 (Or.inr (slot_ne (Or.inr (hw _ (List.mem_of_getElem? (i := 43) rfl))) (Or.inr (hw _ (List.mem_of_getElem? (i := 39) rfl))) (by decide) (t := .int) (t' := (.object "java/lang/String")) (by decide) (by decide)))
  replace O := O.wr W2 g_a
  replace K := K.wr W2 (Or.inl (by simp))
  have N2 := Fr.snoc X2 N1' g_a
  refine Goes.to (T' := T2) (mkF m 9 #[.val (.ref a), .val (.ref si), .val (.int i1), .val (.int i2)] []) st2 ?_
  refine Goes.to (T' := T2) (mkF m 10 #[.val (.ref a), .val (.ref si), .val (.int i1), .val (.int i2)] [(.ref a)]) (fun t k => XS.aloadN X2.here hx rfl (hb hby d4_9) rfl rfl k) ?_
  refine Goes.to (T' := T2) (mkF m 11 #[.val (.ref a), .val (.ref si), .val (.int i1), .val (.int i2)] [(.int i1), (.ref a)]) (fun t k => XS.iloadN X2.here hx rfl (hb hby d4_10) rfl k) ?_
  obtain ⟨T3, h3, X3, e3, W3, st3⟩ := putF X2 hx hZ hown (host := "") (Or.inl (hw _ (List.mem_of_getElem? (i := 40) rfl))) Via.refl e2 F_start_a E_a (Or.inr ⟨(hw _ (List.mem_of_getElem? (i := 41) rfl)), rfl, hnm⟩) (hw _ (List.mem_of_getElem? (i := 31) rfl)) (ty := .int) (by decide) rfl rfl (g := (mkF m 11 #[.val (.ref a), .val (.ref si), .val (.int i1), .val (.int i2)] [(.int i1), (.ref a)])) rfl rfl (hb hby d4_11)
  replace E_a := E_a.wr W3
  replace F_id_a := F_id_a.other W3 (Or.inr (slot_ne (Or.inr (hw _ (List.mem_of_getElem? (i := 39) rfl))) (Or.inr (hw _ (List.mem_of_getElem? (i := 41) rfl))) (by decide) (t := (.object "java/lang/String")) (t' := .int) (by decide) (by decide)))
  replace F_start_a := F_start_a.same W3
  replace F_capacity_a := F_capacity_a.other W3 (Or.inr (slot_ne (Or.inr (hw _ (List.mem_of_getElem? (i := 43) rfl))) (Or.inr (hw _ (List.mem_of_getElem? (i := 41) rfl))) (by decide) (t := .int) (t' := .int) (by decide) (by decide)))
  replace O := O.wr W3 g_a
  replace K := K.wr W3 (Or.inl (by simp))
  have N3 := Fr.snoc X3 N2 g_a
  refine Goes.to (T' := T3) (mkF m 14 #[.val (.ref a), .val (.ref si), .val (.int i1), .val (.int i2)] []) st3 ?_
  refine Goes.to (T' := T3) (mkF m 15 #[.val (.ref a), .val (.ref si), .val (.int i1), .val (.int i2)] [(.ref a)]) (fun t k => XS.aloadN X3.here hx rfl (hb hby d4_14) rfl rfl k) ?_
  refine Goes.to (T' := T3) (mkF m 16 #[.val (.ref a), .val (.ref si), .val (.int i1), .val (.int i2)] [(.int i2), (.ref a)]) (fun t k => XS.iloadN X3.here hx rfl (hb hby d4_15) rfl k) ?_
  obtain ⟨T4, h4, X4, e4, W4, st4⟩ := putF X3 hx hZ hown (host := "") (Or.inl (hw _ (List.mem_of_getElem? (i := 42) rfl))) Via.refl e3 F_capacity_a E_a (Or.inr ⟨(hw _ (List.mem_of_getElem? (i := 43) rfl)), rfl, hnm⟩) (hw _ (List.mem_of_getElem? (i := 31) rfl)) (ty := .int) (by decide) rfl rfl (g := (mkF m 16 #[.val (.ref a), .val (.ref si), .val (.int i1), .val (.int i2)] [(.int i2), (.ref a)])) rfl rfl (hb hby d4_16)
  replace E_a := E_a.wr W4
  replace F_id_a := F_id_a.other W4 (Or.inr (slot_ne (Or.inr (hw _ (List.mem_of_getElem? (i := 39) rfl))) (Or.inr (hw _ (List.mem_of_getElem? (i := 43) rfl))) (by decide) (t := (.object "java/lang/String")) (t' := .int) (by decide) (by decide)))
  replace F_start_a := F_start_a.other W4 (Or.inr (slot_ne (Or.inr (hw _ (List.mem_of_getElem? (i := 41) rfl))) (Or.inr (hw _ (List.mem_of_getElem? (i := 43) rfl))) (by decide) (t := .int) (t' := .int) (by decide) (by decide)))
  replace F_capacity_a := F_capacity_a.same W4
  replace O := O.wr W4 g_a
  replace K := K.wr W4 (Or.inl (by simp))
  have N4 := Fr.snoc X4 N3 g_a
  refine Goes.to (T' := T4) (mkF m 19 #[.val (.ref a), .val (.ref si), .val (.int i1), .val (.int i2)] []) st4 ?_
  refine Goes.retV X4 hx Bd.notSynchronized Bd.returns (hb hby d4_19) (by decide) (by decide) ?_
  rw [e4]
  exact ⟨rfl, N4, K⟩
theorem pn_com_example_fleetmarshal_fleetmarshal_CallOutcome : plainName "com/example/fleetmarshal/fleetmarshal/CallOutcome" = true := by first | (simp [plainName, overriddenIn]; done) | decide +kernel
theorem ef_rm_out (m : MethodId) (x0 : Addr) (x1 : Addr) (x2 : Addr) (x3 : UInt64) (x4 : UInt64)  (x6 : UInt64) : entryFrame m #[(.ref x0), (.ref x1), (.ref x2), (.double x3), (.double x4), .null, (.double x6)] 10 = mkF m 0 #[.val (.ref x0), .val (.ref x1), .val (.ref x2), .val (.double x3), .second, .val (.double x4), .second, .val .null, .val (.double x6), .second] [] := by first | (simp [entryFrame, mkF, argsToLocals, Value.category]; done) | rfl
def Q_rm_out (Z : State) (a : Addr) (ca ve : Addr) (d1 d2 d3 : UInt64) (u0 u1 u2 u3 u4 u5 : Value) (h0 : Heap) (n0 : Nat) (v : Option Value) (h : Heap) (L : List Loc) : Prop := v = none ∧ Fr n0 L ∧ Keep h0 h [a] ∧ Fld Z h a "com/example/fleetmarshal/fleetmarshal/CallOutcome" "call" "Lcom/example/fleetmarshal/fleetmarshal/Call;" (.ref ca) ∧ Fld Z h a "com/example/fleetmarshal/fleetmarshal/CallOutcome" "sceneArrival" "D" (.double d2)
theorem d5_0 : decode prog_4_method_1_code 0 = .ok (.aload_n 0, 1) := by decide +kernel
theorem d5_1 : decode prog_4_method_1_code 1 = .ok (.invokespecial 1, 3) := by decide +kernel
theorem d5_4 : decode prog_4_method_1_code 4 = .ok (.aload_n 0, 1) := by decide +kernel
theorem d5_5 : decode prog_4_method_1_code 5 = .ok (.aload_n 1, 1) := by decide +kernel
theorem d5_6 : decode prog_4_method_1_code 6 = .ok (.putfield 7, 3) := by decide +kernel
theorem d5_9 : decode prog_4_method_1_code 9 = .ok (.aload_n 0, 1) := by decide +kernel
theorem d5_10 : decode prog_4_method_1_code 10 = .ok (.aload_n 2, 1) := by decide +kernel
theorem d5_11 : decode prog_4_method_1_code 11 = .ok (.putfield 13, 3) := by decide +kernel
theorem d5_14 : decode prog_4_method_1_code 14 = .ok (.aload_n 0, 1) := by decide +kernel
theorem d5_15 : decode prog_4_method_1_code 15 = .ok (.dload_n 3, 1) := by decide +kernel
theorem d5_16 : decode prog_4_method_1_code 16 = .ok (.putfield 17, 3) := by decide +kernel
theorem d5_19 : decode prog_4_method_1_code 19 = .ok (.aload_n 0, 1) := by decide +kernel
theorem d5_20 : decode prog_4_method_1_code 20 = .ok (.dload 5, 2) := by decide +kernel
theorem d5_22 : decode prog_4_method_1_code 22 = .ok (.putfield 21, 3) := by decide +kernel
theorem d5_25 : decode prog_4_method_1_code 25 = .ok (.aload_n 0, 1) := by decide +kernel
theorem d5_26 : decode prog_4_method_1_code 26 = .ok (.aload 7, 2) := by decide +kernel
theorem d5_28 : decode prog_4_method_1_code 28 = .ok (.putfield 24, 3) := by decide +kernel
theorem d5_31 : decode prog_4_method_1_code 31 = .ok (.aload_n 0, 1) := by decide +kernel
theorem d5_32 : decode prog_4_method_1_code 32 = .ok (.dload 8, 2) := by decide +kernel
theorem d5_34 : decode prog_4_method_1_code 34 = .ok (.putfield 28, 3) := by decide +kernel
theorem d5_37 : decode prog_4_method_1_code 37 = .ok (.return_, 1) := by decide +kernel
set_option maxRecDepth 65536 in
set_option maxHeartbeats 40000000 in
theorem rm_out (l : Launch) (Z : State) (a0 : Array Value) (hw : ∀ d ∈ tables_1, d.before a0 Z = true) (ws : List Jvm.Cond) (a : Addr) (ca ve : Addr) (d1 d2 d3 : UInt64) (u0 u1 u2 u3 u4 u5 : Value) (h0 : Heap) (n0 : Nat) (O : Old Z n0 h0) (F_call_a : Fld Z h0 a "com/example/fleetmarshal/fleetmarshal/CallOutcome" "call" "Lcom/example/fleetmarshal/fleetmarshal/Call;" u0) (F_vehicle_a : Fld Z h0 a "com/example/fleetmarshal/fleetmarshal/CallOutcome" "vehicle" "Lcom/example/fleetmarshal/fleetmarshal/Vehicle;" u1) (F_assigned_a : Fld Z h0 a "com/example/fleetmarshal/fleetmarshal/CallOutcome" "assigned" "D" u2) (F_sceneArrival_a : Fld Z h0 a "com/example/fleetmarshal/fleetmarshal/CallOutcome" "sceneArrival" "D" u3) (F_hospital_a : Fld Z h0 a "com/example/fleetmarshal/fleetmarshal/CallOutcome" "hospital" "Lcom/example/fleetmarshal/fleetmarshal/Hospital;" u4) (F_hospitalArrival_a : Fld Z h0 a "com/example/fleetmarshal/fleetmarshal/CallOutcome" "hospitalArrival" "D" u5) (E_a : Exa Z h0 a "com/example/fleetmarshal/fleetmarshal/CallOutcome") (g_a : n0 ≤ a) :
    MetFree l (⟨"com/example/fleetmarshal/fleetmarshal/CallOutcome", "<init>", "(Lcom/example/fleetmarshal/fleetmarshal/Call;Lcom/example/fleetmarshal/fleetmarshal/Vehicle;DDLcom/example/fleetmarshal/fleetmarshal/Hospital;D)V"⟩ : MethodName) (head1 (Jvm.Cond.code (⟨"com/example/fleetmarshal/fleetmarshal/CallOutcome", "<init>", "(Lcom/example/fleetmarshal/fleetmarshal/Call;Lcom/example/fleetmarshal/fleetmarshal/Vehicle;DDLcom/example/fleetmarshal/fleetmarshal/Hospital;D)V"⟩ : MethodName) prog_4_method_1_code 10 none :: ws) ({ frames := 2, cells := 0, slots := 0, locals := 24 } : Room)) (fun aa U => aa = #[(.ref a), (.ref ca), (.ref ve), (.double d1), (.double d2), .null, (.double d3)] ∧ Z.Warmed39 U.vm ∧ U.heap = h0) (fun _ _ _ _ _ => True) (fun _ U o U' => ∃ v L, o = .returned v ∧ Q_rm_out Z a ca ve d1 d2 d3 u0 u1 u2 u3 u4 u5 h0 n0 v U'.heap L ∧ FrameEnd U o U' L ({ frames := 2, cells := 0, slots := 0, locals := 24 } : Room).cells ({ frames := 2, cells := 0, slots := 0, locals := 24 } : Room).slots) := by
  refine MetFree.of_bodySF (plainFor_of_name pn_com_example_fleetmarshal_fleetmarshal_CallOutcome) hisR ?_
  intro p e s m args below meth c s₁ Bd hml0 hP hK
  obtain ⟨rfl, hZ, hh⟩ := hP
  have hx := Bd.exec
  have hby := Bd.bytes
  have hml : c.maxLocals = 10 := hml0
  have hown : s.vm.findClass "com/example/fleetmarshal/fleetmarshal/CallOutcome" = some m.cls := findClass_of_methodNamed Bd.named
  have hnm := (name_of_methodNamed Bd.named Bd.method).1
  have X0 : Stand p l e ({ frames := 2, cells := 0, slots := 0, locals := 24 } : Room) s m #[(.ref a), (.ref ca), (.ref ve), (.double d1), (.double d2), .null, (.double d3)] below meth c s₁ [] 0 0 := Stand.of_body Bd
  have e0 : s₁.heap = h0 := by rw [← hh, Bd.state]; rfl
  have N0 := Fr.nil n0
  have K : Keep h0 h0 [a] := Keep.refl _ _
  show Goes p e below s FrameEnd ({ frames := 2, cells := 0, slots := 0, locals := 24 } : Room).cells ({ frames := 2, cells := 0, slots := 0, locals := 24 } : Room).slots (Q_rm_out Z a ca ve d1 d2 d3 u0 u1 u2 u3 u4 u5 h0 n0) s₁ (entryFrame m #[(.ref a), (.ref ca), (.ref ve), (.double d1), (.double d2), .null, (.double d3)] 10)
  refine Goes.cast (ef_rm_out m a ca ve d1 d2 d3) ?_
  refine Goes.to (T' := s₁) (mkF m 1 #[.val (.ref a), .val (.ref ca), .val (.ref ve), .val (.double d1), .second, .val (.double d2), .second, .val .null, .val (.double d3), .second] [(.ref a)]) (fun t k => XS.aloadN X0.here hx rfl (hb hby d5_0) rfl rfl k) ?_
  obtain ⟨_, _, ⟨T1, L1, k1, n1⟩, -, X1, ⟨Lc1, hQ1, l1, y1, z1⟩, st1⟩ := X0.specialBack hx (y := (⟨"java/lang/Record", "<init>", "()V"⟩ : MethodName)) rfl hown (mvT hZ (hw _ (List.mem_of_getElem? (i := 50) rfl))) (mvT hZ (hw _ (List.mem_of_getElem? (i := 15) rfl))) (mvT hZ (hw _ (List.mem_of_getElem? (i := 18) rfl))) (by decide) (backOf (W := 0) (rm_rec l Z a0 hw [] a h0 n0 O) hZ (hw _ (List.mem_of_getElem? (i := 18) rfl)) (hw _ (List.mem_of_getElem? (i := 17) rfl)) (by decide) (by decide)) (g := (mkF m 1 #[.val (.ref a), .val (.ref ca), .val (.ref ve), .val (.double d1), .second, .val (.double d2), .second, .val .null, .val (.double d3), .second] [(.ref a)])) rfl (by rw [hml]; rfl) (Steps.refl _) (a := a) (argsL := []) (rest := []) (lenOf pd_0 rfl) rfl (by show 2 * 0 + _ ≤ _; exact Nat.le_of_eq rfl) (hb hby d5_1) (fun _ _ => ⟨rfl, e0, (by decide : 0 + 0 ≤ _), (by decide : 0 + 0 ≤ _)⟩)
  dsimp only [Pt.U, Pt.locs, Pt.cells, Pt.slots] at X1 l1 y1 z1 st1 hQ1
  subst l1 y1 z1
  obtain ⟨rfl, N1, hs1⟩ := hQ1
  have N1' := Fr.app N0 N1
  refine Goes.to (T' := T1) (mkF m 4 #[.val (.ref a), .val (.ref ca), .val (.ref ve), .val (.double d1), .second, .val (.double d2), .second, .val .null, .val (.double d3), .second] []) (fun t k => st1.trans k) ?_
  refine Goes.to (T' := T1) (mkF m 5 #[.val (.ref a), .val (.ref ca), .val (.ref ve), .val (.double d1), .second, .val (.double d2), .second, .val .null, .val (.double d3), .second] [(.ref a)]) (fun t k => XS.aloadN X1.here hx rfl (hb hby d5_4) rfl rfl k) ?_
  refine Goes.to (T' := T1) (mkF m 6 #[.val (.ref a), .val (.ref ca), .val (.ref ve), .val (.double d1), .second, .val (.double d2), .second, .val .null, .val (.double d3), .second] [(.ref ca), (.ref a)]) (fun t k => XS.aloadN X1.here hx rfl (hb hby d5_5) rfl rfl k) ?_
  obtain ⟨T2, h2, X2, e2, W2, st2⟩ := putF X1 hx hZ hown (host := "") (Or.inl (hw _ (List.mem_of_getElem? (i := 51) rfl))) Via.refl hs1 F_call_a E_a (Or.inr ⟨(hw _ (List.mem_of_getElem? (i := 52) rfl)), rfl, hnm⟩) (hw _ (List.mem_of_getElem? (i := 45) rfl)) (ty := (.object "com/example/fleetmarshal/fleetmarshal/Call")) (by decide) rfl rfl (g := (mkF m 6 #[.val (.ref a), .val (.ref ca), .val (.ref ve), .val (.double d1), .second, .val (.double d2), .second, .val .null, .val (.double d3), .second] [(.ref ca), (.ref a)])) rfl rfl (hb hby d5_6)
  replace E_a := E_a.wr W2
  replace F_call_a := F_call_a.same W2
  replace F_vehicle_a := F_vehicle_a.other W2 (Or.inr (slot_ne (Or.inr (hw _ (List.mem_of_getElem? (i := 54) rfl))) (Or.inr (hw _ (List.mem_of_getElem? (i := 52) rfl))) (by decide) (t := (.object "com/example/fleetmarshal/fleetmarshal/Vehicle")) (t' := (.object "com/example/fleetmarshal/fleetmarshal/Call")) (by decide) (by decide)))
  replace F_assigned_a := F_assigned_a.other W2 (Or.inr (slot_ne (Or.inr (hw _ (List.mem_of_getElem? (i := 56) rfl))) (Or.inr (hw _ (List.mem_of_getElem? (i := 52) rfl))) (by decide) (t := .double) (t' := (.object "com/example/fleetmarshal/fleetmarshal/Call")) (by decide) (by decide)))
  replace F_sceneArrival_a := F_sceneArrival_a.other W2 (Or.inr (slot_ne (Or.inr (hw _ (List.mem_of_getElem? (i := 58) rfl))) (Or.inr (hw _ (List.mem_of_getElem? (i := 52) rfl))) (by decide) (t := .double) (t' := (.object "com/example/fleetmarshal/fleetmarshal/Call")) (by decide) (by decide)))
  replace F_hospital_a := F_hospital_a.other W2 (Or.inr (slot_ne (Or.inr (hw _ (List.mem_of_getElem? (i := 60) rfl))) (Or.inr (hw _ (List.mem_of_getElem? (i := 52) rfl))) (by decide) (t := (.object "com/example/fleetmarshal/fleetmarshal/Hospital")) (t' := (.object "com/example/fleetmarshal/fleetmarshal/Call")) (by decide) (by decide)))
  replace F_hospitalArrival_a := F_hospitalArrival_a.other W2 (Or.inr (slot_ne (Or.inr (hw _ (List.mem_of_getElem? (i := 62) rfl))) (Or.inr (hw _ (List.mem_of_getElem? (i := 52) rfl))) (by decide) (t := .double) (t' := (.object "com/example/fleetmarshal/fleetmarshal/Call")) (by decide) (by decide)))
  replace O := O.wr W2 g_a
  replace K := K.wr W2 (Or.inl (by simp))
  have N2 := Fr.snoc X2 N1' g_a
  refine Goes.to (T' := T2) (mkF m 9 #[.val (.ref a), .val (.ref ca), .val (.ref ve), .val (.double d1), .second, .val (.double d2), .second, .val .null, .val (.double d3), .second] []) st2 ?_
  refine Goes.to (T' := T2) (mkF m 10 #[.val (.ref a), .val (.ref ca), .val (.ref ve), .val (.double d1), .second, .val (.double d2), .second, .val .null, .val (.double d3), .second] [(.ref a)]) (fun t k => XS.aloadN X2.here hx rfl (hb hby d5_9) rfl rfl k) ?_
  refine Goes.to (T' := T2) (mkF m 11 #[.val (.ref a), .val (.ref ca), .val (.ref ve), .val (.double d1), .second, .val (.double d2), .second, .val .null, .val (.double d3), .second] [(.ref ve), (.ref a)]) (fun t k => XS.aloadN X2.here hx rfl (hb hby d5_10) rfl rfl k) ?_
  obtain ⟨T3, h3, X3, e3, W3, st3⟩ := putF X2 hx hZ hown (host := "") (Or.inl (hw _ (List.mem_of_getElem? (i := 53) rfl))) Via.refl e2 F_vehicle_a E_a (Or.inr ⟨(hw _ (List.mem_of_getElem? (i := 54) rfl)), rfl, hnm⟩) (hw _ (List.mem_of_getElem? (i := 45) rfl)) (ty := (.object "com/example/fleetmarshal/fleetmarshal/Vehicle")) (by decide) rfl rfl (g := (mkF m 11 #[.val (.ref a), .val (.ref ca), .val (.ref ve), .val (.double d1), .second, .val (.double d2), .second, .val .null, .val (.double d3), .second] [(.ref ve), (.ref a)])) rfl rfl (hb hby d5_11)
  replace E_a := E_a.wr W3
  replace F_call_a := F_call_a.other W3 (Or.inr (slot_ne (Or.inr (hw _ (List.mem_of_getElem? (i := 52) rfl))) (Or.inr (hw _ (List.mem_of_getElem? (i := 54) rfl))) (by decide) (t := (.object "com/example/fleetmarshal/fleetmarshal/Call")) (t' := (.object "com/example/fleetmarshal/fleetmarshal/Vehicle")) (by decide) (by decide)))
  replace F_vehicle_a := F_vehicle_a.same W3
  replace F_assigned_a := F_assigned_a.other W3 (Or.inr (slot_ne (Or.inr (hw _ (List.mem_of_getElem? (i := 56) rfl))) (Or.inr (hw _ (List.mem_of_getElem? (i := 54) rfl))) (by decide) (t := .double) (t' := (.object "com/example/fleetmarshal/fleetmarshal/Vehicle")) (by decide) (by decide)))
  replace F_sceneArrival_a := F_sceneArrival_a.other W3 (Or.inr (slot_ne (Or.inr (hw _ (List.mem_of_getElem? (i := 58) rfl))) (Or.inr (hw _ (List.mem_of_getElem? (i := 54) rfl))) (by decide) (t := .double) (t' := (.object "com/example/fleetmarshal/fleetmarshal/Vehicle")) (by decide) (by decide)))
  replace F_hospital_a := F_hospital_a.other W3 (Or.inr (slot_ne (Or.inr (hw _ (List.mem_of_getElem? (i := 60) rfl))) (Or.inr (hw _ (List.mem_of_getElem? (i := 54) rfl))) (by decide) (t := (.object "com/example/fleetmarshal/fleetmarshal/Hospital")) (t' := (.object "com/example/fleetmarshal/fleetmarshal/Vehicle")) (by decide) (by decide)))
  replace F_hospitalArrival_a := F_hospitalArrival_a.other W3 (Or.inr (slot_ne (Or.inr (hw _ (List.mem_of_getElem? (i := 62) rfl))) (Or.inr (hw _ (List.mem_of_getElem? (i := 54) rfl))) (by decide) (t := .double) (t' := (.object "com/example/fleetmarshal/fleetmarshal/Vehicle")) (by decide) (by decide)))
  replace O := O.wr W3 g_a
  replace K := K.wr W3 (Or.inl (by simp))
  have N3 := Fr.snoc X3 N2 g_a
  refine Goes.to (T' := T3) (mkF m 14 #[.val (.ref a), .val (.ref ca), .val (.ref ve), .val (.double d1), .second, .val (.double d2), .second, .val .null, .val (.double d3), .second] []) st3 ?_
  refine Goes.to (T' := T3) (mkF m 15 #[.val (.ref a), .val (.ref ca), .val (.ref ve), .val (.double d1), .second, .val (.double d2), .second, .val .null, .val (.double d3), .second] [(.ref a)]) (fun t k => XS.aloadN X3.here hx rfl (hb hby d5_14) rfl rfl k) ?_
  refine Goes.to (T' := T3) (mkF m 16 #[.val (.ref a), .val (.ref ca), .val (.ref ve), .val (.double d1), .second, .val (.double d2), .second, .val .null, .val (.double d3), .second] [(.double d1), (.ref a)]) (fun t k => XS.dloadN X3.here hx rfl (hb hby d5_15) rfl k) ?_
  obtain ⟨T4, h4, X4, e4, W4, st4⟩ := putF X3 hx hZ hown (host := "") (Or.inl (hw _ (List.mem_of_getElem? (i := 55) rfl))) Via.refl e3 F_assigned_a E_a (Or.inr ⟨(hw _ (List.mem_of_getElem? (i := 56) rfl)), rfl, hnm⟩) (hw _ (List.mem_of_getElem? (i := 45) rfl)) (ty := .double) (by decide) rfl rfl (g := (mkF m 16 #[.val (.ref a), .val (.ref ca), .val (.ref ve), .val (.double d1), .second, .val (.double d2), .second, .val .null, .val (.double d3), .second] [(.double d1), (.ref a)])) rfl rfl (hb hby d5_16)
  replace E_a := E_a.wr W4
  replace F_call_a := F_call_a.other W4 (Or.inr (slot_ne (Or.inr (hw _ (List.mem_of_getElem? (i := 52) rfl))) (Or.inr (hw _ (List.mem_of_getElem? (i := 56) rfl))) (by decide) (t := (.object "com/example/fleetmarshal/fleetmarshal/Call")) (t' := .double) (by decide) (by decide)))
  replace F_vehicle_a := F_vehicle_a.other W4 (Or.inr (slot_ne (Or.inr (hw _ (List.mem_of_getElem? (i := 54) rfl))) (Or.inr (hw _ (List.mem_of_getElem? (i := 56) rfl))) (by decide) (t := (.object "com/example/fleetmarshal/fleetmarshal/Vehicle")) (t' := .double) (by decide) (by decide)))
  replace F_assigned_a := F_assigned_a.same W4
  replace F_sceneArrival_a := F_sceneArrival_a.other W4 (Or.inr (slot_ne (Or.inr (hw _ (List.mem_of_getElem? (i := 58) rfl))) (Or.inr (hw _ (List.mem_of_getElem? (i := 56) rfl))) (by decide) (t := .double) (t' := .double) (by decide) (by decide)))
  replace F_hospital_a := F_hospital_a.other W4 (Or.inr (slot_ne (Or.inr (hw _ (List.mem_of_getElem? (i := 60) rfl))) (Or.inr (hw _ (List.mem_of_getElem? (i := 56) rfl))) (by decide) (t := (.object "com/example/fleetmarshal/fleetmarshal/Hospital")) (t' := .double) (by decide) (by decide)))
  replace F_hospitalArrival_a := F_hospitalArrival_a.other W4 (Or.inr (slot_ne (Or.inr (hw _ (List.mem_of_getElem? (i := 62) rfl))) (Or.inr (hw _ (List.mem_of_getElem? (i := 56) rfl))) (by decide) (t := .double) (t' := .double) (by decide) (by decide)))
  replace O := O.wr W4 g_a
  replace K := K.wr W4 (Or.inl (by simp))
  have N4 := Fr.snoc X4 N3 g_a
  refine Goes.to (T' := T4) (mkF m 19 #[.val (.ref a), .val (.ref ca), .val (.ref ve), .val (.double d1), .second, .val (.double d2), .second, .val .null, .val (.double d3), .second] []) st4 ?_
  refine Goes.to (T' := T4) (mkF m 20 #[.val (.ref a), .val (.ref ca), .val (.ref ve), .val (.double d1), .second, .val (.double d2), .second, .val .null, .val (.double d3), .second] [(.ref a)]) (fun t k => XS.aloadN X4.here hx rfl (hb hby d5_19) rfl rfl k) ?_
  refine Goes.to (T' := T4) (mkF m 22 #[.val (.ref a), .val (.ref ca), .val (.ref ve), .val (.double d1), .second, .val (.double d2), .second, .val .null, .val (.double d3), .second] [(.double d2), (.ref a)]) (fun t k => XS.dload X4.here hx rfl (hb hby d5_20) rfl k) ?_
  obtain ⟨T5, h5, X5, e5, W5, st5⟩ := putF X4 hx hZ hown (host := "") (Or.inl (hw _ (List.mem_of_getElem? (i := 57) rfl))) Via.refl e4 F_sceneArrival_a E_a (Or.inr ⟨(hw _ (List.mem_of_getElem? (i := 58) rfl)), rfl, hnm⟩) (hw _ (List.mem_of_getElem? (i := 45) rfl)) (ty := .double) (by decide) rfl rfl (g := (mkF m 22 #[.val (.ref a), .val (.ref ca), .val (.ref ve), .val (.double d1), .second, .val (.double d2), .second, .val .null, .val (.double d3), .second] [(.double d2), (.ref a)])) rfl rfl (hb hby d5_22)
  replace E_a := E_a.wr W5
  replace F_call_a := F_call_a.other W5 (Or.inr (slot_ne (Or.inr (hw _ (List.mem_of_getElem? (i := 52) rfl))) (Or.inr (hw _ (List.mem_of_getElem? (i := 58) rfl))) (by decide) (t := (.object "com/example/fleetmarshal/fleetmarshal/Call")) (t' := .double) (by decide) (by decide)))
  replace F_vehicle_a := F_vehicle_a.other W5 (Or.inr (slot_ne (Or.inr (hw _ (List.mem_of_getElem? (i := 54) rfl))) (Or.inr (hw _ (List.mem_of_getElem? (i := 58) rfl))) (by decide) (t := (.object "com/example/fleetmarshal/fleetmarshal/Vehicle")) (t' := .double) (by decide) (by decide)))
  replace F_assigned_a := F_assigned_a.other W5 (Or.inr (slot_ne (Or.inr (hw _ (List.mem_of_getElem? (i := 56) rfl))) (Or.inr (hw _ (List.mem_of_getElem? (i := 58) rfl))) (by decide) (t := .double) (t' := .double) (by decide) (by decide)))
  replace F_sceneArrival_a := F_sceneArrival_a.same W5
  replace F_hospital_a := F_hospital_a.other W5 (Or.inr (slot_ne (Or.inr (hw _ (List.mem_of_getElem? (i := 60) rfl))) (Or.inr (hw _ (List.mem_of_getElem? (i := 58) rfl))) (by decide) (t := (.object "com/example/fleetmarshal/fleetmarshal/Hospital")) (t' := .double) (by decide) (by decide)))
  replace F_hospitalArrival_a := F_hospitalArrival_a.other W5 (Or.inr (slot_ne (Or.inr (hw _ (List.mem_of_getElem? (i := 62) rfl))) (Or.inr (hw _ (List.mem_of_getElem? (i := 58) rfl))) (by decide) (t := .double) (t' := .double) (by decide) (by decide)))
  replace O := O.wr W5 g_a
  replace K := K.wr W5 (Or.inl (by simp))
  have N5 := Fr.snoc X5 N4 g_a
  refine Goes.to (T' := T5) (mkF m 25 #[.val (.ref a), .val (.ref ca), .val (.ref ve), .val (.double d1), .second, .val (.double d2), .second, .val .null, .val (.double d3), .second] []) st5 ?_
  refine Goes.to (T' := T5) (mkF m 26 #[.val (.ref a), .val (.ref ca), .val (.ref ve), .val (.double d1), .second, .val (.double d2), .second, .val .null, .val (.double d3), .second] [(.ref a)]) (fun t k => XS.aloadN X5.here hx rfl (hb hby d5_25) rfl rfl k) ?_
  refine Goes.to (T' := T5) (mkF m 28 #[.val (.ref a), .val (.ref ca), .val (.ref ve), .val (.double d1), .second, .val (.double d2), .second, .val .null, .val (.double d3), .second] [.null, (.ref a)]) (fun t k => XS.aload X5.here hx rfl (hb hby d5_26) rfl rfl k) ?_
  obtain ⟨T6, h6, X6, e6, W6, st6⟩ := putF X5 hx hZ hown (host := "") (Or.inl (hw _ (List.mem_of_getElem? (i := 59) rfl))) Via.refl e5 F_hospital_a E_a (Or.inr ⟨(hw _ (List.mem_of_getElem? (i := 60) rfl)), rfl, hnm⟩) (hw _ (List.mem_of_getElem? (i := 45) rfl)) (ty := (.object "com/example/fleetmarshal/fleetmarshal/Hospital")) (by decide) rfl rfl (g := (mkF m 28 #[.val (.ref a), .val (.ref ca), .val (.ref ve), .val (.double d1), .second, .val (.double d2), .second, .val .null, .val (.double d3), .second] [.null, (.ref a)])) rfl rfl (hb hby d5_28)
  replace E_a := E_a.wr W6
  replace F_call_a := F_call_a.other W6 (Or.inr (slot_ne (Or.inr (hw _ (List.mem_of_getElem? (i := 52) rfl))) (Or.inr (hw _ (List.mem_of_getElem? (i := 60) rfl))) (by decide) (t := (.object "com/example/fleetmarshal/fleetmarshal/Call")) (t' := (.object "com/example/fleetmarshal/fleetmarshal/Hospital")) (by decide) (by decide)))
  replace F_vehicle_a := F_vehicle_a.other W6 (Or.inr (slot_ne (Or.inr (hw _ (List.mem_of_getElem? (i := 54) rfl))) (Or.inr (hw _ (List.mem_of_getElem? (i := 60) rfl))) (by decide) (t := (.object "com/example/fleetmarshal/fleetmarshal/Vehicle")) (t' := (.object "com/example/fleetmarshal/fleetmarshal/Hospital")) (by decide) (by decide)))
  replace F_assigned_a := F_assigned_a.other W6 (Or.inr (slot_ne (Or.inr (hw _ (List.mem_of_getElem? (i := 56) rfl))) (Or.inr (hw _ (List.mem_of_getElem? (i := 60) rfl))) (by decide) (t := .double) (t' := (.object "com/example/fleetmarshal/fleetmarshal/Hospital")) (by decide) (by decide)))
  replace F_sceneArrival_a := F_sceneArrival_a.other W6 (Or.inr (slot_ne (Or.inr (hw _ (List.mem_of_getElem? (i := 58) rfl))) (Or.inr (hw _ (List.mem_of_getElem? (i := 60) rfl))) (by decide) (t := .double) (t' := (.object "com/example/fleetmarshal/fleetmarshal/Hospital")) (by decide) (by decide)))
  replace F_hospital_a := F_hospital_a.same W6
  replace F_hospitalArrival_a := F_hospitalArrival_a.other W6 (Or.inr (slot_ne (Or.inr (hw _ (List.mem_of_getElem? (i := 62) rfl))) (Or.inr (hw _ (List.mem_of_getElem? (i := 60) rfl))) (by decide) (t := .double) (t' := (.object "com/example/fleetmarshal/fleetmarshal/Hospital")) (by decide) (by decide)))
  replace O := O.wr W6 g_a
  replace K := K.wr W6 (Or.inl (by simp))
  have N6 := Fr.snoc X6 N5 g_a
  refine Goes.to (T' := T6) (mkF m 31 #[.val (.ref a), .val (.ref ca), .val (.ref ve), .val (.double d1), .second, .val (.double d2), .second, .val .null, .val (.double d3), .second] []) st6 ?_
  refine Goes.to (T' := T6) (mkF m 32 #[.val (.ref a), .val (.ref ca), .val (.ref ve), .val (.double d1), .second, .val (.double d2), .second, .val .null, .val (.double d3), .second] [(.ref a)]) (fun t k => XS.aloadN X6.here hx rfl (hb hby d5_31) rfl rfl k) ?_
  refine Goes.to (T' := T6) (mkF m 34 #[.val (.ref a), .val (.ref ca), .val (.ref ve), .val (.double d1), .second, .val (.double d2), .second, .val .null, .val (.double d3), .second] [(.double d3), (.ref a)]) (fun t k => XS.dload X6.here hx rfl (hb hby d5_32) rfl k) ?_
  obtain ⟨T7, h7, X7, e7, W7, st7⟩ := putF X6 hx hZ hown (host := "") (Or.inl (hw _ (List.mem_of_getElem? (i := 61) rfl))) Via.refl e6 F_hospitalArrival_a E_a (Or.inr ⟨(hw _ (List.mem_of_getElem? (i := 62) rfl)), rfl, hnm⟩) (hw _ (List.mem_of_getElem? (i := 45) rfl)) (ty := .double) (by decide) rfl rfl (g := (mkF m 34 #[.val (.ref a), .val (.ref ca), .val (.ref ve), .val (.double d1), .second, .val (.double d2), .second, .val .null, .val (.double d3), .second] [(.double d3), (.ref a)])) rfl rfl (hb hby d5_34)
  replace E_a := E_a.wr W7
  replace F_call_a := F_call_a.other W7 (Or.inr (slot_ne (Or.inr (hw _ (List.mem_of_getElem? (i := 52) rfl))) (Or.inr (hw _ (List.mem_of_getElem? (i := 62) rfl))) (by decide) (t := (.object "com/example/fleetmarshal/fleetmarshal/Call")) (t' := .double) (by decide) (by decide)))
  replace F_vehicle_a := F_vehicle_a.other W7 (Or.inr (slot_ne (Or.inr (hw _ (List.mem_of_getElem? (i := 54) rfl))) (Or.inr (hw _ (List.mem_of_getElem? (i := 62) rfl))) (by decide) (t := (.object "com/example/fleetmarshal/fleetmarshal/Vehicle")) (t' := .double) (by decide) (by decide)))
  replace F_assigned_a := F_assigned_a.other W7 (Or.inr (slot_ne (Or.inr (hw _ (List.mem_of_getElem? (i := 56) rfl))) (Or.inr (hw _ (List.mem_of_getElem? (i := 62) rfl))) (by decide) (t := .double) (t' := .double) (by decide) (by decide)))
  replace F_sceneArrival_a := F_sceneArrival_a.other W7 (Or.inr (slot_ne (Or.inr (hw _ (List.mem_of_getElem? (i := 58) rfl))) (Or.inr (hw _ (List.mem_of_getElem? (i := 62) rfl))) (by decide) (t := .double) (t' := .double) (by decide) (by decide)))
  replace F_hospital_a := F_hospital_a.other W7 (Or.inr (slot_ne (Or.inr (hw _ (List.mem_of_getElem? (i := 60) rfl))) (Or.inr (hw _ (List.mem_of_getElem? (i := 62) rfl))) (by decide) (t := (.object "com/example/fleetmarshal/fleetmarshal/Hospital")) (t' := .double) (by decide) (by decide)))
  replace F_hospitalArrival_a := F_hospitalArrival_a.same W7
  replace O := O.wr W7 g_a
  replace K := K.wr W7 (Or.inl (by simp))
  have N7 := Fr.snoc X7 N6 g_a
  refine Goes.to (T' := T7) (mkF m 37 #[.val (.ref a), .val (.ref ca), .val (.ref ve), .val (.double d1), .second, .val (.double d2), .second, .val .null, .val (.double d3), .second] []) st7 ?_
  refine Goes.retV X7 hx Bd.notSynchronized Bd.returns (hb hby d5_37) (by decide) (by decide) ?_
  rw [e7]
  exact ⟨rfl, N7, K, F_call_a, F_sceneArrival_a⟩
theorem ef_rm_rel (m : MethodId) (x0 : Addr) : entryFrame m #[(.ref x0)] 1 = mkF m 0 #[.val (.ref x0)] [] := by first | (simp [entryFrame, mkF, argsToLocals, Value.category]; done) | rfl
def Q_rm_rel (Z : State) (a : Addr) (d1 : UInt64) (h0 : Heap) (n0 : Nat) (v : Option Value) (h : Heap) (L : List Loc) : Prop := v = some (.double d1) ∧ Fr n0 L ∧ h = h0
theorem d7_0 : decode prog_1_method_8_code 0 = .ok (.aload_n 0, 1) := by decide +kernel
theorem d7_1 : decode prog_1_method_8_code 1 = .ok (.getfield 13, 3) := by decide +kernel
theorem d7_4 : decode prog_1_method_8_code 4 = .ok (.dreturn, 1) := by decide +kernel
set_option maxRecDepth 65536 in
set_option maxHeartbeats 40000000 in
theorem rm_rel (l : Launch) (Z : State) (a0 : Array Value) (hw : ∀ d ∈ tables_1, d.before a0 Z = true) (ws : List Jvm.Cond) (a : Addr) (d1 : UInt64) (h0 : Heap) (n0 : Nat) (O : Old Z n0 h0) (F_a : Fld Z h0 a "com/example/fleetmarshal/fleetmarshal/Call" "release" "D" (.double d1)) :
    MetFree l (⟨"com/example/fleetmarshal/fleetmarshal/Call", "release", "()D"⟩ : MethodName) (head1 (Jvm.Cond.code (⟨"com/example/fleetmarshal/fleetmarshal/Call", "release", "()D"⟩ : MethodName) prog_1_method_8_code 1 (some .double) :: ws) ({ frames := 0, cells := 0, slots := 0, locals := 0 } : Room)) (fun aa U => aa = #[(.ref a)] ∧ Z.Warmed39 U.vm ∧ U.heap = h0) (fun _ _ _ _ _ => True) (fun _ U o U' => ∃ v L, o = .returned v ∧ Q_rm_rel Z a d1 h0 n0 v U'.heap L ∧ FrameEnd U o U' L ({ frames := 0, cells := 0, slots := 0, locals := 0 } : Room).cells ({ frames := 0, cells := 0, slots := 0, locals := 0 } : Room).slots) := by
  refine MetFree.of_bodySF (plainFor_of_name pn_com_example_fleetmarshal_fleetmarshal_Call) hisR ?_
  intro p e s m args below meth c s₁ Bd hml0 hP hK
  obtain ⟨rfl, hZ, hh⟩ := hP
  have hx := Bd.exec
  have hby := Bd.bytes
  have hml : c.maxLocals = 1 := hml0
  have hown : s.vm.findClass "com/example/fleetmarshal/fleetmarshal/Call" = some m.cls := findClass_of_methodNamed Bd.named
  have hnm := (name_of_methodNamed Bd.named Bd.method).1
  have X0 : Stand p l e ({ frames := 0, cells := 0, slots := 0, locals := 0 } : Room) s m #[(.ref a)] below meth c s₁ [] 0 0 := Stand.of_body Bd
  have e0 : s₁.heap = h0 := by rw [← hh, Bd.state]; rfl
  have N0 := Fr.nil n0
  show Goes p e below s FrameEnd ({ frames := 0, cells := 0, slots := 0, locals := 0 } : Room).cells ({ frames := 0, cells := 0, slots := 0, locals := 0 } : Room).slots (Q_rm_rel Z a d1 h0 n0) s₁ (entryFrame m #[(.ref a)] 1)
  refine Goes.cast (ef_rm_rel m a) ?_
  refine Goes.to (T' := s₁) (mkF m 1 #[.val (.ref a)] [(.ref a)]) (fun t k => XS.aloadN X0.here hx rfl (hb hby d7_0) rfl rfl k) ?_
  obtain ⟨T1, X1, e1, st1⟩ := getF X0 hx hZ hown (host := "") (Or.inl (hw _ (List.mem_of_getElem? (i := 24) rfl))) Via.refl e0 F_a (g := (mkF m 1 #[.val (.ref a)] [(.ref a)])) rfl rfl (hb hby d7_1)
  refine Goes.to (T' := T1) (mkF m 4 #[.val (.ref a)] [(.double d1)]) st1 ?_
  refine Goes.retD X1 hx Bd.notSynchronized Bd.returns (hb hby d7_4) (by decide) (by decide) ?_
  rw [e1]
  exact ⟨rfl, N0, rfl⟩
theorem own_b53 (x : Int32) : B53 x.toInt64 := by
  have h := rng32 x
  unfold B53
  rw [c_i2l]
  omega
theorem ef_rm_resp (m : MethodId) (x0 : Addr) : entryFrame m #[(.ref x0)] 1 = mkF m 0 #[.val (.ref x0)] [] := by first | (simp [entryFrame, mkF, argsToLocals, Value.category]; done) | rfl
def Q_rm_resp (Z : State) (a ca : Addr) (x y : Int32) (h0 : Heap) (n0 : Nat) (v : Option Value) (h : Heap) (L : List Loc) : Prop := v = some (.double (FP.l2d (x.toInt64 - y.toInt64))) ∧ Fr n0 L ∧ h = h0
theorem d6_0 : decode prog_4_method_2_code 0 = .ok (.aload_n 0, 1) := by decide +kernel
theorem d6_1 : decode prog_4_method_2_code 1 = .ok (.getfield 21, 3) := by decide +kernel
theorem d6_4 : decode prog_4_method_2_code 4 = .ok (.aload_n 0, 1) := by decide +kernel
theorem d6_5 : decode prog_4_method_2_code 5 = .ok (.getfield 7, 3) := by decide +kernel
theorem d6_8 : decode prog_4_method_2_code 8 = .ok (.invokevirtual 31, 3) := by decide +kernel
theorem pd_1 : parseMethodDescriptor "()D" = some ⟨[], some .double⟩ := by decide +kernel
theorem d6_11 : decode prog_4_method_2_code 11 = .ok (.dsub, 1) := by decide +kernel
theorem d6_12 : decode prog_4_method_2_code 12 = .ok (.dreturn, 1) := by decide +kernel
set_option maxRecDepth 65536 in
set_option maxHeartbeats 40000000 in
theorem rm_resp (l : Launch) (Z : State) (a0 : Array Value) (hw : ∀ d ∈ tables_1, d.before a0 Z = true) (ws : List Jvm.Cond) (a ca : Addr) (x y : Int32) (h0 : Heap) (n0 : Nat) (O : Old Z n0 h0) (F_s : Fld Z h0 a "com/example/fleetmarshal/fleetmarshal/CallOutcome" "sceneArrival" "D" (.double (FP.l2d x.toInt64))) (F_c : Fld Z h0 a "com/example/fleetmarshal/fleetmarshal/CallOutcome" "call" "Lcom/example/fleetmarshal/fleetmarshal/Call;" (.ref ca)) (F_r : Fld Z h0 ca "com/example/fleetmarshal/fleetmarshal/Call" "release" "D" (.double (FP.l2d y.toInt64))) (E_ca : Exa Z h0 ca "com/example/fleetmarshal/fleetmarshal/Call") :
    MetFree l (⟨"com/example/fleetmarshal/fleetmarshal/CallOutcome", "response", "()D"⟩ : MethodName) (head1 (Jvm.Cond.code (⟨"com/example/fleetmarshal/fleetmarshal/CallOutcome", "response", "()D"⟩ : MethodName) prog_4_method_2_code 1 (some .double) :: ws) ({ frames := 1, cells := 0, slots := 0, locals := 14 } : Room)) (fun aa U => aa = #[(.ref a)] ∧ Z.Warmed39 U.vm ∧ U.heap = h0) (fun _ _ _ _ _ => True) (fun _ U o U' => ∃ v L, o = .returned v ∧ Q_rm_resp Z a ca x y h0 n0 v U'.heap L ∧ FrameEnd U o U' L ({ frames := 1, cells := 0, slots := 0, locals := 14 } : Room).cells ({ frames := 1, cells := 0, slots := 0, locals := 14 } : Room).slots) := by
  refine MetFree.of_bodySF (plainFor_of_name pn_com_example_fleetmarshal_fleetmarshal_CallOutcome) hisR ?_
  intro p e s m args below meth c s₁ Bd hml0 hP hK
  obtain ⟨rfl, hZ, hh⟩ := hP
  have hx := Bd.exec
  have hby := Bd.bytes
  have hml : c.maxLocals = 1 := hml0
  have hown : s.vm.findClass "com/example/fleetmarshal/fleetmarshal/CallOutcome" = some m.cls := findClass_of_methodNamed Bd.named
  have hnm := (name_of_methodNamed Bd.named Bd.method).1
  have X0 : Stand p l e ({ frames := 1, cells := 0, slots := 0, locals := 14 } : Room) s m #[(.ref a)] below meth c s₁ [] 0 0 := Stand.of_body Bd
  have e0 : s₁.heap = h0 := by rw [← hh, Bd.state]; rfl
  have N0 := Fr.nil n0
  show Goes p e below s FrameEnd ({ frames := 1, cells := 0, slots := 0, locals := 14 } : Room).cells ({ frames := 1, cells := 0, slots := 0, locals := 14 } : Room).slots (Q_rm_resp Z a ca x y h0 n0) s₁ (entryFrame m #[(.ref a)] 1)
  refine Goes.cast (ef_rm_resp m a) ?_
  refine Goes.to (T' := s₁) (mkF m 1 #[.val (.ref a)] [(.ref a)]) (fun t k => XS.aloadN X0.here hx rfl (hb hby d6_0) rfl rfl k) ?_
  obtain ⟨T1, X1, e1, st1⟩ := getF X0 hx hZ hown (host := "") (Or.inl (hw _ (List.mem_of_getElem? (i := 57) rfl))) Via.refl e0 F_s (g := (mkF m 1 #[.val (.ref a)] [(.ref a)])) rfl rfl (hb hby d6_1)
  refine Goes.to (T' := T1) (mkF m 4 #[.val (.ref a)] [(.double (FP.l2d x.toInt64))]) st1 ?_
  refine Goes.to (T' := T1) (mkF m 5 #[.val (.ref a)] [(.ref a), (.double (FP.l2d x.toInt64))]) (fun t k => XS.aloadN X1.here hx rfl (hb hby d6_4) rfl rfl k) ?_
  obtain ⟨T2, X2, e2, st2⟩ := getF X1 hx hZ hown (host := "") (Or.inl (hw _ (List.mem_of_getElem? (i := 51) rfl))) Via.refl e1 F_c (g := (mkF m 5 #[.val (.ref a)] [(.ref a), (.double (FP.l2d x.toInt64))])) rfl rfl (hb hby d6_5)
  refine Goes.to (T' := T2) (mkF m 8 #[.val (.ref a)] [(.ref ca), (.double (FP.l2d x.toInt64))]) st2 ?_
  obtain ⟨cq3, kq3, q3a, q3b, q3c⟩ := isOf hZ e2 E_ca
  obtain ⟨_, _, ⟨T3, L3, k3, n3⟩, -, X3, ⟨Lc3, hQ3, l3, y3, z3⟩, st3⟩ := X2.virtualBack hx (y := (⟨"com/example/fleetmarshal/fleetmarshal/Call", "release", "()D"⟩ : MethodName)) (z := (⟨"com/example/fleetmarshal/fleetmarshal/Call", "release", "()D"⟩ : MethodName)) hown (mvT hZ (hw _ (List.mem_of_getElem? (i := 68) rfl))) (mvT hZ (hw _ (List.mem_of_getElem? (i := 69) rfl))) (notFace_of_selects (args := #[]) (mvT hZ (hw _ (List.mem_of_getElem? (i := 71) rfl)))) (mvT hZ (hw _ (List.mem_of_getElem? (i := 71) rfl))) (mvT hZ (hw _ (List.mem_of_getElem? (i := 70) rfl))) (by decide) (backOf (W := 2) (rm_rel l Z a0 hw [] ca _ h0 n0 O F_r) hZ (hw _ (List.mem_of_getElem? (i := 72) rfl)) (hw _ (List.mem_of_getElem? (i := 2) rfl)) (by decide) (by decide)) q3a q3c (g := (mkF m 8 #[.val (.ref a)] [(.ref ca), (.double (FP.l2d x.toInt64))])) rfl (by rw [hml]; rfl) (Steps.refl _) (argsL := []) (rest := [(.double (FP.l2d x.toInt64))]) (lenOf pd_1 rfl) rfl (by show 2 * 0 + _ ≤ _; exact Nat.le_of_eq rfl) (hb hby d6_8) (fun _ _ => ⟨rfl, e2, (by decide : 0 + 0 ≤ _), (by decide : 0 + 0 ≤ _)⟩)
  dsimp only [Pt.U, Pt.locs, Pt.cells, Pt.slots] at X3 l3 y3 z3 st3 hQ3
  subst l3 y3 z3
  obtain ⟨rfl, N3, hs3⟩ := hQ3
  have N3' := Fr.app N0 N3
  refine Goes.to (T' := T3) (mkF m 11 #[.val (.ref a)] [(.double (FP.l2d y.toInt64)), (.double (FP.l2d x.toInt64))]) (fun t k => st3.trans k) ?_
  refine Goes.to (T' := T3) (mkF m 12 #[.val (.ref a)] [(.double (FP.l2d (x.toInt64 - y.toInt64)))]) (fun t k => XS.dsubS X3.here hx rfl (hb hby d6_11) rfl (nn_w (dsub_w (own_b53 x) (own_b53 y))) (dsub_w (own_b53 x) (own_b53 y)) k) ?_
  refine Goes.retD X3 hx Bd.notSynchronized Bd.returns (hb hby d6_12) (by decide) (by decide) ?_
  rw [hs3]
  exact ⟨rfl, N3', rfl⟩
theorem pn_com_example_fleetmarshal_fleetmarshal_CallOutcomeResponsePinLaw : plainName "com/example/fleetmarshal/fleetmarshal/CallOutcomeResponsePinLaw" = true := by first | (simp [plainName, overriddenIn]; done) | decide +kernel
theorem ef_rm_law (m : MethodId) (x0 : Int32) (x1 : Int32) (x2 : Int32) (x3 : Int32) (x4 : Int32) : entryFrame m #[(.int x0), (.int x1), (.int x2), (.int x3), (.int x4)] maxLocals = mkF m 0 #[.val (.int x0), .val (.int x1), .val (.int x2), .val (.int x3), .val (.int x4), .unset, .unset, .unset, .unset, .unset] [] := by first | (simp [entryFrame, mkF, argsToLocals, Value.category, maxLocals]; done) | rfl
def Q_rm_law (Z : State) (re sc asg ho ons : Int32) (h0 : Heap) (n0 : Nat) (v : Option Value) (h : Heap) (L : List Loc) : Prop := v = some (.int 1) ∧ Fr n0 L
theorem own_strs : ∀ a ∈ Bundle.stringAtoms, a ∈ tables_1 := by decide +kernel
theorem pd_2 : parseMethodDescriptor "(Ljava/lang/String;DID)V" = some ⟨[(.object "java/lang/String"), .double, .int, .double], none⟩ := by decide +kernel
theorem pd_3 : parseMethodDescriptor "(Ljava/lang/String;II)V" = some ⟨[(.object "java/lang/String"), .int, .int], none⟩ := by decide +kernel
theorem pd_4 : parseMethodDescriptor "(Lcom/example/fleetmarshal/fleetmarshal/Call;Lcom/example/fleetmarshal/fleetmarshal/Vehicle;DDLcom/example/fleetmarshal/fleetmarshal/Hospital;D)V" = some ⟨[(.object "com/example/fleetmarshal/fleetmarshal/Call"), (.object "com/example/fleetmarshal/fleetmarshal/Vehicle"), .double, .double, (.object "com/example/fleetmarshal/fleetmarshal/Hospital"), .double], none⟩ := by decide +kernel
set_option maxRecDepth 65536 in
set_option maxHeartbeats 40000000 in
theorem rm_law (l : Launch) (Z : State) (a0 : Array Value) (hw : ∀ d ∈ tables_1, d.before a0 Z = true) (ws : List Jvm.Cond) (re sc asg ho ons : Int32) (h0 : Heap) (n0 : Nat) (O : Old Z n0 h0) :
    MetFree l x (head1 (Jvm.Cond.code x code maxLocals ret :: ws) room_1) (fun aa U => aa = #[(.int re), (.int sc), (.int asg), (.int ho), (.int ons)] ∧ Z.Warmed39 U.vm ∧ U.heap = h0) (fun _ _ _ _ _ => True) (fun _ U o U' => ∃ v L, o = .returned v ∧ Q_rm_law Z re sc asg ho ons h0 n0 v U'.heap L ∧ ReturnedEndW U o U' L room_1.cells room_1.slots) := by
  refine MetFree.of_bodySF (plainFor_of_name pn_com_example_fleetmarshal_fleetmarshal_CallOutcomeResponsePinLaw) hisR ?_
  intro p e s m args below meth c s₁ Bd hml0 hP hK
  obtain ⟨rfl, hZ, hh⟩ := hP
  have hx := Bd.exec
  have hby := Bd.bytes
  have hml : c.maxLocals = 10 := hml0
  have hown : s.vm.findClass "com/example/fleetmarshal/fleetmarshal/CallOutcomeResponsePinLaw" = some m.cls := findClass_of_methodNamed Bd.named
  have hnm := (name_of_methodNamed Bd.named Bd.method).1
  have X0 : Stand p l e room_1 (s.setVm s.vm) m #[(.int re), (.int sc), (.int asg), (.int ho), (.int ons)] below meth c s₁ [] 0 0 := Stand.of_body Bd
  have e0 : s₁.heap = h0 := by rw [← hh, Bd.state]; rfl
  have N0 := Fr.nil n0
  have hS0 : s.Since s.vm 0 := (State.WarmedH.refl s).since 0
  have hk0 : 0 ≤ h0.size := Nat.zero_le _
  replace hZ : Z.Warmed39 (s.setVm s.vm).vm := hZ
  replace hown : (s.setVm s.vm).vm.findClass "com/example/fleetmarshal/fleetmarshal/CallOutcomeResponsePinLaw" = some m.cls := hown
  show Goes p e below s ReturnedEndW room_1.cells room_1.slots (Q_rm_law Z re sc asg ho ons h0 n0) s₁ (entryFrame m #[(.int re), (.int sc), (.int asg), (.int ho), (.int ons)] maxLocals)
  refine Goes.cast (ef_rm_law m re sc asg ho ons) ?_
  obtain ⟨T1, h1, X1, e1, E1, A1, D1, -, st1⟩ := newO X0 hx hZ hown (hw _ (List.mem_of_getElem? (i := 0) rfl)) (hw _ (List.mem_of_getElem? (i := 1) rfl)) (hw _ (List.mem_of_getElem? (i := 2) rfl)) e0 (g := (mkF m 0 #[.val (.int re), .val (.int sc), .val (.int asg), .val (.int ho), .val (.int ons), .unset, .unset, .unset, .unset, .unset] [])) rfl (hb hby at_0) (by decide) (by decide)
  obtain ⟨b1, g1⟩ : ∃ z, z = h0.size := ⟨_, rfl⟩
  rw [← g1] at A1 D1 st1
  have g_b1 : n0 ≤ b1 := Nat.le_trans (O.1 ▸ O.2.1) (Nat.le_of_eq g1.symm)
  replace O := O.ext E1
  replace hk0 := Nat.le_trans hk0 E1.1
  have E_b1 : Exa Z h1 b1 "com/example/fleetmarshal/fleetmarshal/Call" := A1
  have F_id_b1 : Fld Z h1 b1 "com/example/fleetmarshal/fleetmarshal/Call" "id" "Ljava/lang/String;" .null := D1 (Or.inr (hw _ (List.mem_of_getElem? (i := 23) rfl))) (ty := (.object "java/lang/String")) (by decide)
  have F_release_b1 : Fld Z h1 b1 "com/example/fleetmarshal/fleetmarshal/Call" "release" "D" (.double 0) := D1 (Or.inr (hw _ (List.mem_of_getElem? (i := 25) rfl))) (ty := .double) (by decide)
  have F_scene_b1 : Fld Z h1 b1 "com/example/fleetmarshal/fleetmarshal/Call" "scene" "I" (.int (0 : Int32)) := D1 (Or.inr (hw _ (List.mem_of_getElem? (i := 27) rfl))) (ty := .int) (by decide)
  have F_onScene_b1 : Fld Z h1 b1 "com/example/fleetmarshal/fleetmarshal/Call" "onScene" "D" (.double 0) := D1 (Or.inr (hw _ (List.mem_of_getElem? (i := 29) rfl))) (ty := .double) (by decide)
  refine Goes.to (T' := T1) (mkF m 3 #[.val (.int re), .val (.int sc), .val (.int asg), .val (.int ho), .val (.int ons), .unset, .unset, .unset, .unset, .unset] [(.ref b1)]) st1 ?_
  refine Goes.to (T' := T1) (mkF m 4 #[.val (.int re), .val (.int sc), .val (.int asg), .val (.int ho), .val (.int ons), .unset, .unset, .unset, .unset, .unset] [(.ref b1), (.ref b1)]) (fun t k => XS.dup X1.here hx rfl (hb hby at_3) rfl rfl k) ?_
  obtain ⟨str2, T2, h2, k2, X2, e2, E2, hS2, hk2, hZ2, hown2, st2⟩ := ldcS X1 hx hZ hown (hw _ (List.mem_of_getElem? (i := 3) rfl)) (fun a ha => hw a (own_strs a ha)) e1 hS0 hk0 (g := (mkF m 4 #[.val (.int re), .val (.int sc), .val (.int asg), .val (.int ho), .val (.int ons), .unset, .unset, .unset, .unset, .unset] [(.ref b1), (.ref b1)])) rfl (hb hby at_4) (n := 4) (by decide) (by decide) (by decide) (by decide)
  replace O := O.ext E2
  replace E_b1 := E_b1.ext E2
  replace F_id_b1 := F_id_b1.ext E2
  replace F_release_b1 := F_release_b1.ext E2
  replace F_scene_b1 := F_scene_b1.ext E2
  replace F_onScene_b1 := F_onScene_b1.ext E2
  replace hS0 := hS2
  replace hk0 := hk2
  replace hZ := hZ2
  replace hown := hown2
  refine Goes.to (T' := T2) (mkF m 6 #[.val (.int re), .val (.int sc), .val (.int asg), .val (.int ho), .val (.int ons), .unset, .unset, .unset, .unset, .unset] [(.ref str2), (.ref b1), (.ref b1)]) st2 ?_
  refine Goes.to (T' := T2) (mkF m 7 #[.val (.int re), .val (.int sc), .val (.int asg), .val (.int ho), .val (.int ons), .unset, .unset, .unset, .unset, .unset] [(.int re), (.ref str2), (.ref b1), (.ref b1)]) (fun t k => XS.iloadN X2.here hx rfl (hb hby at_6) rfl k) ?_
  refine Goes.to (T' := T2) (mkF m 8 #[.val (.int re), .val (.int sc), .val (.int asg), .val (.int ho), .val (.int ons), .unset, .unset, .unset, .unset, .unset] [(.double (FP.l2d re.toInt64)), (.ref str2), (.ref b1), (.ref b1)]) (fun t k => XS.i2dS X2.here hx rfl (hb hby at_7) rfl (i2d_w _) k) ?_
  refine Goes.to (T' := T2) (mkF m 9 #[.val (.int re), .val (.int sc), .val (.int asg), .val (.int ho), .val (.int ons), .unset, .unset, .unset, .unset, .unset] [(.int (0 : Int32)), (.double (FP.l2d re.toInt64)), (.ref str2), (.ref b1), (.ref b1)]) (fun t k => XS.iconst X2.here hx rfl (hb hby at_8) k) ?_
  refine Goes.to (T' := T2) (mkF m 11 #[.val (.int re), .val (.int sc), .val (.int asg), .val (.int ho), .val (.int ons), .unset, .unset, .unset, .unset, .unset] [(.int ons), (.int (0 : Int32)), (.double (FP.l2d re.toInt64)), (.ref str2), (.ref b1), (.ref b1)]) (fun t k => XS.iload X2.here hx rfl (hb hby at_9) rfl k) ?_
  refine Goes.to (T' := T2) (mkF m 12 #[.val (.int re), .val (.int sc), .val (.int asg), .val (.int ho), .val (.int ons), .unset, .unset, .unset, .unset, .unset] [(.double (FP.l2d ons.toInt64)), (.int (0 : Int32)), (.double (FP.l2d re.toInt64)), (.ref str2), (.ref b1), (.ref b1)]) (fun t k => XS.i2dS X2.here hx rfl (hb hby at_11) rfl (i2d_w _) k) ?_
  obtain ⟨_, _, ⟨T3, L3, k3, n3⟩, -, X3, ⟨Lc3, hQ3, l3, y3, z3⟩, st3⟩ := X2.specialBack hx (y := (⟨"com/example/fleetmarshal/fleetmarshal/Call", "<init>", "(Ljava/lang/String;DID)V"⟩ : MethodName)) rfl hown (mvT hZ (hw _ (List.mem_of_getElem? (i := 11) rfl))) (mvT hZ (hw _ (List.mem_of_getElem? (i := 12) rfl))) (mvT hZ (hw _ (List.mem_of_getElem? (i := 13) rfl))) (by decide) (backOf (W := 1) (rm_call l Z a0 hw [] b1 str2 (FP.l2d re.toInt64) (0 : Int32) (FP.l2d ons.toInt64) _ _ _ _ h2 n0 O F_id_b1 F_release_b1 F_scene_b1 F_onScene_b1 E_b1 g_b1) hZ (hw _ (List.mem_of_getElem? (i := 13) rfl)) (hw _ (List.mem_of_getElem? (i := 2) rfl)) (by decide) (by decide)) (g := (mkF m 12 #[.val (.int re), .val (.int sc), .val (.int asg), .val (.int ho), .val (.int ons), .unset, .unset, .unset, .unset, .unset] [(.double (FP.l2d ons.toInt64)), (.int (0 : Int32)), (.double (FP.l2d re.toInt64)), (.ref str2), (.ref b1), (.ref b1)])) rfl (by rw [hml]; rfl) (Steps.refl _) (a := b1) (argsL := [(.ref str2), (.double (FP.l2d re.toInt64)), (.int (0 : Int32)), (.double (FP.l2d ons.toInt64))]) (rest := [(.ref b1)]) (lenOf pd_2 rfl) rfl (by show 2 * 0 + _ ≤ _; exact Nat.le_of_eq rfl) (hb hby at_12) (fun _ _ => ⟨rfl, e2, (by decide : 3 + 0 ≤ _), (by decide : 12 + 0 ≤ _)⟩)
  dsimp only [Pt.U, Pt.locs, Pt.cells, Pt.slots] at X3 l3 y3 z3 st3 hQ3
  subst l3 y3 z3
  obtain ⟨rfl, N3, K3, F_release_b1⟩ := hQ3
  have N3' := Fr.app N0 N3
  replace E_b1 := E_b1.keep K3
  replace O := O.keep K3 (allS g_b1 all0)
  replace hk0 := Nat.le_trans hk0 K3.1
  refine Goes.to (T' := T3) (mkF m 15 #[.val (.int re), .val (.int sc), .val (.int asg), .val (.int ho), .val (.int ons), .unset, .unset, .unset, .unset, .unset] [(.ref b1)]) (fun t k => st3.trans k) ?_
  refine Goes.to (T' := T3) (mkF m 17 #[.val (.int re), .val (.int sc), .val (.int asg), .val (.int ho), .val (.int ons), .val (.ref b1), .unset, .unset, .unset, .unset] []) (fun t k => XS.astore X3.here hx rfl (hb hby at_15) rfl rfl (l' := #[.val (.int re), .val (.int sc), .val (.int asg), .val (.int ho), .val (.int ons), .val (.ref b1), .unset, .unset, .unset, .unset]) rfl k) ?_
  obtain ⟨T4, h4, X4, e4, E4, A4, D4, -, st4⟩ := newO X3 hx hZ hown (hw _ (List.mem_of_getElem? (i := 30) rfl)) (hw _ (List.mem_of_getElem? (i := 31) rfl)) (hw _ (List.mem_of_getElem? (i := 32) rfl)) rfl (g := (mkF m 17 #[.val (.int re), .val (.int sc), .val (.int asg), .val (.int ho), .val (.int ons), .val (.ref b1), .unset, .unset, .unset, .unset] [])) rfl (hb hby at_17) (by decide) (by decide)
  obtain ⟨b4, g4⟩ : ∃ z, z = T3.heap.size := ⟨_, rfl⟩
  rw [← g4] at A4 D4 st4
  have g_b4 : n0 ≤ b4 := Nat.le_trans (O.1 ▸ O.2.1) (Nat.le_of_eq g4.symm)
  have ne_b1_b4 : b1 ≠ b4 := Nat.ne_of_lt (Nat.lt_of_lt_of_le E_b1.lt (Nat.le_of_eq g4.symm))
  replace O := O.ext E4
  replace hk0 := Nat.le_trans hk0 E4.1
  replace E_b1 := E_b1.ext E4
  replace F_release_b1 := F_release_b1.ext E4
  have E_b4 : Exa Z h4 b4 "com/example/fleetmarshal/fleetmarshal/Vehicle" := A4
  have F_id_b4 : Fld Z h4 b4 "com/example/fleetmarshal/fleetmarshal/Vehicle" "id" "Ljava/lang/String;" .null := D4 (Or.inr (hw _ (List.mem_of_getElem? (i := 39) rfl))) (ty := (.object "java/lang/String")) (by decide)
  have F_start_b4 : Fld Z h4 b4 "com/example/fleetmarshal/fleetmarshal/Vehicle" "start" "I" (.int (0 : Int32)) := D4 (Or.inr (hw _ (List.mem_of_getElem? (i := 41) rfl))) (ty := .int) (by decide)
  have F_capacity_b4 : Fld Z h4 b4 "com/example/fleetmarshal/fleetmarshal/Vehicle" "capacity" "I" (.int (0 : Int32)) := D4 (Or.inr (hw _ (List.mem_of_getElem? (i := 43) rfl))) (ty := .int) (by decide)
  refine Goes.to (T' := T4) (mkF m 20 #[.val (.int re), .val (.int sc), .val (.int asg), .val (.int ho), .val (.int ons), .val (.ref b1), .unset, .unset, .unset, .unset] [(.ref b4)]) st4 ?_
  refine Goes.to (T' := T4) (mkF m 21 #[.val (.int re), .val (.int sc), .val (.int asg), .val (.int ho), .val (.int ons), .val (.ref b1), .unset, .unset, .unset, .unset] [(.ref b4), (.ref b4)]) (fun t k => XS.dup X4.here hx rfl (hb hby at_20) rfl rfl k) ?_
  obtain ⟨str5, T5, h5, k5, X5, e5, E5, hS5, hk5, hZ5, hown5, st5⟩ := ldcS X4 hx hZ hown (hw _ (List.mem_of_getElem? (i := 33) rfl)) (fun a ha => hw a (own_strs a ha)) e4 hS0 hk0 (g := (mkF m 21 #[.val (.int re), .val (.int sc), .val (.int asg), .val (.int ho), .val (.int ons), .val (.ref b1), .unset, .unset, .unset, .unset] [(.ref b4), (.ref b4)])) rfl (hb hby at_21) (n := 4) (by decide) (by decide) (by decide) (by decide)
  replace O := O.ext E5
  replace E_b1 := E_b1.ext E5
  replace F_release_b1 := F_release_b1.ext E5
  replace E_b4 := E_b4.ext E5
  replace F_id_b4 := F_id_b4.ext E5
  replace F_start_b4 := F_start_b4.ext E5
  replace F_capacity_b4 := F_capacity_b4.ext E5
  replace hS0 := hS5
  replace hk0 := hk5
  replace hZ := hZ5
  replace hown := hown5
  refine Goes.to (T' := T5) (mkF m 23 #[.val (.int re), .val (.int sc), .val (.int asg), .val (.int ho), .val (.int ons), .val (.ref b1), .unset, .unset, .unset, .unset] [(.ref str5), (.ref b4), (.ref b4)]) st5 ?_
  refine Goes.to (T' := T5) (mkF m 24 #[.val (.int re), .val (.int sc), .val (.int asg), .val (.int ho), .val (.int ons), .val (.ref b1), .unset, .unset, .unset, .unset] [(.int (0 : Int32)), (.ref str5), (.ref b4), (.ref b4)]) (fun t k => XS.iconst X5.here hx rfl (hb hby at_23) k) ?_
  refine Goes.to (T' := T5) (mkF m 25 #[.val (.int re), .val (.int sc), .val (.int asg), .val (.int ho), .val (.int ons), .val (.ref b1), .unset, .unset, .unset, .unset] [(.int (1 : Int32)), (.int (0 : Int32)), (.ref str5), (.ref b4), (.ref b4)]) (fun t k => XS.iconst X5.here hx rfl (hb hby at_24) k) ?_
  obtain ⟨_, _, ⟨T6, L6, k6, n6⟩, -, X6, ⟨Lc6, hQ6, l6, y6, z6⟩, st6⟩ := X5.specialBack hx (y := (⟨"com/example/fleetmarshal/fleetmarshal/Vehicle", "<init>", "(Ljava/lang/String;II)V"⟩ : MethodName)) rfl hown (mvT hZ (hw _ (List.mem_of_getElem? (i := 34) rfl))) (mvT hZ (hw _ (List.mem_of_getElem? (i := 35) rfl))) (mvT hZ (hw _ (List.mem_of_getElem? (i := 36) rfl))) (by decide) (backOf (W := 1) (rm_veh l Z a0 hw [] b4 str5 (0 : Int32) (1 : Int32) _ _ _ h5 n0 O F_id_b4 F_start_b4 F_capacity_b4 E_b4 g_b4) hZ (hw _ (List.mem_of_getElem? (i := 36) rfl)) (hw _ (List.mem_of_getElem? (i := 32) rfl)) (by decide) (by decide)) (g := (mkF m 25 #[.val (.int re), .val (.int sc), .val (.int asg), .val (.int ho), .val (.int ons), .val (.ref b1), .unset, .unset, .unset, .unset] [(.int (1 : Int32)), (.int (0 : Int32)), (.ref str5), (.ref b4), (.ref b4)])) rfl (by rw [hml]; rfl) (Steps.refl _) (a := b4) (argsL := [(.ref str5), (.int (0 : Int32)), (.int (1 : Int32))]) (rest := [(.ref b4)]) (lenOf pd_3 rfl) rfl (by show 2 * 0 + _ ≤ _; exact Nat.le_of_eq rfl) (hb hby at_25) (fun _ _ => ⟨rfl, e5, (by decide : 6 + 0 ≤ _), (by decide : 23 + 0 ≤ _)⟩)
  dsimp only [Pt.U, Pt.locs, Pt.cells, Pt.slots] at X6 l6 y6 z6 st6 hQ6
  subst l6 y6 z6
  obtain ⟨rfl, N6, K6⟩ := hQ6
  have N6' := Fr.app N3' N6
  replace E_b1 := E_b1.keep K6
  replace F_release_b1 := F_release_b1.keep K6 (ninS ne_b1_b4 (nin0))
  replace E_b4 := E_b4.keep K6
  replace O := O.keep K6 (allS g_b4 all0)
  replace hk0 := Nat.le_trans hk0 K6.1
  refine Goes.to (T' := T6) (mkF m 28 #[.val (.int re), .val (.int sc), .val (.int asg), .val (.int ho), .val (.int ons), .val (.ref b1), .unset, .unset, .unset, .unset] [(.ref b4)]) (fun t k => st6.trans k) ?_
  refine Goes.to (T' := T6) (mkF m 30 #[.val (.int re), .val (.int sc), .val (.int asg), .val (.int ho), .val (.int ons), .val (.ref b1), .val (.ref b4), .unset, .unset, .unset] []) (fun t k => XS.astore X6.here hx rfl (hb hby at_28) rfl rfl (l' := #[.val (.int re), .val (.int sc), .val (.int asg), .val (.int ho), .val (.int ons), .val (.ref b1), .val (.ref b4), .unset, .unset, .unset]) rfl k) ?_
  obtain ⟨T7, h7, X7, e7, E7, A7, D7, -, st7⟩ := newO X6 hx hZ hown (hw _ (List.mem_of_getElem? (i := 44) rfl)) (hw _ (List.mem_of_getElem? (i := 45) rfl)) (hw _ (List.mem_of_getElem? (i := 46) rfl)) rfl (g := (mkF m 30 #[.val (.int re), .val (.int sc), .val (.int asg), .val (.int ho), .val (.int ons), .val (.ref b1), .val (.ref b4), .unset, .unset, .unset] [])) rfl (hb hby at_30) (by decide) (by decide)
  obtain ⟨b7, g7⟩ : ∃ z, z = T6.heap.size := ⟨_, rfl⟩
  rw [← g7] at A7 D7 st7
  have g_b7 : n0 ≤ b7 := Nat.le_trans (O.1 ▸ O.2.1) (Nat.le_of_eq g7.symm)
  have ne_b1_b7 : b1 ≠ b7 := Nat.ne_of_lt (Nat.lt_of_lt_of_le E_b1.lt (Nat.le_of_eq g7.symm))
  have ne_b4_b7 : b4 ≠ b7 := Nat.ne_of_lt (Nat.lt_of_lt_of_le E_b4.lt (Nat.le_of_eq g7.symm))
  replace O := O.ext E7
  replace hk0 := Nat.le_trans hk0 E7.1
  replace E_b1 := E_b1.ext E7
  replace F_release_b1 := F_release_b1.ext E7
  replace E_b4 := E_b4.ext E7
  have E_b7 : Exa Z h7 b7 "com/example/fleetmarshal/fleetmarshal/CallOutcome" := A7
  have F_call_b7 : Fld Z h7 b7 "com/example/fleetmarshal/fleetmarshal/CallOutcome" "call" "Lcom/example/fleetmarshal/fleetmarshal/Call;" .null := D7 (Or.inr (hw _ (List.mem_of_getElem? (i := 52) rfl))) (ty := (.object "com/example/fleetmarshal/fleetmarshal/Call")) (by decide)
  have F_vehicle_b7 : Fld Z h7 b7 "com/example/fleetmarshal/fleetmarshal/CallOutcome" "vehicle" "Lcom/example/fleetmarshal/fleetmarshal/Vehicle;" .null := D7 (Or.inr (hw _ (List.mem_of_getElem? (i := 54) rfl))) (ty := (.object "com/example/fleetmarshal/fleetmarshal/Vehicle")) (by decide)
  have F_assigned_b7 : Fld Z h7 b7 "com/example/fleetmarshal/fleetmarshal/CallOutcome" "assigned" "D" (.double 0) := D7 (Or.inr (hw _ (List.mem_of_getElem? (i := 56) rfl))) (ty := .double) (by decide)
  have F_sceneArrival_b7 : Fld Z h7 b7 "com/example/fleetmarshal/fleetmarshal/CallOutcome" "sceneArrival" "D" (.double 0) := D7 (Or.inr (hw _ (List.mem_of_getElem? (i := 58) rfl))) (ty := .double) (by decide)
  have F_hospital_b7 : Fld Z h7 b7 "com/example/fleetmarshal/fleetmarshal/CallOutcome" "hospital" "Lcom/example/fleetmarshal/fleetmarshal/Hospital;" .null := D7 (Or.inr (hw _ (List.mem_of_getElem? (i := 60) rfl))) (ty := (.object "com/example/fleetmarshal/fleetmarshal/Hospital")) (by decide)
  have F_hospitalArrival_b7 : Fld Z h7 b7 "com/example/fleetmarshal/fleetmarshal/CallOutcome" "hospitalArrival" "D" (.double 0) := D7 (Or.inr (hw _ (List.mem_of_getElem? (i := 62) rfl))) (ty := .double) (by decide)
  refine Goes.to (T' := T7) (mkF m 33 #[.val (.int re), .val (.int sc), .val (.int asg), .val (.int ho), .val (.int ons), .val (.ref b1), .val (.ref b4), .unset, .unset, .unset] [(.ref b7)]) st7 ?_
  refine Goes.to (T' := T7) (mkF m 34 #[.val (.int re), .val (.int sc), .val (.int asg), .val (.int ho), .val (.int ons), .val (.ref b1), .val (.ref b4), .unset, .unset, .unset] [(.ref b7), (.ref b7)]) (fun t k => XS.dup X7.here hx rfl (hb hby at_33) rfl rfl k) ?_
  refine Goes.to (T' := T7) (mkF m 36 #[.val (.int re), .val (.int sc), .val (.int asg), .val (.int ho), .val (.int ons), .val (.ref b1), .val (.ref b4), .unset, .unset, .unset] [(.ref b1), (.ref b7), (.ref b7)]) (fun t k => XS.aload X7.here hx rfl (hb hby at_34) rfl rfl k) ?_
  refine Goes.to (T' := T7) (mkF m 38 #[.val (.int re), .val (.int sc), .val (.int asg), .val (.int ho), .val (.int ons), .val (.ref b1), .val (.ref b4), .unset, .unset, .unset] [(.ref b4), (.ref b1), (.ref b7), (.ref b7)]) (fun t k => XS.aload X7.here hx rfl (hb hby at_36) rfl rfl k) ?_
  refine Goes.to (T' := T7) (mkF m 39 #[.val (.int re), .val (.int sc), .val (.int asg), .val (.int ho), .val (.int ons), .val (.ref b1), .val (.ref b4), .unset, .unset, .unset] [(.int asg), (.ref b4), (.ref b1), (.ref b7), (.ref b7)]) (fun t k => XS.iloadN X7.here hx rfl (hb hby at_38) rfl k) ?_
  refine Goes.to (T' := T7) (mkF m 40 #[.val (.int re), .val (.int sc), .val (.int asg), .val (.int ho), .val (.int ons), .val (.ref b1), .val (.ref b4), .unset, .unset, .unset] [(.double (FP.l2d asg.toInt64)), (.ref b4), (.ref b1), (.ref b7), (.ref b7)]) (fun t k => XS.i2dS X7.here hx rfl (hb hby at_39) rfl (i2d_w _) k) ?_
  refine Goes.to (T' := T7) (mkF m 41 #[.val (.int re), .val (.int sc), .val (.int asg), .val (.int ho), .val (.int ons), .val (.ref b1), .val (.ref b4), .unset, .unset, .unset] [(.int sc), (.double (FP.l2d asg.toInt64)), (.ref b4), (.ref b1), (.ref b7), (.ref b7)]) (fun t k => XS.iloadN X7.here hx rfl (hb hby at_40) rfl k) ?_
  refine Goes.to (T' := T7) (mkF m 42 #[.val (.int re), .val (.int sc), .val (.int asg), .val (.int ho), .val (.int ons), .val (.ref b1), .val (.ref b4), .unset, .unset, .unset] [(.double (FP.l2d sc.toInt64)), (.double (FP.l2d asg.toInt64)), (.ref b4), (.ref b1), (.ref b7), (.ref b7)]) (fun t k => XS.i2dS X7.here hx rfl (hb hby at_41) rfl (i2d_w _) k) ?_
  refine Goes.to (T' := T7) (mkF m 43 #[.val (.int re), .val (.int sc), .val (.int asg), .val (.int ho), .val (.int ons), .val (.ref b1), .val (.ref b4), .unset, .unset, .unset] [.null, (.double (FP.l2d sc.toInt64)), (.double (FP.l2d asg.toInt64)), (.ref b4), (.ref b1), (.ref b7), (.ref b7)]) (fun t k => XS.aconstNull X7.here hx rfl (hb hby at_42) k) ?_
  refine Goes.to (T' := T7) (mkF m 44 #[.val (.int re), .val (.int sc), .val (.int asg), .val (.int ho), .val (.int ons), .val (.ref b1), .val (.ref b4), .unset, .unset, .unset] [(.int ho), .null, (.double (FP.l2d sc.toInt64)), (.double (FP.l2d asg.toInt64)), (.ref b4), (.ref b1), (.ref b7), (.ref b7)]) (fun t k => XS.iloadN X7.here hx rfl (hb hby at_43) rfl k) ?_
  refine Goes.to (T' := T7) (mkF m 45 #[.val (.int re), .val (.int sc), .val (.int asg), .val (.int ho), .val (.int ons), .val (.ref b1), .val (.ref b4), .unset, .unset, .unset] [(.double (FP.l2d ho.toInt64)), .null, (.double (FP.l2d sc.toInt64)), (.double (FP.l2d asg.toInt64)), (.ref b4), (.ref b1), (.ref b7), (.ref b7)]) (fun t k => XS.i2dS X7.here hx rfl (hb hby at_44) rfl (i2d_w _) k) ?_
  obtain ⟨_, _, ⟨T8, L8, k8, n8⟩, -, X8, ⟨Lc8, hQ8, l8, y8, z8⟩, st8⟩ := X7.specialBack hx (y := (⟨"com/example/fleetmarshal/fleetmarshal/CallOutcome", "<init>", "(Lcom/example/fleetmarshal/fleetmarshal/Call;Lcom/example/fleetmarshal/fleetmarshal/Vehicle;DDLcom/example/fleetmarshal/fleetmarshal/Hospital;D)V"⟩ : MethodName)) rfl hown (mvT hZ (hw _ (List.mem_of_getElem? (i := 47) rfl))) (mvT hZ (hw _ (List.mem_of_getElem? (i := 48) rfl))) (mvT hZ (hw _ (List.mem_of_getElem? (i := 49) rfl))) (by decide) (backOf (W := 1) (rm_out l Z a0 hw [] b7 b1 b4 (FP.l2d asg.toInt64) (FP.l2d sc.toInt64) (FP.l2d ho.toInt64) _ _ _ _ _ _ h7 n0 O F_call_b7 F_vehicle_b7 F_assigned_b7 F_sceneArrival_b7 F_hospital_b7 F_hospitalArrival_b7 E_b7 g_b7) hZ (hw _ (List.mem_of_getElem? (i := 49) rfl)) (hw _ (List.mem_of_getElem? (i := 46) rfl)) (by decide) (by decide)) (g := (mkF m 45 #[.val (.int re), .val (.int sc), .val (.int asg), .val (.int ho), .val (.int ons), .val (.ref b1), .val (.ref b4), .unset, .unset, .unset] [(.double (FP.l2d ho.toInt64)), .null, (.double (FP.l2d sc.toInt64)), (.double (FP.l2d asg.toInt64)), (.ref b4), (.ref b1), (.ref b7), (.ref b7)])) rfl (by rw [hml]; rfl) (Steps.refl _) (a := b7) (argsL := [(.ref b1), (.ref b4), (.double (FP.l2d asg.toInt64)), (.double (FP.l2d sc.toInt64)), .null, (.double (FP.l2d ho.toInt64))]) (rest := [(.ref b7)]) (lenOf pd_4 rfl) rfl (by show 2 * 0 + _ ≤ _; exact Nat.le_of_eq rfl) (hb hby at_45) (fun _ _ => ⟨rfl, e7, (by decide : 7 + 0 ≤ _), (by decide : 29 + 0 ≤ _)⟩)
  dsimp only [Pt.U, Pt.locs, Pt.cells, Pt.slots] at X8 l8 y8 z8 st8 hQ8
  subst l8 y8 z8
  obtain ⟨rfl, N8, K8, F_call_b7, F_sceneArrival_b7⟩ := hQ8
  have N8' := Fr.app N6' N8
  replace E_b1 := E_b1.keep K8
  replace F_release_b1 := F_release_b1.keep K8 (ninS ne_b1_b7 (nin0))
  replace E_b4 := E_b4.keep K8
  replace E_b7 := E_b7.keep K8
  replace O := O.keep K8 (allS g_b7 all0)
  replace hk0 := Nat.le_trans hk0 K8.1
  refine Goes.to (T' := T8) (mkF m 48 #[.val (.int re), .val (.int sc), .val (.int asg), .val (.int ho), .val (.int ons), .val (.ref b1), .val (.ref b4), .unset, .unset, .unset] [(.ref b7)]) (fun t k => st8.trans k) ?_
  refine Goes.to (T' := T8) (mkF m 50 #[.val (.int re), .val (.int sc), .val (.int asg), .val (.int ho), .val (.int ons), .val (.ref b1), .val (.ref b4), .val (.ref b7), .unset, .unset] []) (fun t k => XS.astore X8.here hx rfl (hb hby at_48) rfl rfl (l' := #[.val (.int re), .val (.int sc), .val (.int asg), .val (.int ho), .val (.int ons), .val (.ref b1), .val (.ref b4), .val (.ref b7), .unset, .unset]) rfl k) ?_
  refine Goes.to (T' := T8) (mkF m 51 #[.val (.int re), .val (.int sc), .val (.int asg), .val (.int ho), .val (.int ons), .val (.ref b1), .val (.ref b4), .val (.ref b7), .unset, .unset] [(.int sc)]) (fun t k => XS.iloadN X8.here hx rfl (hb hby at_50) rfl k) ?_
  refine Goes.to (T' := T8) (mkF m 52 #[.val (.int re), .val (.int sc), .val (.int asg), .val (.int ho), .val (.int ons), .val (.ref b1), .val (.ref b4), .val (.ref b7), .unset, .unset] [(.long (sc.toInt64))]) (fun t k => XS.i2l X8.here hx rfl (hb hby at_51) rfl k) ?_
  refine Goes.to (T' := T8) (mkF m 53 #[.val (.int re), .val (.int sc), .val (.int asg), .val (.int ho), .val (.int ons), .val (.ref b1), .val (.ref b4), .val (.ref b7), .unset, .unset] [(.int re), (.long (sc.toInt64))]) (fun t k => XS.iloadN X8.here hx rfl (hb hby at_52) rfl k) ?_
  refine Goes.to (T' := T8) (mkF m 54 #[.val (.int re), .val (.int sc), .val (.int asg), .val (.int ho), .val (.int ons), .val (.ref b1), .val (.ref b4), .val (.ref b7), .unset, .unset] [(.long (re.toInt64)), (.long (sc.toInt64))]) (fun t k => XS.i2l X8.here hx rfl (hb hby at_53) rfl k) ?_
  refine Goes.to (T' := T8) (mkF m 55 #[.val (.int re), .val (.int sc), .val (.int asg), .val (.int ho), .val (.int ons), .val (.ref b1), .val (.ref b4), .val (.ref b7), .unset, .unset] [(.long ((sc.toInt64) - (re.toInt64)))]) (fun t k => XS.lsub X8.here hx rfl (hb hby at_54) rfl k) ?_
  refine Goes.to (T' := T8) (mkF m 57 #[.val (.int re), .val (.int sc), .val (.int asg), .val (.int ho), .val (.int ons), .val (.ref b1), .val (.ref b4), .val (.ref b7), .val (.long ((sc.toInt64) - (re.toInt64))), .second] []) (fun t k => XS.lstore X8.here hx rfl (hb hby at_55) rfl (l' := #[.val (.int re), .val (.int sc), .val (.int asg), .val (.int ho), .val (.int ons), .val (.ref b1), .val (.ref b4), .val (.ref b7), .val (.long ((sc.toInt64) - (re.toInt64))), .second]) rfl k) ?_
  refine Goes.to (T' := T8) (mkF m 59 #[.val (.int re), .val (.int sc), .val (.int asg), .val (.int ho), .val (.int ons), .val (.ref b1), .val (.ref b4), .val (.ref b7), .val (.long ((sc.toInt64) - (re.toInt64))), .second] [(.ref b7)]) (fun t k => XS.aload X8.here hx rfl (hb hby at_57) rfl rfl k) ?_
  obtain ⟨cq9, kq9, q9a, q9b, q9c⟩ := isOf hZ rfl E_b7
  obtain ⟨_, _, ⟨T9, L9, k9, n9⟩, -, X9, ⟨Lc9, hQ9, l9, y9, z9⟩, st9⟩ := X8.virtualBack hx (y := (⟨"com/example/fleetmarshal/fleetmarshal/CallOutcome", "response", "()D"⟩ : MethodName)) (z := (⟨"com/example/fleetmarshal/fleetmarshal/CallOutcome", "response", "()D"⟩ : MethodName)) hown (mvT hZ (hw _ (List.mem_of_getElem? (i := 63) rfl))) (mvT hZ (hw _ (List.mem_of_getElem? (i := 64) rfl))) (notFace_of_selects (args := #[]) (mvT hZ (hw _ (List.mem_of_getElem? (i := 66) rfl)))) (mvT hZ (hw _ (List.mem_of_getElem? (i := 66) rfl))) (mvT hZ (hw _ (List.mem_of_getElem? (i := 65) rfl))) (by decide) (backOf (W := 0) (rm_resp l Z a0 hw [] b7 b1 sc re T8.heap n0 O F_sceneArrival_b7 F_call_b7 F_release_b1 E_b1) hZ (hw _ (List.mem_of_getElem? (i := 67) rfl)) (hw _ (List.mem_of_getElem? (i := 46) rfl)) (by decide) (by decide)) q9a q9c (g := (mkF m 59 #[.val (.int re), .val (.int sc), .val (.int asg), .val (.int ho), .val (.int ons), .val (.ref b1), .val (.ref b4), .val (.ref b7), .val (.long ((sc.toInt64) - (re.toInt64))), .second] [(.ref b7)])) rfl (by rw [hml]; rfl) (Steps.refl _) (argsL := []) (rest := []) (lenOf pd_1 rfl) rfl (by show 2 * 0 + _ ≤ _; exact Nat.le_of_eq rfl) (hb hby at_59) (fun _ _ => ⟨rfl, rfl, (by decide : 7 + 0 ≤ _), (by decide : 29 + 0 ≤ _)⟩)
  dsimp only [Pt.U, Pt.locs, Pt.cells, Pt.slots] at X9 l9 y9 z9 st9 hQ9
  subst l9 y9 z9
  obtain ⟨rfl, N9, hs9⟩ := hQ9
  have N9' := Fr.app N8' N9
  refine Goes.to (T' := T9) (mkF m 62 #[.val (.int re), .val (.int sc), .val (.int asg), .val (.int ho), .val (.int ons), .val (.ref b1), .val (.ref b4), .val (.ref b7), .val (.long ((sc.toInt64) - (re.toInt64))), .second] [(.double (FP.l2d (sc.toInt64 - re.toInt64)))]) (fun t k => st9.trans k) ?_
  refine Goes.to (T' := T9) (mkF m 64 #[.val (.int re), .val (.int sc), .val (.int asg), .val (.int ho), .val (.int ons), .val (.ref b1), .val (.ref b4), .val (.ref b7), .val (.long ((sc.toInt64) - (re.toInt64))), .second] [(.long ((sc.toInt64) - (re.toInt64))), (.double (FP.l2d (sc.toInt64 - re.toInt64)))]) (fun t k => XS.lload X9.here hx rfl (hb hby at_62) rfl k) ?_
  refine Goes.to (T' := T9) (mkF m 65 #[.val (.int re), .val (.int sc), .val (.int asg), .val (.int ho), .val (.int ons), .val (.ref b1), .val (.ref b4), .val (.ref b7), .val (.long ((sc.toInt64) - (re.toInt64))), .second] [(.double (FP.l2d ((sc.toInt64) - (re.toInt64)))), (.double (FP.l2d (sc.toInt64 - re.toInt64)))]) (fun t k => XS.l2dS X9.here hx rfl (hb hby at_64) rfl rfl k) ?_
  refine Goes.to (T' := T9) (mkF m 66 #[.val (.int re), .val (.int sc), .val (.int asg), .val (.int ho), .val (.int ons), .val (.ref b1), .val (.ref b4), .val (.ref b7), .val (.long ((sc.toInt64) - (re.toInt64))), .second] [(.int (0 : Int32))]) (fun t k => XS.dcmpS X9.here hx rfl (hb hby at_65) rfl (dcmpV_self (nn_w rfl) _) k) ?_
  refine Goes.to (T' := T9) (mkF m 69 #[.val (.int re), .val (.int sc), .val (.int asg), .val (.int ho), .val (.int ons), .val (.ref b1), .val (.ref b4), .val (.ref b7), .val (.long ((sc.toInt64) - (re.toInt64))), .second] []) (fun t k => XS.ifNo X9.here hx rfl (hb hby at_66) rfl ((if0 _ _).trans (teq ((by decide) : (0 : Int32) = (0 : Int32))).2) k) ?_
  refine Goes.to (T' := T9) (mkF m 70 #[.val (.int re), .val (.int sc), .val (.int asg), .val (.int ho), .val (.int ons), .val (.ref b1), .val (.ref b4), .val (.ref b7), .val (.long ((sc.toInt64) - (re.toInt64))), .second] [(.int (1 : Int32))]) (fun t k => XS.iconst X9.here hx rfl (hb hby at_69) k) ?_
  refine Goes.to (T' := T9) (mkF m 74 #[.val (.int re), .val (.int sc), .val (.int asg), .val (.int ho), .val (.int ons), .val (.ref b1), .val (.ref b4), .val (.ref b7), .val (.long ((sc.toInt64) - (re.toInt64))), .second] [(.int (1 : Int32))]) (fun t k => XS.goto X9.here hx rfl (pc0 := 70) (pc' := 74) rfl (hb hby at_70) (by decide) (by decide) k) ?_
  refine Goes.retNW X9 hx Bd.notSynchronized hS0 (by rw [hs9]; exact hk0) (t := .boolean) Bd.returns (by simp) (hb hby at_74) (by decide) (by decide) ?_
  rw [hs9]
  exact ⟨rfl, N9'⟩
set_option maxRecDepth 65536 in
set_option maxHeartbeats 40000000 in
theorem comes_1 {Post : Tables → Env → Array Value → State → Outcome → State → Prop} (hpost : ∀ tb e args s v u, (limb_1_1.after args s (.returned v) u = true ∧ limb_1_2.after args s (.returned v) u = true ∧ True) → ReturnedEndW s (.returned v) u (Jvm.fieldLocs frame_1_writes args s ++ Jvm.arrayLocs frame_1_arrays args s ++ Jvm.staticLocs frame_1_statics s) 24 2176 → Post tb e args s (.returned v) u) :
    ArmFor flags0 classFile x code maxLocals ret World_1 tables_1 room_1 Calls_1 rest_1 Pre_1 Post := by
  intro l hfl _ _ p e ha hc hk s m args below hf hA hF happ hP
  obtain ⟨hcalls, hrest, hpre⟩ := hP
  obtain ⟨-, -, -, hnamed, -, -, -, hat⟩ := (Spec.applies_iff hf).mp happ
  obtain ⟨hg, hn⟩ := and_e (Cond.before_iff.mp (show (Jvm.Cond.and given_1 narrow_1).before args s = true from hpre))
  obtain ⟨gg0, gr0⟩ := and_e hg
  obtain ⟨gg1, gr1⟩ := and_e gr0
  obtain ⟨gg2, gr2⟩ := and_e gr1
  obtain ⟨gg3, gr3⟩ := and_e gr2
  obtain ⟨gg4, gr4⟩ := and_e gr3
  have gg5 := gr4
  obtain ⟨w0, w1, w2, w3, w4, rfl⟩ : ∃ w0 w1 w2 w3 w4 : Value, args = #[w0, w1, w2, w3, w4] := by
    have hs : args.size = 5 := by simpa [Cond.value, given_1] using gg0
    obtain ⟨L⟩ := args
    match L, hs with
    | [w0, w1, w2, w3, w4], _ => exact ⟨w0, w1, w2, w3, w4, rfl⟩
  have hw := fun d (hd : d ∈ tables_1) => atoms_spec (ws := Jvm.Cond.code x code maxLocals ret :: tables_1) hat d (List.mem_cons_of_mem _ hd)
  have hfit : Fit s := fun {y c} hc i hi => by
    obtain ⟨ha, rfl⟩ := Array.getElem?_eq_some_iff.mp hc
    have q := List.all_eq_true.mp ((Array.all_eq_true_iff_forall_mem.mp hF) _ (Array.getElem_mem ha)) i (List.mem_range.mpr hi)
    simpa [Array.getElem?_eq_getElem hi] using q
  obtain ⟨i0, ei0⟩ := is_v gg1
  obtain rfl : w0 = (.int i0) := Option.some.inj ei0
  obtain ⟨i1, ei1⟩ := is_v gg2
  obtain rfl : w1 = (.int i1) := Option.some.inj ei1
  obtain ⟨i2, ei2⟩ := is_v gg3
  obtain rfl : w2 = (.int i2) := Option.some.inj ei2
  obtain ⟨i3, ei3⟩ := is_v gg4
  obtain rfl : w3 = (.int i3) := Option.some.inj ei3
  obtain ⟨i4, ei4⟩ := is_v gg5
  obtain rfl : w4 = (.int i4) := Option.some.inj ei4
  obtain ⟨n, o, h1, h2, h3, _, L, rfl, ⟨rfl, N⟩, hq⟩ := rm_law l s _ hw tables_1 i0 i1 i2 i3 i4  s.heap s.heap.size (Old.start s)  p e ha hc hk s m _ below hf ((Spec.applies_iff_loose hf).mp happ).1 ⟨rfl, State.Warmed39.refl s, rfl⟩ trivial
  refine ⟨n, _, h1, h2, h3, hpost _ _ _ _ _ _ ⟨Cond.after_iff.mpr rfl, Cond.after_iff.mpr (eq_i res_at (Term.int_eval (1)) rfl), trivial⟩ ⟨hq.1, hq.2.1, hq.2.2.1, (hq.2.2.2.sift fun y hy => Or.inr (N y hy)).mono (by decide) (by decide)⟩⟩
theorem main_1_1 : Claimed_1_1 := comes_1 fun _ _ _ _ _ _ h hF => ⟨h.1, hF⟩
theorem main_1_2 : Claimed_1_2 := comes_1 fun _ _ _ _ _ _ h hF => ⟨h.2.1, hF⟩

end Jvm.Pilot.@@N@@
namespace Jvm.Pilot.@@N@@
open Jvm Jvm.ClassFile Sem Op Lib Jvm.Free Jvm.Stand Jvm.Pilot.@@N@@.Jvm.D
/-! MADE BY PROGRAM (witnessworld.py) out of the Statement's table words and the real class files: 18 classes; the members and pool entries that the words name. The judged class is class 1, her method 1. -/
namespace start1
open Jvm.ClassFile
def u (s : String) : CpInfo := .utf8 (stringToUtf16 s)
/-- a pool by its gaps: so many unusable entries, then the entry; so many at the end -/
def gap : Nat → List CpInfo → List CpInfo
  | 0, r => r
  | n + 1, r => .unusable :: gap n r
def poolList (es : List (Nat × CpInfo)) (last : Nat) : List CpInfo := es.foldr (fun e r => gap e.1 (e.2 :: r)) (gap last [])
def pool (es : List (Nat × CpInfo)) (last : Nat) : Array CpInfo := ⟨poolList es last⟩
def fileOf (pool : Array CpInfo) (this : Nat) (attrs : Array Attribute := #[]) (ms : Array MethodInfo := #[]) (fl : Nat := 33) (sup : Nat := 0) (ifs : Array Nat := #[]) (fds : Array FieldInfo := #[]) : ClassFile where
  minorVersion := 0
  majorVersion := 65
  constantPool := pool
  accessFlags := fl
  thisClass := this
  superClass := sup
  interfaces := ifs
  fields := fds
  methods := ms
  attributes := attrs
def plain (name : String) (sup : Option ClassId) : Class where
  name := name
  kind := .ordinary
  loader := none
  accessFlags := 33
  super := sup
  interfaces := #[]
  cf := none
  fields := #[]
  methods := #[]
  instanceTypes := #[]
  staticTypes := #[]
  resolved := #[]
  callSites := []
  init := .initialized
  statics := none
  mirror := none

def pool0 : Array CpInfo := pool [(5, u "<init>"), (0, u "()V"), (1, .class_ 10), (1, u "java/lang/Object")] 113

def k0c0 : Code := { maxStack := 0, maxLocals := 1, code := object_method_1_code, exceptionTable := #[], attributes := #[] }
def k0m0 : Method := { name := "<init>", desc := "()V", sig := { parameters := [], returnType := none }, accessFlags := 1, code := some k0c0 }
/-- java/lang/Object -/
def k0 : Class := { plain "java/lang/Object" none with
  accessFlags := 33
  interfaces := #[]
  cf := some (fileOf pool0 8 #[] #[{ accessFlags := 1, nameIndex := 5, descriptorIndex := 6, attributes := #[] }] 33 0 #[] #[])
  fields := #[]
  methods := #[k0m0]
  instanceTypes := #[]
  staticTypes := #[]
  resolved := Array.replicate 124 none
  statics := none }

def pool1 : Array CpInfo := pool [(2, .class_ 4), (1, u "java/lang/Object"), (0, u "<init>"), (0, u "()V"), (0, .class_ 8), (0, u "com/example/fleetmarshal/fleetmarshal/Call"), (0, .string 10), (0, u "c"), (0, .methodref 7 12), (0, .nameAndType 5 13), (0, u "(Ljava/lang/String;DID)V"), (0, .class_ 15), (0, u "com/example/fleetmarshal/fleetmarshal/Vehicle"), (0, .string 17), (0, u "v"), (0, .methodref 14 19), (0, .nameAndType 5 20), (0, u "(Ljava/lang/String;II)V"), (0, .class_ 22), (0, u "com/example/fleetmarshal/fleetmarshal/CallOutcome"), (0, .methodref 21 24), (0, .nameAndType 5 25), (0, u "(Lcom/example/fleetmarshal/fleetmarshal/Call;Lcom/example/fleetmarshal/fleetmarshal/Vehicle;DDLcom/example/fleetmarshal/fleetmarshal/Hospital;D)V"), (0, .methodref 21 27), (0, .nameAndType 28 29), (0, u "response"), (0, u "()D"), (0, .class_ 31), (0, u "com/example/fleetmarshal/fleetmarshal/CallOutcomeResponsePinLaw"), (2, u "law"), (0, u "(IIIII)Z")] 3

def k1m0 : Method := { name := "<init>", desc := "()V", sig := { parameters := [], returnType := none }, accessFlags := 2, code := none }
def k1c1 : Code := { maxStack := 11, maxLocals := 10, code := code, exceptionTable := #[], attributes := #[] }
def k1m1 : Method := { name := "law", desc := "(IIIII)Z", sig := { parameters := [.int, .int, .int, .int, .int], returnType := some .boolean }, accessFlags := 9, code := some k1c1 }
/-- com/example/fleetmarshal/fleetmarshal/CallOutcomeResponsePinLaw -/
def k1 : Class := { plain "com/example/fleetmarshal/fleetmarshal/CallOutcomeResponsePinLaw" (some 0) with
  accessFlags := 49
  interfaces := #[]
  cf := some (fileOf pool1 30 #[] #[{ accessFlags := 2, nameIndex := 5, descriptorIndex := 6, attributes := #[] }, { accessFlags := 9, nameIndex := 34, descriptorIndex := 35, attributes := #[] }] 49 2 #[] #[])
  fields := #[]
  methods := #[k1m0, k1m1]
  instanceTypes := #[]
  staticTypes := #[]
  resolved := Array.replicate 39 none
  statics := none }

def pool2 : Array CpInfo := pool [(1, .methodref 2 3), (0, .class_ 4), (0, .nameAndType 5 6), (0, u "java/lang/Object"), (0, u "<init>"), (0, u "()V"), (0, .class_ 8), (0, u "java/lang/Record")] 13

def k2c0 : Code := { maxStack := 1, maxLocals := 1, code := jdk_30_method_1_code, exceptionTable := #[], attributes := #[] }
def k2m0 : Method := { name := "<init>", desc := "()V", sig := { parameters := [], returnType := none }, accessFlags := 4, code := some k2c0 }
/-- java/lang/Record -/
def k2 : Class := { plain "java/lang/Record" (some 0) with
  accessFlags := 1057
  interfaces := #[]
  cf := some (fileOf pool2 7 #[] #[{ accessFlags := 4, nameIndex := 5, descriptorIndex := 6, attributes := #[] }] 1057 2 #[] #[])
  fields := #[]
  methods := #[k2m0]
  instanceTypes := #[]
  staticTypes := #[]
  resolved := Array.replicate 22 none
  statics := none }

def pool3 : Array CpInfo := pool [(44, .class_ 45), (0, u "com/example/fleetmarshal/fleetmarshal/Errand"), (4, .class_ 51), (0, u "java/lang/Object")] 36

/-- com/example/fleetmarshal/fleetmarshal/Errand -/
def k3 : Class := { plain "com/example/fleetmarshal/fleetmarshal/Errand" (some 0) with
  accessFlags := 1536
  interfaces := #[]
  cf := some (fileOf pool3 44 #[] #[] 1536 50 #[] #[])
  fields := #[]
  methods := #[]
  instanceTypes := #[]
  staticTypes := #[]
  resolved := Array.replicate 88 none
  statics := none }

def pool4 : Array CpInfo := pool [(1, .methodref 2 3), (0, .class_ 4), (0, .nameAndType 5 6), (0, u "java/lang/Record"), (0, u "<init>"), (0, u "()V"), (0, .fieldref 8 9), (0, .class_ 10), (0, .nameAndType 11 12), (0, u "com/example/fleetmarshal/fleetmarshal/Call"), (0, u "id"), (0, u "Ljava/lang/String;"), (0, .fieldref 8 14), (0, .nameAndType 15 16), (0, u "release"), (0, u "D"), (0, .fieldref 8 18), (0, .nameAndType 19 20), (0, u "scene"), (0, u "I"), (0, .fieldref 8 22), (0, .nameAndType 23 16), (0, u "onScene"), (33, .class_ 58), (0, u "com/example/fleetmarshal/fleetmarshal/Errand"), (0, u "LOAD"), (2, u "(Ljava/lang/String;DID)V"), (8, u "()D")] 31

def k4c0 : Code := { maxStack := 3, maxLocals := 7, code := prog_1_method_1_code, exceptionTable := #[], attributes := #[] }
def k4m0 : Method := { name := "<init>", desc := "(Ljava/lang/String;DID)V", sig := { parameters := [(.object "java/lang/String"), .double, .int, .double], returnType := none }, accessFlags := 0, code := some k4c0 }
def k4c1 : Code := { maxStack := 2, maxLocals := 1, code := prog_1_method_8_code, exceptionTable := #[], attributes := #[] }
def k4m1 : Method := { name := "release", desc := "()D", sig := { parameters := [], returnType := some .double }, accessFlags := 1, code := some k4c1 }
/-- com/example/fleetmarshal/fleetmarshal/Call -/
def k4 : Class := { plain "com/example/fleetmarshal/fleetmarshal/Call" (some 2) with
  accessFlags := 48
  interfaces := #[3]
  cf := some (fileOf pool4 8 #[] #[{ accessFlags := 0, nameIndex := 5, descriptorIndex := 62, attributes := #[] }, { accessFlags := 1, nameIndex := 15, descriptorIndex := 71, attributes := #[] }] 48 2 #[57] #[{ accessFlags := 18, nameIndex := 11, descriptorIndex := 12, attributes := #[] }, { accessFlags := 18, nameIndex := 15, descriptorIndex := 16, attributes := #[] }, { accessFlags := 18, nameIndex := 19, descriptorIndex := 20, attributes := #[] }, { accessFlags := 18, nameIndex := 23, descriptorIndex := 16, attributes := #[] }, { accessFlags := 24, nameIndex := 59, descriptorIndex := 20, attributes := #[] }])
  fields := #[{ name := "id", type := (.object "java/lang/String"), accessFlags := 18, slot := 0, constantValue := 0 }, { name := "release", type := .double, accessFlags := 18, slot := 1, constantValue := 0 }, { name := "scene", type := .int, accessFlags := 18, slot := 2, constantValue := 0 }, { name := "onScene", type := .double, accessFlags := 18, slot := 3, constantValue := 0 }, { name := "LOAD", type := .int, accessFlags := 24, slot := 0, constantValue := 0 }]
  methods := #[k4m0, k4m1]
  instanceTypes := #[(.object "java/lang/String"), .double, .int, .double]
  staticTypes := #[.int]
  resolved := Array.replicate 103 none
  statics := none }

def pool5 : Array CpInfo := pool [(1, .class_ 2), (0, u "java/io/Serializable"), (0, .class_ 4), (0, u "java/lang/Object")] 2

/-- java/io/Serializable -/
def k5 : Class := { plain "java/io/Serializable" (some 0) with
  accessFlags := 1537
  interfaces := #[]
  cf := some (fileOf pool5 1 #[] #[] 1537 3 #[] #[])
  fields := #[]
  methods := #[]
  instanceTypes := #[]
  staticTypes := #[]
  resolved := Array.replicate 7 none
  statics := none }

def pool6 : Array CpInfo := pool [(1, .class_ 2), (0, u "java/lang/Comparable"), (0, .class_ 4), (0, u "java/lang/Object")] 7

/-- java/lang/Comparable -/
def k6 : Class := { plain "java/lang/Comparable" (some 0) with
  accessFlags := 1537
  interfaces := #[]
  cf := some (fileOf pool6 1 #[] #[] 1537 3 #[] #[])
  fields := #[]
  methods := #[]
  instanceTypes := #[]
  staticTypes := #[]
  resolved := Array.replicate 12 none
  statics := none }

def pool7 : Array CpInfo := pool [(2, .class_ 4), (1, u "java/lang/CharSequence"), (42, .class_ 48), (0, u "java/lang/CharSequence$1CodePointIterator"), (10, .class_ 60), (0, u "java/lang/CharSequence$1CharIterator"), (5, .class_ 67), (0, u "java/lang/Object")] 63

/-- java/lang/CharSequence -/
def k7 : Class := { plain "java/lang/CharSequence" (some 0) with
  accessFlags := 1537
  interfaces := #[]
  cf := some (fileOf pool7 2 #[.nestMembers #[47, 59]] #[] 1537 66 #[] #[])
  fields := #[]
  methods := #[]
  instanceTypes := #[]
  staticTypes := #[]
  resolved := Array.replicate 131 none
  statics := none }

def pool8 : Array CpInfo := pool [(1, .class_ 2), (0, u "java/lang/constant/Constable"), (0, .class_ 4), (0, u "java/lang/Object")] 6

/-- java/lang/constant/Constable -/
def k8 : Class := { plain "java/lang/constant/Constable" (some 0) with
  accessFlags := 1537
  interfaces := #[]
  cf := some (fileOf pool8 1 #[] #[] 1537 3 #[] #[])
  fields := #[]
  methods := #[]
  instanceTypes := #[]
  staticTypes := #[]
  resolved := Array.replicate 11 none
  statics := none }

def pool9 : Array CpInfo := pool [(1, .class_ 2), (0, u "java/lang/constant/ConstantDesc"), (0, .class_ 4), (0, u "java/lang/Object")] 32

/-- java/lang/constant/ConstantDesc -/
def k9 : Class := { plain "java/lang/constant/ConstantDesc" (some 0) with
  accessFlags := 1537
  interfaces := #[]
  cf := some (fileOf pool9 1 #[] #[] 1537 3 #[] #[])
  fields := #[]
  methods := #[]
  instanceTypes := #[]
  staticTypes := #[]
  resolved := Array.replicate 37 none
  statics := none }

def pool10 : Array CpInfo := pool [(2, .class_ 4), (1, u "java/lang/Object"), (0, u "<init>"), (0, u "()V"), (3, .class_ 12), (1, u "java/lang/String"), (0, u "value"), (0, u "[B"), (2, u "coder"), (0, u "B"), (2, u "hash"), (0, u "I"), (2, u "hashIsZero"), (0, u "Z"), (13, u "COMPACT_STRINGS"), (534, .class_ 576), (0, u "java/lang/CharSequence"), (22, u "CASE_INSENSITIVE_ORDER"), (0, u "Ljava/util/Comparator;"), (500, u "serialPersistentFields"), (0, u "[Ljava/io/ObjectStreamField;"), (0, .class_ 1104), (0, u "java/lang/String$CaseInsensitiveComparator"), (1, .class_ 1107), (0, u "java/io/Serializable"), (0, .class_ 1109), (0, u "java/lang/Comparable"), (0, .class_ 1111), (0, u "java/lang/constant/Constable"), (0, .class_ 1113), (0, u "java/lang/constant/ConstantDesc"), (2, u "serialVersionUID"), (0, u "J"), (3, u "REPL"), (0, u "C"), (2, u "LATIN1"), (1, u "UTF16")] 323

def k10m0 : Method := { name := "<init>", desc := "()V", sig := { parameters := [], returnType := none }, accessFlags := 1, code := none }
/-- java/lang/String -/
def k10 : Class := { plain "java/lang/String" (some 0) with
  accessFlags := 49
  interfaces := #[5, 6, 7, 8, 9]
  cf := some (fileOf pool10 10 #[.nestMembers #[1103]] #[{ accessFlags := 1, nameIndex := 5, descriptorIndex := 6, attributes := #[] }] 49 2 #[1106, 1108, 575, 1110, 1112] #[{ accessFlags := 18, nameIndex := 13, descriptorIndex := 14, attributes := #[] }, { accessFlags := 18, nameIndex := 17, descriptorIndex := 18, attributes := #[] }, { accessFlags := 2, nameIndex := 21, descriptorIndex := 22, attributes := #[] }, { accessFlags := 2, nameIndex := 25, descriptorIndex := 26, attributes := #[] }, { accessFlags := 26, nameIndex := 1116, descriptorIndex := 1117, attributes := #[] }, { accessFlags := 24, nameIndex := 40, descriptorIndex := 26, attributes := #[] }, { accessFlags := 26, nameIndex := 1101, descriptorIndex := 1102, attributes := #[] }, { accessFlags := 26, nameIndex := 1121, descriptorIndex := 1122, attributes := #[] }, { accessFlags := 25, nameIndex := 599, descriptorIndex := 600, attributes := #[] }, { accessFlags := 24, nameIndex := 1125, descriptorIndex := 18, attributes := #[] }, { accessFlags := 24, nameIndex := 1127, descriptorIndex := 18, attributes := #[] }])
  fields := #[{ name := "value", type := (.array .byte), accessFlags := 18, slot := 0, constantValue := 0 }, { name := "coder", type := .byte, accessFlags := 18, slot := 1, constantValue := 0 }, { name := "hash", type := .int, accessFlags := 2, slot := 2, constantValue := 0 }, { name := "hashIsZero", type := .boolean, accessFlags := 2, slot := 3, constantValue := 0 }, { name := "serialVersionUID", type := .long, accessFlags := 26, slot := 0, constantValue := 0 }, { name := "COMPACT_STRINGS", type := .boolean, accessFlags := 24, slot := 1, constantValue := 0 }, { name := "serialPersistentFields", type := (.array (.object "java/io/ObjectStreamField")), accessFlags := 26, slot := 2, constantValue := 0 }, { name := "REPL", type := .char, accessFlags := 26, slot := 3, constantValue := 0 }, { name := "CASE_INSENSITIVE_ORDER", type := (.object "java/util/Comparator"), accessFlags := 25, slot := 4, constantValue := 0 }, { name := "LATIN1", type := .byte, accessFlags := 24, slot := 5, constantValue := 0 }, { name := "UTF16", type := .byte, accessFlags := 24, slot := 6, constantValue := 0 }]
  methods := #[k10m0]
  instanceTypes := #[(.array .byte), .byte, .int, .boolean]
  staticTypes := #[.long, .boolean, (.array (.object "java/io/ObjectStreamField")), .char, (.object "java/util/Comparator"), .byte, .byte]
  resolved := Array.replicate 1451 none
  statics := none }

def pool11 : Array CpInfo := pool [(1, .methodref 2 3), (0, .class_ 4), (0, .nameAndType 5 6), (0, u "java/lang/Record"), (0, u "<init>"), (0, u "()V"), (0, .fieldref 8 9), (0, .class_ 10), (0, .nameAndType 11 12), (0, u "com/example/fleetmarshal/fleetmarshal/Vehicle"), (0, u "id"), (0, u "Ljava/lang/String;"), (0, .fieldref 8 14), (0, .nameAndType 15 16), (0, u "start"), (0, u "I"), (0, .fieldref 8 18), (0, .nameAndType 19 16), (0, u "capacity"), (37, u "(Ljava/lang/String;II)V")] 32

def k11c0 : Code := { maxStack := 2, maxLocals := 4, code := prog_59_method_1_code, exceptionTable := #[], attributes := #[] }
def k11m0 : Method := { name := "<init>", desc := "(Ljava/lang/String;II)V", sig := { parameters := [(.object "java/lang/String"), .int, .int], returnType := none }, accessFlags := 0, code := some k11c0 }
/-- com/example/fleetmarshal/fleetmarshal/Vehicle -/
def k11 : Class := { plain "com/example/fleetmarshal/fleetmarshal/Vehicle" (some 2) with
  accessFlags := 48
  interfaces := #[]
  cf := some (fileOf pool11 8 #[] #[{ accessFlags := 0, nameIndex := 5, descriptorIndex := 57, attributes := #[] }] 48 2 #[] #[{ accessFlags := 18, nameIndex := 11, descriptorIndex := 12, attributes := #[] }, { accessFlags := 18, nameIndex := 15, descriptorIndex := 16, attributes := #[] }, { accessFlags := 18, nameIndex := 19, descriptorIndex := 16, attributes := #[] }])
  fields := #[{ name := "id", type := (.object "java/lang/String"), accessFlags := 18, slot := 0, constantValue := 0 }, { name := "start", type := .int, accessFlags := 18, slot := 1, constantValue := 0 }, { name := "capacity", type := .int, accessFlags := 18, slot := 2, constantValue := 0 }]
  methods := #[k11m0]
  instanceTypes := #[(.object "java/lang/String"), .int, .int]
  staticTypes := #[]
  resolved := Array.replicate 90 none
  statics := none }

def pool12 : Array CpInfo := pool [(1, .methodref 2 3), (0, .class_ 4), (0, .nameAndType 5 6), (0, u "java/lang/Record"), (0, u "<init>"), (0, u "()V"), (0, .fieldref 8 9), (0, .class_ 10), (0, .nameAndType 11 12), (0, u "com/example/fleetmarshal/fleetmarshal/CallOutcome"), (0, u "call"), (0, u "Lcom/example/fleetmarshal/fleetmarshal/Call;"), (0, .fieldref 8 14), (0, .nameAndType 15 16), (0, u "vehicle"), (0, u "Lcom/example/fleetmarshal/fleetmarshal/Vehicle;"), (0, .fieldref 8 18), (0, .nameAndType 19 20), (0, u "assigned"), (0, u "D"), (0, .fieldref 8 22), (0, .nameAndType 23 20), (0, u "sceneArrival"), (0, .fieldref 8 25), (0, .nameAndType 26 27), (0, u "hospital"), (0, u "Lcom/example/fleetmarshal/fleetmarshal/Hospital;"), (0, .fieldref 8 29), (0, .nameAndType 30 20), (0, u "hospitalArrival"), (0, .methodref 32 33), (0, .class_ 34), (0, .nameAndType 35 36), (0, u "com/example/fleetmarshal/fleetmarshal/Call"), (0, u "release"), (0, u "()D"), (8, u "response"), (18, u "(Lcom/example/fleetmarshal/fleetmarshal/Call;Lcom/example/fleetmarshal/fleetmarshal/Vehicle;DDLcom/example/fleetmarshal/fleetmarshal/Hospital;D)V")] 36

def k12c0 : Code := { maxStack := 3, maxLocals := 10, code := prog_4_method_1_code, exceptionTable := #[], attributes := #[] }
def k12m0 : Method := { name := "<init>", desc := "(Lcom/example/fleetmarshal/fleetmarshal/Call;Lcom/example/fleetmarshal/fleetmarshal/Vehicle;DDLcom/example/fleetmarshal/fleetmarshal/Hospital;D)V", sig := { parameters := [(.object "com/example/fleetmarshal/fleetmarshal/Call"), (.object "com/example/fleetmarshal/fleetmarshal/Vehicle"), .double, .double, (.object "com/example/fleetmarshal/fleetmarshal/Hospital"), .double], returnType := none }, accessFlags := 0, code := some k12c0 }
def k12c1 : Code := { maxStack := 4, maxLocals := 1, code := prog_4_method_2_code, exceptionTable := #[], attributes := #[] }
def k12m1 : Method := { name := "response", desc := "()D", sig := { parameters := [], returnType := some .double }, accessFlags := 0, code := some k12c1 }
/-- com/example/fleetmarshal/fleetmarshal/CallOutcome -/
def k12 : Class := { plain "com/example/fleetmarshal/fleetmarshal/CallOutcome" (some 2) with
  accessFlags := 48
  interfaces := #[]
  cf := some (fileOf pool12 8 #[] #[{ accessFlags := 0, nameIndex := 5, descriptorIndex := 64, attributes := #[] }, { accessFlags := 0, nameIndex := 45, descriptorIndex := 36, attributes := #[] }] 48 2 #[] #[{ accessFlags := 18, nameIndex := 11, descriptorIndex := 12, attributes := #[] }, { accessFlags := 18, nameIndex := 15, descriptorIndex := 16, attributes := #[] }, { accessFlags := 18, nameIndex := 19, descriptorIndex := 20, attributes := #[] }, { accessFlags := 18, nameIndex := 23, descriptorIndex := 20, attributes := #[] }, { accessFlags := 18, nameIndex := 26, descriptorIndex := 27, attributes := #[] }, { accessFlags := 18, nameIndex := 30, descriptorIndex := 20, attributes := #[] }])
  fields := #[{ name := "call", type := (.object "com/example/fleetmarshal/fleetmarshal/Call"), accessFlags := 18, slot := 0, constantValue := 0 }, { name := "vehicle", type := (.object "com/example/fleetmarshal/fleetmarshal/Vehicle"), accessFlags := 18, slot := 1, constantValue := 0 }, { name := "assigned", type := .double, accessFlags := 18, slot := 2, constantValue := 0 }, { name := "sceneArrival", type := .double, accessFlags := 18, slot := 3, constantValue := 0 }, { name := "hospital", type := (.object "com/example/fleetmarshal/fleetmarshal/Hospital"), accessFlags := 18, slot := 4, constantValue := 0 }, { name := "hospitalArrival", type := .double, accessFlags := 18, slot := 5, constantValue := 0 }]
  methods := #[k12m0, k12m1]
  instanceTypes := #[(.object "com/example/fleetmarshal/fleetmarshal/Call"), (.object "com/example/fleetmarshal/fleetmarshal/Vehicle"), .double, .double, (.object "com/example/fleetmarshal/fleetmarshal/Hospital"), .double]
  staticTypes := #[]
  resolved := Array.replicate 101 none
  statics := none }

def pool13 : Array CpInfo := pool [(1, u "java/lang/Cloneable"), (0, .class_ 1), (0, u "java/lang/Object"), (0, .class_ 3)] 3

/-- java/lang/Cloneable -/
def k13 : Class := { plain "java/lang/Cloneable" (some 0) with
  accessFlags := 1537
  interfaces := #[]
  cf := some (fileOf pool13 2 #[] #[] 1537 4 #[] #[])
  fields := #[]
  methods := #[]
  instanceTypes := #[]
  staticTypes := #[]
  resolved := Array.replicate 8 none
  statics := none }

/-- the primitive byte -/
def k14 : Class := { plain "byte" none with kind := .primitive 'B', accessFlags := 0x411 }
/-- [B -/
def k15 : Class := { plain "[B" (some 0) with kind := .array 14 .byte, interfaces := #[13, 5], accessFlags := 1041 }

/-- the primitive int -/
def k16 : Class := { plain "int" none with kind := .primitive 'I', accessFlags := 0x411 }
/-- [I -/
def k17 : Class := { plain "[I" (some 0) with kind := .array 16 .int, interfaces := #[13, 5], accessFlags := 1041 }

def heap : Heap := #[]
def classes : Array Class := #[k0, k1, k2, k3, k4, k5, k6, k7, k8, k9, k10, k11, k12, k13, k14, k15, k16, k17]
def interned : List (Array UInt16 × Addr) := []
def slotsUsed : Nat := 0
def theMethod : MethodId := ⟨1, 1⟩
def args0 : Array Value := #[.int 5, .int 6, .int 1, .int 7, .int 8]
def aboutOver (below : List Frame) : State where
  vm := { classes := classes, interned := interned.toArray }
  heap := heap
  slotsUsed := slotsUsed
  threads := #[{ frames := .invoking theMethod args0 :: below }]
def below0 : List Frame := [.native { method := ⟨0, 0⟩, args := #[] }]
def about1 : State := aboutOver below0
def p0 : Program := .bare "" "" ""
def e0 : Env := launch0.env 0 0 0
theorem w_frames : about1.frames = Frame.invoking theMethod args0 :: below0 := rfl
set_option maxRecDepth 65536 in
theorem w_args : argsFit about1.vm theMethod args0 = true := by decide +kernel
set_option maxRecDepth 65536 in
theorem w_heap : heapFits about1 = true := by decide +kernel
set_option maxRecDepth 65536 in
theorem w_runnable : about1.curStatus? = some .runnable := by decide +kernel
set_option maxRecDepth 65536 in
theorem w_alone : about1.alone = true := by decide +kernel
set_option maxRecDepth 65536 in
theorem w_named : about1.methodNamed? x = some theMethod := by decide +kernel
set_option maxRecDepth 65536 in
theorem w_hears : about1.hears theMethod below0 = true := by decide +kernel
set_option maxRecDepth 65536 in
theorem w_ripe : about1.ripe theMethod args0 below0 = true := by decide +kernel
theorem w_running : about1.status = .running := rfl
set_option maxRecDepth 65536 in
theorem w_room : about1.hasRoom e0.platform room_1 = true :=
  launch0.hasRoom_least _ room_1 (by decide +kernel) (by decide +kernel) (by decide +kernel) (by decide +kernel) (by decide +kernel) (by decide +kernel)
theorem allAtoms_all (ts : List Jvm.Cond) (a : Array Jvm.Value) (st : Jvm.State) : (allAtoms ts).before a st = ts.all (fun c => c.before a st) := by
  induction ts with
  | nil => rfl
  | cons c t ih =>
    show (Jvm.Cond.and c (allAtoms t)).before a st = _
    rw [Jvm.Cond.before_and, ih, List.all_cons]
def words1 : List Jvm.Cond := Jvm.Cond.code x code maxLocals ret :: tables_1
/-- a 'code' word, met by the world's own term for the bytes: nothing is compared byte by byte -/
theorem code_word {y : MethodName} {bytes : ByteArray} {mx : Nat} {rt : Option FieldType} {a : Array Value} {s : State} {m : MethodId} {meth : Method} {c : Code} (h1 : s.methodNamed? y = some m) (h2 : s.vm.method? m = some meth) (h3 : meth.code = some c) (h4 : c.code = bytes)
    (h5 : (c.maxLocals == mx && c.exceptionTable.isEmpty && decide (c.maxStack ≤ mostOperands) && decide (meth.sig.returnType = rt) && !meth.locks && decide (parseMethodDescriptor y.desc = some meth.sig)) = true) : (Jvm.Cond.code y bytes mx rt).before a s = true := by
  simp only [Bool.and_eq_true, beq_iff_eq, Bool.not_eq_true', decide_eq_true_eq] at h5
  obtain ⟨⟨⟨⟨⟨g1, g2⟩, g3⟩, g4⟩, g5⟩, g6⟩ := h5
  simp [Cond.before, Cond.holds, Cond.value, h1, h2, h3, h4, g1, g2, g3, g4, g5, g6]
def isCode : Jvm.Cond → Bool
  | .code _ _ _ _ => true
  | _ => false
theorem all_split {L : List Jvm.Cond} {P : Jvm.Cond → Bool} (h1 : L.all (fun c => isCode c || P c) = true) (h2 : ∀ c ∈ L.filter isCode, P c = true) : L.all P = true := by
  refine List.all_eq_true.mpr fun c hc => ?_
  have h := List.all_eq_true.mp h1 c hc
  rcases Bool.eq_false_or_eq_true (isCode c) with hi | hi
  · exact h2 c (List.mem_filter.mpr ⟨hc, hi⟩)
  · simpa [hi] using h
set_option maxRecDepth 65536 in
theorem w_c0 : (Jvm.Cond.code x code maxLocals ret).before args0 about1 = true := code_word (m := ⟨1, 1⟩) (meth := k1m1) (c := k1c1) (by decide +kernel) rfl rfl rfl (by decide +kernel)
set_option maxRecDepth 65536 in
theorem w_c1 : (Jvm.Cond.code ({ cls := "com/example/fleetmarshal/fleetmarshal/Call", name := "<init>", desc := "(Ljava/lang/String;DID)V" } : Jvm.MethodName) prog_1_method_1_code (7 : Nat) (Option.none : Option Jvm.ClassFile.FieldType)).before args0 about1 = true := code_word (m := ⟨4, 0⟩) (meth := k4m0) (c := k4c0) (by decide +kernel) rfl rfl rfl (by decide +kernel)
set_option maxRecDepth 65536 in
theorem w_c2 : (Jvm.Cond.code ({ cls := "java/lang/Record", name := "<init>", desc := "()V" } : Jvm.MethodName) jdk_30_method_1_code (1 : Nat) (Option.none : Option Jvm.ClassFile.FieldType)).before args0 about1 = true := code_word (m := ⟨2, 0⟩) (meth := k2m0) (c := k2c0) (by decide +kernel) rfl rfl rfl (by decide +kernel)
set_option maxRecDepth 65536 in
theorem w_c3 : (Jvm.Cond.code ({ cls := "java/lang/Object", name := "<init>", desc := "()V" } : Jvm.MethodName) object_method_1_code (1 : Nat) (Option.none : Option Jvm.ClassFile.FieldType)).before args0 about1 = true := code_word (m := ⟨0, 0⟩) (meth := k0m0) (c := k0c0) (by decide +kernel) rfl rfl rfl (by decide +kernel)
set_option maxRecDepth 65536 in
theorem w_c4 : (Jvm.Cond.code ({ cls := "com/example/fleetmarshal/fleetmarshal/Vehicle", name := "<init>", desc := "(Ljava/lang/String;II)V" } : Jvm.MethodName) prog_59_method_1_code (4 : Nat) (Option.none : Option Jvm.ClassFile.FieldType)).before args0 about1 = true := code_word (m := ⟨11, 0⟩) (meth := k11m0) (c := k11c0) (by decide +kernel) rfl rfl rfl (by decide +kernel)
set_option maxRecDepth 65536 in
theorem w_c5 : (Jvm.Cond.code ({ cls := "com/example/fleetmarshal/fleetmarshal/CallOutcome", name := "<init>", desc := "(Lcom/example/fleetmarshal/fleetmarshal/Call;Lcom/example/fleetmarshal/fleetmarshal/Vehicle;DDLcom/example/fleetmarshal/fleetmarshal/Hospital;D)V" } : Jvm.MethodName) prog_4_method_1_code (10 : Nat) (Option.none : Option Jvm.ClassFile.FieldType)).before args0 about1 = true := code_word (m := ⟨12, 0⟩) (meth := k12m0) (c := k12c0) (by decide +kernel) rfl rfl rfl (by decide +kernel)
set_option maxRecDepth 65536 in
theorem w_c6 : (Jvm.Cond.code ({ cls := "com/example/fleetmarshal/fleetmarshal/CallOutcome", name := "response", desc := "()D" } : Jvm.MethodName) prog_4_method_2_code (1 : Nat) (Option.some Jvm.ClassFile.FieldType.double)).before args0 about1 = true := code_word (m := ⟨12, 1⟩) (meth := k12m1) (c := k12c1) (by decide +kernel) rfl rfl rfl (by decide +kernel)
set_option maxRecDepth 65536 in
theorem w_c7 : (Jvm.Cond.code ({ cls := "com/example/fleetmarshal/fleetmarshal/Call", name := "release", desc := "()D" } : Jvm.MethodName) prog_1_method_8_code (1 : Nat) (Option.some Jvm.ClassFile.FieldType.double)).before args0 about1 = true := code_word (m := ⟨4, 1⟩) (meth := k4m1) (c := k4c1) (by decide +kernel) rfl rfl rfl (by decide +kernel)
def codes1 : List Jvm.Cond := [Jvm.Cond.code x code maxLocals ret, Jvm.Cond.code ({ cls := "com/example/fleetmarshal/fleetmarshal/Call", name := "<init>", desc := "(Ljava/lang/String;DID)V" } : Jvm.MethodName) prog_1_method_1_code (7 : Nat) (Option.none : Option Jvm.ClassFile.FieldType), Jvm.Cond.code ({ cls := "java/lang/Record", name := "<init>", desc := "()V" } : Jvm.MethodName) jdk_30_method_1_code (1 : Nat) (Option.none : Option Jvm.ClassFile.FieldType), Jvm.Cond.code ({ cls := "java/lang/Object", name := "<init>", desc := "()V" } : Jvm.MethodName) object_method_1_code (1 : Nat) (Option.none : Option Jvm.ClassFile.FieldType), Jvm.Cond.code ({ cls := "com/example/fleetmarshal/fleetmarshal/Vehicle", name := "<init>", desc := "(Ljava/lang/String;II)V" } : Jvm.MethodName) prog_59_method_1_code (4 : Nat) (Option.none : Option Jvm.ClassFile.FieldType), Jvm.Cond.code ({ cls := "com/example/fleetmarshal/fleetmarshal/CallOutcome", name := "<init>", desc := "(Lcom/example/fleetmarshal/fleetmarshal/Call;Lcom/example/fleetmarshal/fleetmarshal/Vehicle;DDLcom/example/fleetmarshal/fleetmarshal/Hospital;D)V" } : Jvm.MethodName) prog_4_method_1_code (10 : Nat) (Option.none : Option Jvm.ClassFile.FieldType), Jvm.Cond.code ({ cls := "com/example/fleetmarshal/fleetmarshal/CallOutcome", name := "response", desc := "()D" } : Jvm.MethodName) prog_4_method_2_code (1 : Nat) (Option.some Jvm.ClassFile.FieldType.double), Jvm.Cond.code ({ cls := "com/example/fleetmarshal/fleetmarshal/Call", name := "release", desc := "()D" } : Jvm.MethodName) prog_1_method_8_code (1 : Nat) (Option.some Jvm.ClassFile.FieldType.double)]
set_option maxRecDepth 65536 in
theorem codes_eq : words1.filter isCode = codes1 := rfl
theorem w_codes : ∀ c ∈ words1.filter isCode, c.before args0 about1 = true := by
  rw [codes_eq]
  intro c hc
  simp only [codes1, List.mem_cons, List.not_mem_nil, or_false] at hc
  rcases hc with rfl | rfl | rfl | rfl | rfl | rfl | rfl | rfl
  · exact w_c0
  · exact w_c1
  · exact w_c2
  · exact w_c3
  · exact w_c4
  · exact w_c5
  · exact w_c6
  · exact w_c7
set_option maxRecDepth 65536 in
theorem w_t1 : (words1.take 24).all (fun c => isCode c || c.before args0 about1) = true := by decide +kernel
set_option maxRecDepth 65536 in
theorem w_t2 : ((words1.drop 24).take 24).all (fun c => isCode c || c.before args0 about1) = true := by decide +kernel
set_option maxRecDepth 65536 in
theorem w_t3 : (((words1.drop 24).drop 24).take 24).all (fun c => isCode c || c.before args0 about1) = true := by decide +kernel
set_option maxRecDepth 65536 in
theorem w_t4 : (((words1.drop 24).drop 24).drop 24).all (fun c => isCode c || c.before args0 about1) = true := by decide +kernel
theorem w_tables : (allAtoms (Jvm.Cond.code x code maxLocals ret :: tables_1)).before args0 about1 = true := by
  rw [allAtoms_all]
  show words1.all (fun c => c.before args0 about1) = true
  refine all_split ?_ w_codes
  rw [← List.take_append_drop 24 words1, List.all_append, w_t1, ← List.take_append_drop 24 (words1.drop 24), List.all_append, w_t2, ← List.take_append_drop 24 ((words1.drop 24).drop 24), List.all_append, w_t3, w_t4]
  rfl
set_option maxRecDepth 65536 in
theorem w_case : (Jvm.Cond.and given_1 narrow_1).before args0 about1 = true := by decide +kernel
theorem w_applies : (headSpec (Jvm.Cond.code x code maxLocals ret :: tables_1) room_1).applies x e0.platform about1 = true :=
  (Spec.applies_iff w_frames).mpr ⟨w_running, w_runnable, w_alone, w_named, w_hears, w_ripe, w_room, w_tables⟩
theorem atStart : AtStart classFile x code maxLocals ret World_1 tables_1 room_1 Calls_1 rest_1 Pre_1 launch0 p0 e0 about1 theMethod args0 below0 :=
  ⟨lists_1, trivial, launch0.admits_env _ _ _, launch0.least_env, fairChoices_fair.cas, fairChoices_fair.clock, w_frames, w_args, w_heap, w_applies, trivial, trivial, w_case⟩
end start1
theorem witness_1 : WitnessClaimed_1 := ⟨start1.p0, start1.e0, start1.about1, start1.theMethod, start1.args0, start1.below0, start1.atStart⟩
end Jvm.Pilot.@@N@@
