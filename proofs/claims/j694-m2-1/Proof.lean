import JvmDerived
import JvmDerived.Pilot.@@N@@Statement
import JvmDerived.Pilot.@@N@@Code
set_option linter.unusedVariables false
set_option linter.unusedSimpArgs false
namespace Jvm.RoadKit
open Sem ClassFile Op Lib Jvm.Stand Jvm.Free Jvm.LawKit
section New
variable {p : Program} {l : Launch} {e : Env} {R : Room} {s : State} {m : MethodId} {args : Array Value} {below : List Frame} {meth : Method} {c : Code} {T : State} {locs : List Loc} {cells slots : Nat}
theorem retI (X : Stand p l e R s m args below meth c T locs cells slots) (hx : p.tables.exec = Jvm.exec) {pc : Nat} {Ls : Array Slot} {z : Int32} {rest : List Value} (hret : meth.sig.returnType = some .int) (hd : decode c.code pc = .ok (.ireturn, 1)) {fs : List Frame}
    (hl : ∀ (f : JFrame) (acts : List Action), f.method = m → f.locked = none → f.entered = [] → (doReturn e (T.setTop f) acts (some (.int z))).1 = T.setFrames fs) : Steps p.tables e below (T.setTop (mkF m pc Ls (.int z :: rest))) (T.setFrames fs) := by
  have hm' : T.vm.method? m = some meth := X.method'
  have hn : narrow .int (.int z) = .int z := rfl
  show Steps p.tables e below (T.setTop { method := m, pc := pc, locals := Ls, stack := _ :: rest, locked := none }) _
  jvm_step X.here [X.here.top, hx, hd, hm', hret, hn]
  first | (intro acts; rw [hl _ acts rfl rfl rfl]) | rw [hl _ _ rfl rfl rfl]
  exact Steps.refl _
theorem own_retJ (X : Stand p l e R s m args below meth c T locs cells slots) (hx : p.tables.exec = Jvm.exec) {pc : Nat} {Ls : Array Slot} {z : Int64} {rest : List Value} (hret : meth.sig.returnType = some .long) (hd : decode c.code pc = .ok (.lreturn, 1)) {fs : List Frame}
    (hl : ∀ (f : JFrame) (acts : List Action), f.method = m → f.locked = none → f.entered = [] → (doReturn e (T.setTop f) acts (some (.long z))).1 = T.setFrames fs) : Steps p.tables e below (T.setTop (mkF m pc Ls (.long z :: rest))) (T.setFrames fs) := by
  have hm' : T.vm.method? m = some meth := X.method'
  show Steps p.tables e below (T.setTop { method := m, pc := pc, locals := Ls, stack := _ :: rest, locked := none }) _
  jvm_step X.here [X.here.top, hx, hd, hm', hret, narrow]
  first | (intro acts; rw [hl _ acts rfl rfl rfl]) | rw [hl _ _ rfl rfl rfl]
  exact Steps.refl _
theorem own_retD (X : Stand p l e R s m args below meth c T locs cells slots) (hx : p.tables.exec = Jvm.exec) {pc : Nat} {Ls : Array Slot} {z : UInt64} {rest : List Value} (hret : meth.sig.returnType = some .double) (hd : decode c.code pc = .ok (.dreturn, 1)) {fs : List Frame}
    (hl : ∀ (f : JFrame) (acts : List Action), f.method = m → f.locked = none → f.entered = [] → (doReturn e (T.setTop f) acts (some (.double z))).1 = T.setFrames fs) : Steps p.tables e below (T.setTop (mkF m pc Ls (.double z :: rest))) (T.setFrames fs) := by
  have hm' : T.vm.method? m = some meth := X.method'
  show Steps p.tables e below (T.setTop { method := m, pc := pc, locals := Ls, stack := _ :: rest, locked := none }) _
  jvm_step X.here [X.here.top, hx, hd, hm', hret, narrow]
  first | (intro acts; rw [hl _ acts rfl rfl rfl]) | rw [hl _ _ rfl rfl rfl]
  exact Steps.refl _
/-- from T, with the frame g on top, the run comes to an end of the kind that Q tells; Fe: the frame of that end -/
def Goes (p : Program) (e : Env) (below : List Frame) (s : State) (Fe : State → Outcome → State → List Loc → Nat → Nat → Prop) (kc ks : Nat) (Q : Option Value → Heap → List Loc → Prop) (T : State) (g : JFrame) : Prop :=
  ∃ s₂ o, Steps p.tables e below (T.setTop g) s₂ ∧ s₂.status = .running ∧ Ended s₂ below o ∧ ∃ v L, o = .returned v ∧ Q v s₂.heap L ∧ Fe s o s₂ L kc ks
/-- a wide end that keeps the invariant of the held constants -/
def HeldEnd (Z : State) (EL : List (String × Nat)) (s : State) (o : Outcome) (t : State) (L : List Loc) (k n : Nat) : Prop := CHr Z EL s.vm s.heap t.vm t.heap ∧ ReturnedEndW s o t L k n
variable {kc ks : Nat} {Q : Option Value → Heap → List Loc → Prop} {T' : State} {Fe : State → Outcome → State → List Loc → Nat → Nat → Prop}
theorem Goes.go {g g' : JFrame} (h : ∀ t, Steps p.tables e below (T'.setTop g') t → Steps p.tables e below (T.setTop g) t) (k : Goes p e below s Fe kc ks Q T' g') : Goes p e below s Fe kc ks Q T g := by
  obtain ⟨s₂, o, h1, h2⟩ := k
  exact ⟨s₂, o, h _ h1, h2⟩
theorem Goes.to {g : JFrame} (g' : JFrame) (h : ∀ t, Steps p.tables e below (T'.setTop g') t → Steps p.tables e below (T.setTop g) t) (k : Goes p e below s Fe kc ks Q T' g') : Goes p e below s Fe kc ks Q T g := k.go h
theorem Goes.cast {g g' : JFrame} (q : g = g') (k : Goes p e below s Fe kc ks Q T g') : Goes p e below s Fe kc ks Q T g := q ▸ k
theorem Goes.retN (X : Stand p l e R s m args below meth c T locs cells slots) (hx : p.tables.exec = Jvm.exec) (hlk : meth.locks = false) {pc : Nat} {Ls : Array Slot} {z : Int32} {t : FieldType} {rest : List Value} (hret : meth.sig.returnType = some t) (ht : t = .boolean ∨ t = .byte ∨ t = .char ∨ t = .short) (hd : decode c.code pc = .ok (.ireturn, 1)) (hc : cells ≤ kc) (hs : slots ≤ ks) (hQ : Q (some (.int (nar t z))) T.heap locs) : Goes p e below s FrameEnd kc ks Q T (mkF m pc Ls (.int z :: rest)) := by
  obtain ⟨fs, hr, hrun, hended, hW, hsame⟩ := X.leave (v := some (.int (nar t z))) (fun h => by rw [hret] at h; cases h) hlk
  exact ⟨_, _, RoadKit.retN X hx hret ht hd hr, hrun, hended, _, _, rfl, hQ, ⟨_, rfl⟩, hW, hsame.mono hc hs⟩
theorem Goes.retNW {vm1 : Vm} {k0 : Nat} (X : Stand p l e R (s.setVm vm1) m args below meth c T locs cells slots) (hx : p.tables.exec = Jvm.exec) (hlk : meth.locks = false) (hS : s.Since vm1 k0) (hk : k0 ≤ T.heap.size) {pc : Nat} {Ls : Array Slot} {z : Int32} {t : FieldType} {rest : List Value} (hret : meth.sig.returnType = some t) (ht : t = .boolean ∨ t = .byte ∨ t = .char ∨ t = .short) (hd : decode c.code pc = .ok (.ireturn, 1)) (hc : cells ≤ kc) (hs : slots ≤ ks) (hQ : Q (some (.int (nar t z))) T.heap locs) : Goes p e below s ReturnedEndW kc ks Q T (mkF m pc Ls (.int z :: rest)) := by
  obtain ⟨fs, hr, hrun, hended, h1, h2, h3, hsame⟩ := X.leaveW hS hk (v := some (.int (nar t z))) (fun h => by rw [hret] at h; cases h) hlk
  exact ⟨_, _, RoadKit.retN X hx hret ht hd hr, hrun, hended, _, _, rfl, hQ, h1, h2, h3, hsame.mono hc hs⟩
theorem Goes.retI (X : Stand p l e R s m args below meth c T locs cells slots) (hx : p.tables.exec = Jvm.exec) (hlk : meth.locks = false) {pc : Nat} {Ls : Array Slot} {z : Int32} {rest : List Value} (hret : meth.sig.returnType = some .int) (hd : decode c.code pc = .ok (.ireturn, 1)) (hc : cells ≤ kc) (hs : slots ≤ ks) (hQ : Q (some (.int z)) T.heap locs) : Goes p e below s FrameEnd kc ks Q T (mkF m pc Ls (.int z :: rest)) := by
  obtain ⟨fs, hr, hrun, hended, hW, hsame⟩ := X.leave (v := some (.int z)) (fun h => by rw [hret] at h; cases h) hlk
  exact ⟨_, _, RoadKit.retI X hx hret hd hr, hrun, hended, _, _, rfl, hQ, ⟨_, rfl⟩, hW, hsame.mono hc hs⟩
theorem Goes.retIW {vm1 : Vm} {k0 : Nat} (X : Stand p l e R (s.setVm vm1) m args below meth c T locs cells slots) (hx : p.tables.exec = Jvm.exec) (hlk : meth.locks = false) (hS : s.Since vm1 k0) (hk : k0 ≤ T.heap.size) {pc : Nat} {Ls : Array Slot} {z : Int32} {rest : List Value} (hret : meth.sig.returnType = some .int) (hd : decode c.code pc = .ok (.ireturn, 1)) (hc : cells ≤ kc) (hs : slots ≤ ks) (hQ : Q (some (.int z)) T.heap locs) : Goes p e below s ReturnedEndW kc ks Q T (mkF m pc Ls (.int z :: rest)) := by
  obtain ⟨fs, hr, hrun, hended, h1, h2, h3, hsame⟩ := X.leaveW hS hk (v := some (.int z)) (fun h => by rw [hret] at h; cases h) hlk
  exact ⟨_, _, RoadKit.retI X hx hret hd hr, hrun, hended, _, _, rfl, hQ, h1, h2, h3, hsame.mono hc hs⟩
theorem Goes.retJ (X : Stand p l e R s m args below meth c T locs cells slots) (hx : p.tables.exec = Jvm.exec) (hlk : meth.locks = false) {pc : Nat} {Ls : Array Slot} {z : Int64} {rest : List Value} (hret : meth.sig.returnType = some .long) (hd : decode c.code pc = .ok (.lreturn, 1)) (hc : cells ≤ kc) (hs : slots ≤ ks) (hQ : Q (some (.long z)) T.heap locs) : Goes p e below s FrameEnd kc ks Q T (mkF m pc Ls (.long z :: rest)) := by
  obtain ⟨fs, hr, hrun, hended, hW, hsame⟩ := X.leave (v := some (.long z)) (fun h => by rw [hret] at h; cases h) hlk
  exact ⟨_, _, own_retJ X hx hret hd hr, hrun, hended, _, _, rfl, hQ, ⟨_, rfl⟩, hW, hsame.mono hc hs⟩
theorem Goes.retJW {vm1 : Vm} {k0 : Nat} (X : Stand p l e R (s.setVm vm1) m args below meth c T locs cells slots) (hx : p.tables.exec = Jvm.exec) (hlk : meth.locks = false) (hS : s.Since vm1 k0) (hk : k0 ≤ T.heap.size) {pc : Nat} {Ls : Array Slot} {z : Int64} {rest : List Value} (hret : meth.sig.returnType = some .long) (hd : decode c.code pc = .ok (.lreturn, 1)) (hc : cells ≤ kc) (hs : slots ≤ ks) (hQ : Q (some (.long z)) T.heap locs) : Goes p e below s ReturnedEndW kc ks Q T (mkF m pc Ls (.long z :: rest)) := by
  obtain ⟨fs, hr, hrun, hended, h1, h2, h3, hsame⟩ := X.leaveW hS hk (v := some (.long z)) (fun h => by rw [hret] at h; cases h) hlk
  exact ⟨_, _, own_retJ X hx hret hd hr, hrun, hended, _, _, rfl, hQ, h1, h2, h3, hsame.mono hc hs⟩
theorem Goes.retD (X : Stand p l e R s m args below meth c T locs cells slots) (hx : p.tables.exec = Jvm.exec) (hlk : meth.locks = false) {pc : Nat} {Ls : Array Slot} {z : UInt64} {rest : List Value} (hret : meth.sig.returnType = some .double) (hd : decode c.code pc = .ok (.dreturn, 1)) (hc : cells ≤ kc) (hs : slots ≤ ks) (hQ : Q (some (.double z)) T.heap locs) : Goes p e below s FrameEnd kc ks Q T (mkF m pc Ls (.double z :: rest)) := by
  obtain ⟨fs, hr, hrun, hended, hW, hsame⟩ := X.leave (v := some (.double z)) (fun h => by rw [hret] at h; cases h) hlk
  exact ⟨_, _, own_retD X hx hret hd hr, hrun, hended, _, _, rfl, hQ, ⟨_, rfl⟩, hW, hsame.mono hc hs⟩
theorem Goes.retDW {vm1 : Vm} {k0 : Nat} (X : Stand p l e R (s.setVm vm1) m args below meth c T locs cells slots) (hx : p.tables.exec = Jvm.exec) (hlk : meth.locks = false) (hS : s.Since vm1 k0) (hk : k0 ≤ T.heap.size) {pc : Nat} {Ls : Array Slot} {z : UInt64} {rest : List Value} (hret : meth.sig.returnType = some .double) (hd : decode c.code pc = .ok (.dreturn, 1)) (hc : cells ≤ kc) (hs : slots ≤ ks) (hQ : Q (some (.double z)) T.heap locs) : Goes p e below s ReturnedEndW kc ks Q T (mkF m pc Ls (.double z :: rest)) := by
  obtain ⟨fs, hr, hrun, hended, h1, h2, h3, hsame⟩ := X.leaveW hS hk (v := some (.double z)) (fun h => by rw [hret] at h; cases h) hlk
  exact ⟨_, _, own_retD X hx hret hd hr, hrun, hended, _, _, rfl, hQ, h1, h2, h3, hsame.mono hc hs⟩
theorem Goes.retA (X : Stand p l e R s m args below meth c T locs cells slots) (hx : p.tables.exec = Jvm.exec) (hlk : meth.locks = false) {pc : Nat} {Ls : Array Slot} {w : Value} {t : FieldType} (hw : w.isRef = true) (hret : meth.sig.returnType = some t) (ht : t.isReference = true) (hd : decode c.code pc = .ok (.areturn, 1)) (hc : cells ≤ kc) (hs : slots ≤ ks) (hQ : Q (some w) T.heap locs) : Goes p e below s FrameEnd kc ks Q T (mkF m pc Ls [w]) := by
  obtain ⟨fs, hr, hrun, hended, hW, hsame⟩ := X.leave (v := some w) (fun h => by rw [hret] at h; cases h) hlk
  exact ⟨_, _, X.areturnOut hx hw hret ht hd hr, hrun, hended, _, _, rfl, hQ, ⟨_, rfl⟩, hW, hsame.mono hc hs⟩
theorem Goes.retAW {vm1 : Vm} {k0 : Nat} (X : Stand p l e R (s.setVm vm1) m args below meth c T locs cells slots) (hx : p.tables.exec = Jvm.exec) (hlk : meth.locks = false) (hS : s.Since vm1 k0) (hk : k0 ≤ T.heap.size) {pc : Nat} {Ls : Array Slot} {w : Value} {t : FieldType} (hw : w.isRef = true) (hret : meth.sig.returnType = some t) (ht : t.isReference = true) (hd : decode c.code pc = .ok (.areturn, 1)) (hc : cells ≤ kc) (hs : slots ≤ ks) (hQ : Q (some w) T.heap locs) : Goes p e below s ReturnedEndW kc ks Q T (mkF m pc Ls [w]) := by
  obtain ⟨fs, hr, hrun, hended, h1, h2, h3, hsame⟩ := X.leaveW hS hk (v := some w) (fun h => by rw [hret] at h; cases h) hlk
  exact ⟨_, _, X.areturnOut hx hw hret ht hd hr, hrun, hended, _, _, rfl, hQ, h1, h2, h3, hsame.mono hc hs⟩
theorem Goes.retV (X : Stand p l e R s m args below meth c T locs cells slots) (hx : p.tables.exec = Jvm.exec) (hlk : meth.locks = false) {pc : Nat} {Ls : Array Slot} (hret : meth.sig.returnType = none) (hd : decode c.code pc = .ok (.return_, 1)) (hc : cells ≤ kc) (hs : slots ≤ ks) (hQ : Q (none) T.heap locs) : Goes p e below s FrameEnd kc ks Q T (mkF m pc Ls []) := by
  obtain ⟨fs, hr, hrun, hended, hW, hsame⟩ := X.leave (v := none) (fun _ => rfl) hlk
  exact ⟨_, _, X.returnOut hx hret hd hr, hrun, hended, _, _, rfl, hQ, ⟨_, rfl⟩, hW, hsame.mono hc hs⟩
theorem Goes.retVW {vm1 : Vm} {k0 : Nat} (X : Stand p l e R (s.setVm vm1) m args below meth c T locs cells slots) (hx : p.tables.exec = Jvm.exec) (hlk : meth.locks = false) (hS : s.Since vm1 k0) (hk : k0 ≤ T.heap.size) {pc : Nat} {Ls : Array Slot} (hret : meth.sig.returnType = none) (hd : decode c.code pc = .ok (.return_, 1)) (hc : cells ≤ kc) (hs : slots ≤ ks) (hQ : Q (none) T.heap locs) : Goes p e below s ReturnedEndW kc ks Q T (mkF m pc Ls []) := by
  obtain ⟨fs, hr, hrun, hended, h1, h2, h3, hsame⟩ := X.leaveW hS hk (v := none) (fun _ => rfl) hlk
  exact ⟨_, _, X.returnOut hx hret hd hr, hrun, hended, _, _, rfl, hQ, h1, h2, h3, hsame.mono hc hs⟩
theorem Goes.retNH {vm1 : Vm} {k0 : Nat} {Z : State} {a0 : Array Value} {EL : List (String × Nat)} (X : Stand p l e R (s.setVm vm1) m args below meth c T locs cells slots) (hx : p.tables.exec = Jvm.exec) (hlk : meth.locks = false) (hS : s.Since vm1 k0) (hk : k0 ≤ T.heap.size) (hZ : Z.Warmed39 vm1) (hEL : EW Z a0 EL) (C : CHr Z EL s.vm s.heap vm1 T.heap) {pc : Nat} {Ls : Array Slot} {z : Int32} {t : FieldType} {rest : List Value} (hret : meth.sig.returnType = some t) (ht : t = .boolean ∨ t = .byte ∨ t = .char ∨ t = .short) (hd : decode c.code pc = .ok (.ireturn, 1)) (hc : cells ≤ kc) (hs : slots ≤ ks) (hQ : Q (some (.int (nar t z))) T.heap locs) : Goes p e below s (HeldEnd Z EL) kc ks Q T (mkF m pc Ls (.int z :: rest)) := by
  obtain ⟨fs, hr, hrun, hended, h1, h2, h3, hsame⟩ := X.leaveW hS hk (v := some (.int (nar t z))) (fun h => by rw [hret] at h; cases h) hlk
  exact ⟨_, _, RoadKit.retN X hx hret ht hd hr, hrun, hended, _, _, rfl, hQ, C.trans (CHv.at (T := T) X hZ hEL C.1), h1, h2, h3, hsame.mono hc hs⟩
theorem Goes.retIH {vm1 : Vm} {k0 : Nat} {Z : State} {a0 : Array Value} {EL : List (String × Nat)} (X : Stand p l e R (s.setVm vm1) m args below meth c T locs cells slots) (hx : p.tables.exec = Jvm.exec) (hlk : meth.locks = false) (hS : s.Since vm1 k0) (hk : k0 ≤ T.heap.size) (hZ : Z.Warmed39 vm1) (hEL : EW Z a0 EL) (C : CHr Z EL s.vm s.heap vm1 T.heap) {pc : Nat} {Ls : Array Slot} {z : Int32} {rest : List Value} (hret : meth.sig.returnType = some .int) (hd : decode c.code pc = .ok (.ireturn, 1)) (hc : cells ≤ kc) (hs : slots ≤ ks) (hQ : Q (some (.int z)) T.heap locs) : Goes p e below s (HeldEnd Z EL) kc ks Q T (mkF m pc Ls (.int z :: rest)) := by
  obtain ⟨fs, hr, hrun, hended, h1, h2, h3, hsame⟩ := X.leaveW hS hk (v := some (.int z)) (fun h => by rw [hret] at h; cases h) hlk
  exact ⟨_, _, RoadKit.retI X hx hret hd hr, hrun, hended, _, _, rfl, hQ, C.trans (CHv.at (T := T) X hZ hEL C.1), h1, h2, h3, hsame.mono hc hs⟩
theorem Goes.retAH {vm1 : Vm} {k0 : Nat} {Z : State} {a0 : Array Value} {EL : List (String × Nat)} (X : Stand p l e R (s.setVm vm1) m args below meth c T locs cells slots) (hx : p.tables.exec = Jvm.exec) (hlk : meth.locks = false) (hS : s.Since vm1 k0) (hk : k0 ≤ T.heap.size) (hZ : Z.Warmed39 vm1) (hEL : EW Z a0 EL) (C : CHr Z EL s.vm s.heap vm1 T.heap) {pc : Nat} {Ls : Array Slot} {w : Value} {t : FieldType} (hw : w.isRef = true) (hret : meth.sig.returnType = some t) (ht : t.isReference = true) (hd : decode c.code pc = .ok (.areturn, 1)) (hc : cells ≤ kc) (hs : slots ≤ ks) (hQ : Q (some w) T.heap locs) : Goes p e below s (HeldEnd Z EL) kc ks Q T (mkF m pc Ls [w]) := by
  obtain ⟨fs, hr, hrun, hended, h1, h2, h3, hsame⟩ := X.leaveW hS hk (v := some w) (fun h => by rw [hret] at h; cases h) hlk
  exact ⟨_, _, X.areturnOut hx hw hret ht hd hr, hrun, hended, _, _, rfl, hQ, C.trans (CHv.at (T := T) X hZ hEL C.1), h1, h2, h3, hsame.mono hc hs⟩
theorem Goes.retVH {vm1 : Vm} {k0 : Nat} {Z : State} {a0 : Array Value} {EL : List (String × Nat)} (X : Stand p l e R (s.setVm vm1) m args below meth c T locs cells slots) (hx : p.tables.exec = Jvm.exec) (hlk : meth.locks = false) (hS : s.Since vm1 k0) (hk : k0 ≤ T.heap.size) (hZ : Z.Warmed39 vm1) (hEL : EW Z a0 EL) (C : CHr Z EL s.vm s.heap vm1 T.heap) {pc : Nat} {Ls : Array Slot} (hret : meth.sig.returnType = none) (hd : decode c.code pc = .ok (.return_, 1)) (hc : cells ≤ kc) (hs : slots ≤ ks) (hQ : Q (none) T.heap locs) : Goes p e below s (HeldEnd Z EL) kc ks Q T (mkF m pc Ls []) := by
  obtain ⟨fs, hr, hrun, hended, h1, h2, h3, hsame⟩ := X.leaveW hS hk (v := none) (fun _ => rfl) hlk
  exact ⟨_, _, X.returnOut hx hret hd hr, hrun, hended, _, _, rfl, hQ, C.trans (CHv.at (T := T) X hZ hEL C.1), h1, h2, h3, hsame.mono hc hs⟩
end New
/-- a boolean as the machine holds it -/
def bit (P : Prop) [Decidable P] : Int32 := if P then 1 else 0
theorem bit_t {P : Prop} [Decidable P] (h : P) : bit P = 1 := if_pos h
theorem bit_f {P : Prop} [Decidable P] (h : ¬ P) : bit P = 0 := if_neg h
theorem nar_bit (P : Prop) [Decidable P] : nar .boolean (bit P) = bit P := by unfold bit; split <;> rfl
theorem bit_ne {P : Prop} [Decidable P] : ¬ bit P = 0 ↔ P := by unfold bit; split <;> simp_all
theorem bit_eq {P R : Prop} [Decidable P] [Decidable R] : bit P = bit R ↔ (P ↔ R) := by unfold bit; split <;> split <;> simp_all
theorem own_selPriv {Z s : State} {a0 args : Array Value} {y : MethodName} {n : Nat} (hZ : Z.Warmed39 s.vm) (wi : (Cond.instantiable y.cls n).before a0 Z = true) (wp : (Cond.privateMethod y).before a0 Z = true) (wm : (Cond.instanceMethod y).before a0 Z = true) (hy : y.cls ≠ "java/lang/invoke/MethodHandle" ∧ y.cls ≠ "java/lang/invoke/VarHandle") : (Cond.selects y.cls y y).before args s = true := by
  obtain ⟨c, k, h1, h2, h3, h4, -⟩ := Cond.instantiable_spec (mv hZ wi : (Cond.instantiable y.cls n).before args s = true)
  exact selects_self_of_private h1 h2 (Bool.or_eq_false_iff.mp h4).1 (Cond.privateMethod_at (mvP hZ wp (args := args))) (mv hZ wm) hy
theorem own_fldI {s : State} {args : Array Value} {t : Term} {a : Addr} {C n d : String} {k : Int32} (ev : t.eval args s none [] s = some (.ref a)) (h : (Jvm.Cond.eq (Term.field t C n d) (Term.int k)).value args s none s [] = some true) : Fld s s.heap a C n d (.int k) := by
  obtain ⟨x, y, h1, h2, h3, h4⟩ := cmp_v (Or.inl h)
  obtain rfl : Value.int k = y := Option.some.inj h2
  obtain ⟨z, rfl⟩ := h4
  have q : z = k := by simpa [Cond.value, h1, h2] using h
  subst q
  exact Fld.start ((fld_at ev).symm.trans h1)
end Jvm.RoadKit
namespace Jvm.Pilot.@@N@@
open Jvm Jvm.ClassFile Sem Op Lib Jvm.Free Jvm.Stand Jvm.LawKit Jvm.RoadKit Bundle Jvm.Pilot.@@N@@.Jvm.D
/-- the class C has its Class object, at mr -/
def own_Mir (Z : State) (C : String) (mr : Addr) : Prop := ∃ (c : ClassId) (k : Class), Z.vm.findClass C = some c ∧ Z.vm.classes[c]? = some k ∧ k.mirror = some mr
theorem own_gcls {p : Program} {l : Launch} {e : Env} {R : Room} {s : State} {m : MethodId} {args : Array Value} {below : List Frame} {meth : Method} {c : Code} {T : State} {locs : List Loc} {cells slots : Nat} {Z : State} {h : Heap} {a : Addr} (X : Stand p l e R s m args below meth c T locs cells slots) (hx : p.tables.exec = Jvm.exec) (hZ : Z.Warmed39 s.vm) {a0 : Array Value} {own C : String} {index : Nat} (hown : s.vm.findClass own = some m.cls)
    (w1 : (Jvm.Cond.methodLink own index ⟨"java/lang/Object", "getClass", "()Ljava/lang/Class;"⟩).before a0 Z = true) (w2 : (Jvm.Cond.declares ⟨"java/lang/Object", "getClass", "()Ljava/lang/Class;"⟩).before a0 Z = true) (w4 : (Jvm.Cond.selects C ⟨"java/lang/Object", "getClass", "()Ljava/lang/Class;"⟩ ⟨"java/lang/Object", "getClass", "()Ljava/lang/Class;"⟩).before a0 Z = true)
    (w5 : (Jvm.Cond.instanceMethod ⟨"java/lang/Object", "getClass", "()Ljava/lang/Class;"⟩).before a0 Z = true) (w6 : (Jvm.Cond.native ⟨"java/lang/Object", "getClass", "()Ljava/lang/Class;"⟩).before a0 Z = true) (eT : T.heap = h) (E : Exa Z h a C) {mr : Addr} (M : own_Mir Z C mr)
    {g : JFrame} (hg : g.method = m) (hsize : g.locals.size = c.maxLocals) {rest : List Value} (hs : g.stack = .ref a :: rest) (hd : decode c.code g.pc = .ok (.invokevirtual index, 3)) (hf : 1 ≤ R.frames) {W : Nat} (hW : 2 * g.monitorRoom + (rest.map fun v => v.category).sum ≤ W) (hl : W + (nativeFrameWords "java/lang/Object" "getClass" 1 + 11) ≤ R.locals) :
    ∃ T', Stand p l e R s m args below meth c T' locs cells slots ∧ T'.heap = h ∧ ∀ target, Steps p.tables e below (T'.setTop { g with pc := g.pc + 3, stack := .ref mr :: rest }) target → Steps p.tables e below (T.setTop g) target := by
  obtain ⟨cB, kB, i1, i2, i3⟩ := isOf hZ eT E
  obtain ⟨cc, kc, m1, m2, m3⟩ := M
  rw [hZ.alike.findClass] at i1
  cases i1.symm.trans m1
  obtain ⟨k', q, ek⟩ := hZ.alike.2.2 _ _ m2
  obtain ⟨vm', X', st⟩ := X.getClassOf hx hown (mvT hZ w1) (mvT hZ w2) (notFace_of_selects (args := #[]) (mvT hZ w4)) (mvT hZ w4) (mvT hZ w5) (mvT hZ w6) (by rw [hZ.alike.findClass]; exact m1) i3 q (by rw [ek]; exact m3) hg hsize hs hd hf (by omega)
  exact ⟨_, X', eT, st⟩
def own_pick (k : Int32) (a b c : Addr) : Addr := if k = 0 then a else if k = 1 then b else c
theorem pn_com_example_catalog_access_rules_catalogaccessrules_CatalogAccessIncludesPinLaw : plainName "com/example/catalog_access_rules/catalogaccessrules/CatalogAccessIncludesPinLaw" = true := by first | (simp [plainName, overriddenIn]; done) | decide +kernel
theorem ef_rm_pick (m : MethodId) (x0 : Int32) : entryFrame m #[(.int x0)] 1 = mkF m 0 #[.val (.int x0)] [] := by first | (simp [entryFrame, mkF, argsToLocals, Value.category]; done) | rfl
def Q_rm_pick (Z : State) (k : Int32) (a_ALL a_READ_ONLY a_NONE : Addr) (h0 : Heap) (n0 : Nat) (v : Option Value) (h : Heap) (L : List Loc) : Prop := v = some (.ref (own_pick k a_ALL a_READ_ONLY a_NONE)) ∧ Fr n0 L ∧ h = h0
theorem d1_0 : decode method_2_code 0 = .ok (.iload_n 0, 1) := by decide +kernel
theorem d1_1 : decode method_2_code 1 = .ok (.ifCond .ne 7, 3) := by decide +kernel
theorem d1_4 : decode method_2_code 4 = .ok (.getstatic 7, 3) := by decide +kernel
theorem d1_7 : decode method_2_code 7 = .ok (.areturn, 1) := by decide +kernel
theorem d1_8 : decode method_2_code 8 = .ok (.iload_n 0, 1) := by decide +kernel
theorem d1_9 : decode method_2_code 9 = .ok (.iconst 1, 1) := by decide +kernel
theorem d1_10 : decode method_2_code 10 = .ok (.if_icmp .ne 7, 3) := by decide +kernel
theorem d1_13 : decode method_2_code 13 = .ok (.getstatic 13, 3) := by decide +kernel
theorem d1_16 : decode method_2_code 16 = .ok (.areturn, 1) := by decide +kernel
theorem d1_17 : decode method_2_code 17 = .ok (.getstatic 16, 3) := by decide +kernel
theorem d1_20 : decode method_2_code 20 = .ok (.areturn, 1) := by decide +kernel
set_option maxRecDepth 65536 in
set_option maxHeartbeats 40000000 in
theorem rm_pick (l : Launch) (Z : State) (a0 : Array Value) (hw : ∀ d ∈ tables_1, d.before a0 Z = true) (ws : List Jvm.Cond) (k : Int32) (a_ALL a_READ_ONLY a_NONE : Addr) (h0 : Heap) (n0 : Nat) (O : Old Z n0 h0) (S_ALL : Sta Z Z.heap "com/example/catalog_access_rules/catalogaccessrules/CatalogAccess" "ALL" "Lcom/example/catalog_access_rules/catalogaccessrules/CatalogAccess;" (.ref a_ALL)) (S_READ_ONLY : Sta Z Z.heap "com/example/catalog_access_rules/catalogaccessrules/CatalogAccess" "READ_ONLY" "Lcom/example/catalog_access_rules/catalogaccessrules/CatalogAccess;" (.ref a_READ_ONLY)) (S_NONE : Sta Z Z.heap "com/example/catalog_access_rules/catalogaccessrules/CatalogAccess" "NONE" "Lcom/example/catalog_access_rules/catalogaccessrules/CatalogAccess;" (.ref a_NONE)) :
    MetFree l (⟨"com/example/catalog_access_rules/catalogaccessrules/CatalogAccessIncludesPinLaw", "pick", "(I)Lcom/example/catalog_access_rules/catalogaccessrules/CatalogAccess;"⟩ : MethodName) (head1 (Jvm.Cond.code (⟨"com/example/catalog_access_rules/catalogaccessrules/CatalogAccessIncludesPinLaw", "pick", "(I)Lcom/example/catalog_access_rules/catalogaccessrules/CatalogAccess;"⟩ : MethodName) method_2_code 1 (some (.object "com/example/catalog_access_rules/catalogaccessrules/CatalogAccess")) :: ws) ({ frames := 0, cells := 0, slots := 0, locals := 0 } : Room)) (fun aa U => aa = #[(.int k)] ∧ Z.Warmed39 U.vm ∧ U.heap = h0) (fun _ _ _ _ _ => True) (fun _ U o U' => ∃ v L, o = .returned v ∧ Q_rm_pick Z k a_ALL a_READ_ONLY a_NONE h0 n0 v U'.heap L ∧ FrameEnd U o U' L ({ frames := 0, cells := 0, slots := 0, locals := 0 } : Room).cells ({ frames := 0, cells := 0, slots := 0, locals := 0 } : Room).slots) := by
  refine MetFree.of_bodySF (plainFor_of_name pn_com_example_catalog_access_rules_catalogaccessrules_CatalogAccessIncludesPinLaw) hisR ?_
  intro p e s m args below meth c s₁ Bd hml0 hP hK
  obtain ⟨rfl, hZ, hh⟩ := hP
  have hx := Bd.exec
  have hby := Bd.bytes
  have hml : c.maxLocals = 1 := hml0
  have hown : s.vm.findClass "com/example/catalog_access_rules/catalogaccessrules/CatalogAccessIncludesPinLaw" = some m.cls := findClass_of_methodNamed Bd.named
  have hnm := (name_of_methodNamed Bd.named Bd.method).1
  have X0 : Stand p l e ({ frames := 0, cells := 0, slots := 0, locals := 0 } : Room) s m #[(.int k)] below meth c s₁ [] 0 0 := Stand.of_body Bd
  have e0 : s₁.heap = h0 := by rw [← hh, Bd.state]; rfl
  have N0 := Fr.nil n0
  show Goes p e below s FrameEnd ({ frames := 0, cells := 0, slots := 0, locals := 0 } : Room).cells ({ frames := 0, cells := 0, slots := 0, locals := 0 } : Room).slots (Q_rm_pick Z k a_ALL a_READ_ONLY a_NONE h0 n0) s₁ (entryFrame m #[(.int k)] 1)
  refine Goes.cast (ef_rm_pick m k) ?_
  refine Goes.to (T' := s₁) (mkF m 1 #[.val (.int k)] [(.int k)]) (fun t k => XS.iloadN X0.here hx rfl (hb hby d1_0) rfl k) ?_
  by_cases hc1_1 : k = (0 : Int32)
  · refine Goes.to (T' := s₁) (mkF m 4 #[.val (.int k)] []) (fun t k => XS.ifNo X0.here hx rfl (hb hby d1_1) rfl ((if0 _ _).trans (teq hc1_1).2) k) ?_
    obtain ⟨T2, X2, e2, st2⟩ := getS2 X0 hx hZ hown (host := "") (Or.inl (hw _ (List.mem_of_getElem? (i := 5) rfl))) Via.refl e0 (S_ALL.ext O.2) (g := (mkF m 4 #[.val (.int k)] [])) rfl (hb hby d1_4)
    refine Goes.to (T' := T2) (mkF m 7 #[.val (.int k)] [(.ref a_ALL)]) st2 ?_
    refine Goes.retA X2 hx Bd.notSynchronized rfl Bd.returns rfl (hb hby d1_7) (by decide) (by decide) ?_
    rw [e2]
    exact ⟨by rw [own_pick, if_pos hc1_1], N0, rfl⟩
  · refine Goes.to (T' := s₁) (mkF m 8 #[.val (.int k)] []) (fun t k => XS.ifYes X0.here hx rfl (pc0 := 1) (pc' := 8) rfl (hb hby d1_1) rfl ((if0 _ _).trans (feq hc1_1).2) (by decide) (by decide) k) ?_
    refine Goes.to (T' := s₁) (mkF m 9 #[.val (.int k)] [(.int k)]) (fun t k => XS.iloadN X0.here hx rfl (hb hby d1_8) rfl k) ?_
    refine Goes.to (T' := s₁) (mkF m 10 #[.val (.int k)] [(.int (1 : Int32)), (.int k)]) (fun t k => XS.iconst X0.here hx rfl (hb hby d1_9) k) ?_
    by_cases hc10_3 : k = (1 : Int32)
    · refine Goes.to (T' := s₁) (mkF m 13 #[.val (.int k)] []) (fun t k => XS.icmpNo X0.here hx rfl (hb hby d1_10) rfl (teq hc10_3).2 k) ?_
      obtain ⟨T4, X4, e4, st4⟩ := getS2 X0 hx hZ hown (host := "") (Or.inl (hw _ (List.mem_of_getElem? (i := 30) rfl))) Via.refl e0 (S_READ_ONLY.ext O.2) (g := (mkF m 13 #[.val (.int k)] [])) rfl (hb hby d1_13)
      refine Goes.to (T' := T4) (mkF m 16 #[.val (.int k)] [(.ref a_READ_ONLY)]) st4 ?_
      refine Goes.retA X4 hx Bd.notSynchronized rfl Bd.returns rfl (hb hby d1_16) (by decide) (by decide) ?_
      rw [e4]
      exact ⟨by rw [own_pick, if_neg hc1_1, if_pos hc10_3], N0, rfl⟩
    · refine Goes.to (T' := s₁) (mkF m 17 #[.val (.int k)] []) (fun t k => XS.icmpYes X0.here hx rfl (pc0 := 10) (pc' := 17) rfl (hb hby d1_10) rfl (feq hc10_3).2 (by decide) (by decide) k) ?_
      obtain ⟨T5, X5, e5, st5⟩ := getS2 X0 hx hZ hown (host := "") (Or.inl (hw _ (List.mem_of_getElem? (i := 28) rfl))) Via.refl e0 (S_NONE.ext O.2) (g := (mkF m 17 #[.val (.int k)] [])) rfl (hb hby d1_17)
      refine Goes.to (T' := T5) (mkF m 20 #[.val (.int k)] [(.ref a_NONE)]) st5 ?_
      refine Goes.retA X5 hx Bd.notSynchronized rfl Bd.returns rfl (hb hby d1_20) (by decide) (by decide) ?_
      rw [e5]
      exact ⟨by rw [own_pick, if_neg hc1_1, if_neg hc10_3], N0, rfl⟩
theorem pn_java_lang_Enum : plainName "java/lang/Enum" = true := by first | (simp [plainName, overriddenIn]; done) | decide +kernel
theorem ef_rm_cmp (m : MethodId) (x0 : Addr) (x1 : Addr) : entryFrame m #[(.ref x0), (.ref x1)] 4 = mkF m 0 #[.val (.ref x0), .val (.ref x1), .unset, .unset] [] := by first | (simp [entryFrame, mkF, argsToLocals, Value.category]; done) | rfl
def Q_rm_cmp (Z : State) (a b mr : Addr) (x y : Int32) (h0 : Heap) (n0 : Nat) (v : Option Value) (h : Heap) (L : List Loc) : Prop := v = some (.int (x - y)) ∧ Fr n0 L ∧ h = h0
theorem d3_0 : decode jdk_37_method_8_code 0 = .ok (.aload_n 1, 1) := by decide +kernel
theorem d3_1 : decode jdk_37_method_8_code 1 = .ok (.astore_n 2, 1) := by decide +kernel
theorem d3_2 : decode jdk_37_method_8_code 2 = .ok (.aload_n 0, 1) := by decide +kernel
theorem d3_3 : decode jdk_37_method_8_code 3 = .ok (.astore_n 3, 1) := by decide +kernel
theorem d3_4 : decode jdk_37_method_8_code 4 = .ok (.aload_n 3, 1) := by decide +kernel
theorem d3_5 : decode jdk_37_method_8_code 5 = .ok (.invokevirtual 29, 3) := by decide +kernel
theorem d3_8 : decode jdk_37_method_8_code 8 = .ok (.aload_n 2, 1) := by decide +kernel
theorem d3_9 : decode jdk_37_method_8_code 9 = .ok (.invokevirtual 29, 3) := by decide +kernel
theorem d3_12 : decode jdk_37_method_8_code 12 = .ok (.if_acmp .eq 22, 3) := by decide +kernel
theorem d3_34 : decode jdk_37_method_8_code 34 = .ok (.aload_n 3, 1) := by decide +kernel
theorem d3_35 : decode jdk_37_method_8_code 35 = .ok (.getfield 7, 3) := by decide +kernel
theorem d3_38 : decode jdk_37_method_8_code 38 = .ok (.aload_n 2, 1) := by decide +kernel
theorem d3_39 : decode jdk_37_method_8_code 39 = .ok (.getfield 7, 3) := by decide +kernel
theorem d3_42 : decode jdk_37_method_8_code 42 = .ok (.isub, 1) := by decide +kernel
theorem d3_43 : decode jdk_37_method_8_code 43 = .ok (.ireturn, 1) := by decide +kernel
set_option maxRecDepth 65536 in
set_option maxHeartbeats 40000000 in
theorem rm_cmp (l : Launch) (Z : State) (a0 : Array Value) (hw : ∀ d ∈ tables_1, d.before a0 Z = true) (ws : List Jvm.Cond) (a b mr : Addr) (x y : Int32) (h0 : Heap) (n0 : Nat) (O : Old Z n0 h0) (E_a : Exa Z Z.heap a "com/example/catalog_access_rules/catalogaccessrules/CatalogAccess") (E_b : Exa Z Z.heap b "com/example/catalog_access_rules/catalogaccessrules/CatalogAccess") (M : own_Mir Z "com/example/catalog_access_rules/catalogaccessrules/CatalogAccess" mr) (Fa : Fld Z Z.heap a "java/lang/Enum" "ordinal" "I" (.int x)) (Fb : Fld Z Z.heap b "java/lang/Enum" "ordinal" "I" (.int y)) :
    MetFree l (⟨"java/lang/Enum", "compareTo", "(Ljava/lang/Enum;)I"⟩ : MethodName) (head1 (Jvm.Cond.code (⟨"java/lang/Enum", "compareTo", "(Ljava/lang/Enum;)I"⟩ : MethodName) jdk_37_method_8_code 4 (some .int) :: ws) ({ frames := 1, cells := 0, slots := 0, locals := 15 } : Room)) (fun aa U => aa = #[(.ref a), (.ref b)] ∧ Z.Warmed39 U.vm ∧ U.heap = h0) (fun _ _ _ _ _ => True) (fun _ U o U' => ∃ v L, o = .returned v ∧ Q_rm_cmp Z a b mr x y h0 n0 v U'.heap L ∧ FrameEnd U o U' L ({ frames := 1, cells := 0, slots := 0, locals := 15 } : Room).cells ({ frames := 1, cells := 0, slots := 0, locals := 15 } : Room).slots) := by
  refine MetFree.of_bodySF (plainFor_of_name pn_java_lang_Enum) hisR ?_
  intro p e s m args below meth c s₁ Bd hml0 hP hK
  obtain ⟨rfl, hZ, hh⟩ := hP
  have hx := Bd.exec
  have hby := Bd.bytes
  have hml : c.maxLocals = 4 := hml0
  have hown : s.vm.findClass "java/lang/Enum" = some m.cls := findClass_of_methodNamed Bd.named
  have hnm := (name_of_methodNamed Bd.named Bd.method).1
  have X0 : Stand p l e ({ frames := 1, cells := 0, slots := 0, locals := 15 } : Room) s m #[(.ref a), (.ref b)] below meth c s₁ [] 0 0 := Stand.of_body Bd
  have e0 : s₁.heap = h0 := by rw [← hh, Bd.state]; rfl
  have N0 := Fr.nil n0
  show Goes p e below s FrameEnd ({ frames := 1, cells := 0, slots := 0, locals := 15 } : Room).cells ({ frames := 1, cells := 0, slots := 0, locals := 15 } : Room).slots (Q_rm_cmp Z a b mr x y h0 n0) s₁ (entryFrame m #[(.ref a), (.ref b)] 4)
  refine Goes.cast (ef_rm_cmp m a b) ?_
  refine Goes.to (T' := s₁) (mkF m 1 #[.val (.ref a), .val (.ref b), .unset, .unset] [(.ref b)]) (fun t k => XS.aloadN X0.here hx rfl (hb hby d3_0) rfl rfl k) ?_
  refine Goes.to (T' := s₁) (mkF m 2 #[.val (.ref a), .val (.ref b), .val (.ref b), .unset] []) (fun t k => XS.astoreN X0.here hx rfl (hb hby d3_1) rfl rfl (l' := #[.val (.ref a), .val (.ref b), .val (.ref b), .unset]) rfl k) ?_
  refine Goes.to (T' := s₁) (mkF m 3 #[.val (.ref a), .val (.ref b), .val (.ref b), .unset] [(.ref a)]) (fun t k => XS.aloadN X0.here hx rfl (hb hby d3_2) rfl rfl k) ?_
  refine Goes.to (T' := s₁) (mkF m 4 #[.val (.ref a), .val (.ref b), .val (.ref b), .val (.ref a)] []) (fun t k => XS.astoreN X0.here hx rfl (hb hby d3_3) rfl rfl (l' := #[.val (.ref a), .val (.ref b), .val (.ref b), .val (.ref a)]) rfl k) ?_
  refine Goes.to (T' := s₁) (mkF m 5 #[.val (.ref a), .val (.ref b), .val (.ref b), .val (.ref a)] [(.ref a)]) (fun t k => XS.aloadN X0.here hx rfl (hb hby d3_4) rfl rfl k) ?_
  obtain ⟨T1, X1, e1, st1⟩ := own_gcls X0 hx hZ hown (hw _ (List.mem_of_getElem? (i := 20) rfl)) (hw _ (List.mem_of_getElem? (i := 21) rfl)) (hw _ (List.mem_of_getElem? (i := 23) rfl)) (hw _ (List.mem_of_getElem? (i := 22) rfl)) (hw _ (List.mem_of_getElem? (i := 24) rfl)) e0 (E_a.ext O.2) M (g := (mkF m 5 #[.val (.ref a), .val (.ref b), .val (.ref b), .val (.ref a)] [(.ref a)])) rfl (by rw [hml]; rfl) rfl (hb hby d3_5) (by decide) (W := 0) (by show 2 * 0 + _ ≤ _; exact Nat.le_of_eq rfl) (by decide)
  refine Goes.to (T' := T1) (mkF m 8 #[.val (.ref a), .val (.ref b), .val (.ref b), .val (.ref a)] [(.ref mr)]) st1 ?_
  refine Goes.to (T' := T1) (mkF m 9 #[.val (.ref a), .val (.ref b), .val (.ref b), .val (.ref a)] [(.ref b), (.ref mr)]) (fun t k => XS.aloadN X1.here hx rfl (hb hby d3_8) rfl rfl k) ?_
  obtain ⟨T2, X2, e2, st2⟩ := own_gcls X1 hx hZ hown (hw _ (List.mem_of_getElem? (i := 20) rfl)) (hw _ (List.mem_of_getElem? (i := 21) rfl)) (hw _ (List.mem_of_getElem? (i := 23) rfl)) (hw _ (List.mem_of_getElem? (i := 22) rfl)) (hw _ (List.mem_of_getElem? (i := 24) rfl)) e1 (E_b.ext O.2) M (g := (mkF m 9 #[.val (.ref a), .val (.ref b), .val (.ref b), .val (.ref a)] [(.ref b), (.ref mr)])) rfl (by rw [hml]; rfl) rfl (hb hby d3_9) (by decide) (W := 1) (by show 2 * 0 + _ ≤ _; exact Nat.le_of_eq rfl) (by decide)
  refine Goes.to (T' := T2) (mkF m 12 #[.val (.ref a), .val (.ref b), .val (.ref b), .val (.ref a)] [(.ref mr), (.ref mr)]) st2 ?_
  refine Goes.to (T' := T2) (mkF m 34 #[.val (.ref a), .val (.ref b), .val (.ref b), .val (.ref a)] []) (fun t k => Jvm.RoadKit.acmp (g := (mkF m 12 #[.val (.ref a), .val (.ref b), .val (.ref b), .val (.ref a)] [(.ref mr), (.ref mr)])) X2 hx rfl rfl rfl (pc0 := 12) (pc' := 34) (same := true) rfl (hb hby d3_12) rfl (decide_eq_true rfl) (by decide) (by decide) k) ?_
  refine Goes.to (T' := T2) (mkF m 35 #[.val (.ref a), .val (.ref b), .val (.ref b), .val (.ref a)] [(.ref a)]) (fun t k => XS.aloadN X2.here hx rfl (hb hby d3_34) rfl rfl k) ?_
  obtain ⟨T3, X3, e3, st3⟩ := getF X2 hx hZ hown (host := "") (Or.inl (hw _ (List.mem_of_getElem? (i := 26) rfl))) Via.refl e2 (Fa.ext O.2) (g := (mkF m 35 #[.val (.ref a), .val (.ref b), .val (.ref b), .val (.ref a)] [(.ref a)])) rfl rfl (hb hby d3_35)
  refine Goes.to (T' := T3) (mkF m 38 #[.val (.ref a), .val (.ref b), .val (.ref b), .val (.ref a)] [(.int x)]) st3 ?_
  refine Goes.to (T' := T3) (mkF m 39 #[.val (.ref a), .val (.ref b), .val (.ref b), .val (.ref a)] [(.ref b), (.int x)]) (fun t k => XS.aloadN X3.here hx rfl (hb hby d3_38) rfl rfl k) ?_
  obtain ⟨T4, X4, e4, st4⟩ := getF X3 hx hZ hown (host := "") (Or.inl (hw _ (List.mem_of_getElem? (i := 26) rfl))) Via.refl e3 (Fb.ext O.2) (g := (mkF m 39 #[.val (.ref a), .val (.ref b), .val (.ref b), .val (.ref a)] [(.ref b), (.int x)])) rfl rfl (hb hby d3_39)
  refine Goes.to (T' := T4) (mkF m 42 #[.val (.ref a), .val (.ref b), .val (.ref b), .val (.ref a)] [(.int y), (.int x)]) st4 ?_
  refine Goes.to (T' := T4) (mkF m 43 #[.val (.ref a), .val (.ref b), .val (.ref b), .val (.ref a)] [(.int (x - y))]) (fun t k => XS.isub X4.here hx rfl (hb hby d3_42) rfl k) ?_
  refine Goes.retI X4 hx Bd.notSynchronized Bd.returns (hb hby d3_43) (by decide) (by decide) ?_
  rw [e4]
  exact ⟨rfl, N0, rfl⟩
theorem pn_com_example_catalog_access_rules_catalogaccessrules_CatalogAccess : plainName "com/example/catalog_access_rules/catalogaccessrules/CatalogAccess" = true := by first | (simp [plainName, overriddenIn]; done) | decide +kernel
theorem ef_rm_inc (m : MethodId) (x0 : Addr) (x1 : Addr) : entryFrame m #[(.ref x0), (.ref x1)] 2 = mkF m 0 #[.val (.ref x0), .val (.ref x1)] [] := by first | (simp [entryFrame, mkF, argsToLocals, Value.category]; done) | rfl
def Q_rm_inc (Z : State) (a b mr : Addr) (x y : Int32) (h0 : Heap) (n0 : Nat) (v : Option Value) (h : Heap) (L : List Loc) : Prop := v = some (.int (bit (¬ (0 : Int32) < x - y))) ∧ Fr n0 L ∧ h = h0
theorem d2_0 : decode prog_3_method_5_code 0 = .ok (.aload_n 0, 1) := by decide +kernel
theorem d2_1 : decode prog_3_method_5_code 1 = .ok (.aload_n 1, 1) := by decide +kernel
theorem d2_2 : decode prog_3_method_5_code 2 = .ok (.invokevirtual 36, 3) := by decide +kernel
theorem pd_0 : parseMethodDescriptor "(Ljava/lang/Enum;)I" = some ⟨[(.object "java/lang/Enum")], some .int⟩ := by decide +kernel
theorem d2_5 : decode prog_3_method_5_code 5 = .ok (.ifCond .gt 7, 3) := by decide +kernel
theorem d2_12 : decode prog_3_method_5_code 12 = .ok (.iconst 0, 1) := by decide +kernel
theorem d2_13 : decode prog_3_method_5_code 13 = .ok (.ireturn, 1) := by decide +kernel
theorem d2_8 : decode prog_3_method_5_code 8 = .ok (.iconst 1, 1) := by decide +kernel
theorem d2_9 : decode prog_3_method_5_code 9 = .ok (.goto 4, 3) := by decide +kernel
set_option maxRecDepth 65536 in
set_option maxHeartbeats 40000000 in
theorem rm_inc (l : Launch) (Z : State) (a0 : Array Value) (hw : ∀ d ∈ tables_1, d.before a0 Z = true) (ws : List Jvm.Cond) (a b mr : Addr) (x y : Int32) (h0 : Heap) (n0 : Nat) (O : Old Z n0 h0) (E_a : Exa Z Z.heap a "com/example/catalog_access_rules/catalogaccessrules/CatalogAccess") (E_b : Exa Z Z.heap b "com/example/catalog_access_rules/catalogaccessrules/CatalogAccess") (M : own_Mir Z "com/example/catalog_access_rules/catalogaccessrules/CatalogAccess" mr) (Fa : Fld Z Z.heap a "java/lang/Enum" "ordinal" "I" (.int x)) (Fb : Fld Z Z.heap b "java/lang/Enum" "ordinal" "I" (.int y)) :
    MetFree l (⟨"com/example/catalog_access_rules/catalogaccessrules/CatalogAccess", "includes", "(Lcom/example/catalog_access_rules/catalogaccessrules/CatalogAccess;)Z"⟩ : MethodName) (head1 (Jvm.Cond.code (⟨"com/example/catalog_access_rules/catalogaccessrules/CatalogAccess", "includes", "(Lcom/example/catalog_access_rules/catalogaccessrules/CatalogAccess;)Z"⟩ : MethodName) prog_3_method_5_code 2 (some .boolean) :: ws) ({ frames := 2, cells := 0, slots := 0, locals := 30 } : Room)) (fun aa U => aa = #[(.ref a), (.ref b)] ∧ Z.Warmed39 U.vm ∧ U.heap = h0) (fun _ _ _ _ _ => True) (fun _ U o U' => ∃ v L, o = .returned v ∧ Q_rm_inc Z a b mr x y h0 n0 v U'.heap L ∧ FrameEnd U o U' L ({ frames := 2, cells := 0, slots := 0, locals := 30 } : Room).cells ({ frames := 2, cells := 0, slots := 0, locals := 30 } : Room).slots) := by
  refine MetFree.of_bodySF (plainFor_of_name pn_com_example_catalog_access_rules_catalogaccessrules_CatalogAccess) hisR ?_
  intro p e s m args below meth c s₁ Bd hml0 hP hK
  obtain ⟨rfl, hZ, hh⟩ := hP
  have hx := Bd.exec
  have hby := Bd.bytes
  have hml : c.maxLocals = 2 := hml0
  have hown : s.vm.findClass "com/example/catalog_access_rules/catalogaccessrules/CatalogAccess" = some m.cls := findClass_of_methodNamed Bd.named
  have hnm := (name_of_methodNamed Bd.named Bd.method).1
  have X0 : Stand p l e ({ frames := 2, cells := 0, slots := 0, locals := 30 } : Room) s m #[(.ref a), (.ref b)] below meth c s₁ [] 0 0 := Stand.of_body Bd
  have e0 : s₁.heap = h0 := by rw [← hh, Bd.state]; rfl
  have N0 := Fr.nil n0
  show Goes p e below s FrameEnd ({ frames := 2, cells := 0, slots := 0, locals := 30 } : Room).cells ({ frames := 2, cells := 0, slots := 0, locals := 30 } : Room).slots (Q_rm_inc Z a b mr x y h0 n0) s₁ (entryFrame m #[(.ref a), (.ref b)] 2)
  refine Goes.cast (ef_rm_inc m a b) ?_
  refine Goes.to (T' := s₁) (mkF m 1 #[.val (.ref a), .val (.ref b)] [(.ref a)]) (fun t k => XS.aloadN X0.here hx rfl (hb hby d2_0) rfl rfl k) ?_
  refine Goes.to (T' := s₁) (mkF m 2 #[.val (.ref a), .val (.ref b)] [(.ref b), (.ref a)]) (fun t k => XS.aloadN X0.here hx rfl (hb hby d2_1) rfl rfl k) ?_
  obtain ⟨cq1, kq1, q1a, q1b, q1c⟩ := isOf hZ e0 (E_a.ext O.2)
  obtain ⟨_, _, ⟨T1, L1, k1, n1⟩, -, X1, ⟨Lc1, hQ1, l1, y1, z1⟩, st1⟩ := X0.virtualBackUp hx (owner := "java/lang/Enum") (x := (⟨"com/example/catalog_access_rules/catalogaccessrules/CatalogAccess", "compareTo", "(Ljava/lang/Enum;)I"⟩ : MethodName)) (y := (⟨"java/lang/Enum", "compareTo", "(Ljava/lang/Enum;)I"⟩ : MethodName)) hown (mvT hZ (hw _ (List.mem_of_getElem? (i := 13) rfl))) (mvT hZ (hw _ (List.mem_of_getElem? (i := 14) rfl))) (mvT hZ (hw _ (List.mem_of_getElem? (i := 15) rfl))) (by decide) (mvT hZ (hw _ (List.mem_of_getElem? (i := 17) rfl))) (mvT hZ (hw _ (List.mem_of_getElem? (i := 16) rfl))) (backOf (W := 0) (rm_cmp l Z a0 hw [] a b mr x y h0 n0 O E_a E_b M Fa Fb) hZ (hw _ (List.mem_of_getElem? (i := 19) rfl)) (hw _ (List.mem_of_getElem? (i := 18) rfl)) (by decide) (by decide)) q1a q1c (g := (mkF m 2 #[.val (.ref a), .val (.ref b)] [(.ref b), (.ref a)])) rfl (by rw [hml]; rfl) (Steps.refl _) (argsL := [(.ref b)]) (rest := []) (lenOf pd_0 rfl) rfl (by show 2 * 0 + _ ≤ _; exact Nat.le_of_eq rfl) (hb hby d2_2) (fun _ _ => ⟨rfl, e0, (by decide : 0 + 0 ≤ _), (by decide : 0 + 0 ≤ _)⟩)
  dsimp only [Pt.U, Pt.locs, Pt.cells, Pt.slots] at X1 l1 y1 z1 st1 hQ1
  subst l1 y1 z1
  obtain ⟨rfl, N1, hs1⟩ := hQ1
  have N1' := Fr.app N0 N1
  refine Goes.to (T' := T1) (mkF m 5 #[.val (.ref a), .val (.ref b)] [(.int (x - y))]) (fun t k => st1.trans k) ?_
  by_cases hc5_2 : (0 : Int32) < (x - y)
  · refine Goes.to (T' := T1) (mkF m 12 #[.val (.ref a), .val (.ref b)] []) (fun t k => XS.ifYes X1.here hx rfl (pc0 := 5) (pc' := 12) rfl (hb hby d2_5) rfl ((if0 _ _).trans (tlt hc5_2).2.2.1) (by decide) (by decide) k) ?_
    refine Goes.to (T' := T1) (mkF m 13 #[.val (.ref a), .val (.ref b)] [(.int (0 : Int32))]) (fun t k => XS.iconst X1.here hx rfl (hb hby d2_12) k) ?_
    refine Goes.retN X1 hx Bd.notSynchronized (t := .boolean) Bd.returns (by simp) (hb hby d2_13) (by decide) (by decide) ?_
    rw [hs1]
    exact ⟨by rw [bit_f (fun q => q hc5_2)]; rfl, N1', rfl⟩
  · refine Goes.to (T' := T1) (mkF m 8 #[.val (.ref a), .val (.ref b)] []) (fun t k => XS.ifNo X1.here hx rfl (hb hby d2_5) rfl ((if0 _ _).trans (flt hc5_2).2.2.1) k) ?_
    refine Goes.to (T' := T1) (mkF m 9 #[.val (.ref a), .val (.ref b)] [(.int (1 : Int32))]) (fun t k => XS.iconst X1.here hx rfl (hb hby d2_8) k) ?_
    refine Goes.to (T' := T1) (mkF m 13 #[.val (.ref a), .val (.ref b)] [(.int (1 : Int32))]) (fun t k => XS.goto X1.here hx rfl (pc0 := 9) (pc' := 13) rfl (hb hby d2_9) (by decide) (by decide) k) ?_
    refine Goes.retN X1 hx Bd.notSynchronized (t := .boolean) Bd.returns (by simp) (hb hby d2_13) (by decide) (by decide) ?_
    rw [hs1]
    exact ⟨by rw [bit_t hc5_2]; rfl, N1', rfl⟩
theorem own_mod3 (x : Int32) : (x &&& 2147483647) % 3 = 0 ∨ (x &&& 2147483647) % 3 = 1 ∨ (x &&& 2147483647) % 3 = 2 := by
  have h1 := c_and x 2147483647 (by decide)
  have h2 := (c_irem (x &&& 2147483647) 3 3 (by decide)).1 h1.1
  simp only [← Int32.toInt_inj, h2, show (0 : Int32).toInt = 0 from by decide, show (1 : Int32).toInt = 1 from by decide, show (2 : Int32).toInt = 2 from by decide]
  omega
theorem ef_rm_law (m : MethodId) (x0 : Int32) (x1 : Int32) : entryFrame m #[(.int x0), (.int x1)] maxLocals = mkF m 0 #[.val (.int x0), .val (.int x1), .unset, .unset, .unset, .unset, .unset] [] := by first | (simp [entryFrame, mkF, argsToLocals, Value.category, maxLocals]; done) | rfl
def Q_rm_law (Z : State) (p1 p2 : Int32) (a_ALL a_READ_ONLY a_NONE mr : Addr) (h0 : Heap) (n0 : Nat) (v : Option Value) (h : Heap) (L : List Loc) : Prop := v = some (.int 1) ∧ Fr n0 L
theorem pd_1 : parseMethodDescriptor "(I)Lcom/example/catalog_access_rules/catalogaccessrules/CatalogAccess;" = some ⟨[.int], some (.object "com/example/catalog_access_rules/catalogaccessrules/CatalogAccess")⟩ := by decide +kernel
theorem pd_2 : parseMethodDescriptor "(Lcom/example/catalog_access_rules/catalogaccessrules/CatalogAccess;)Z" = some ⟨[(.object "com/example/catalog_access_rules/catalogaccessrules/CatalogAccess")], some .boolean⟩ := by decide +kernel
set_option maxRecDepth 65536 in
set_option maxHeartbeats 40000000 in
theorem rm_law (l : Launch) (Z : State) (a0 : Array Value) (hw : ∀ d ∈ tables_1, d.before a0 Z = true) (ws : List Jvm.Cond) (p1 p2 : Int32) (a_ALL a_READ_ONLY a_NONE mr : Addr) (h0 : Heap) (n0 : Nat) (O : Old Z n0 h0) (S_ALL : Sta Z Z.heap "com/example/catalog_access_rules/catalogaccessrules/CatalogAccess" "ALL" "Lcom/example/catalog_access_rules/catalogaccessrules/CatalogAccess;" (.ref a_ALL)) (S_READ_ONLY : Sta Z Z.heap "com/example/catalog_access_rules/catalogaccessrules/CatalogAccess" "READ_ONLY" "Lcom/example/catalog_access_rules/catalogaccessrules/CatalogAccess;" (.ref a_READ_ONLY)) (S_NONE : Sta Z Z.heap "com/example/catalog_access_rules/catalogaccessrules/CatalogAccess" "NONE" "Lcom/example/catalog_access_rules/catalogaccessrules/CatalogAccess;" (.ref a_NONE)) (E_ALL : Exa Z Z.heap a_ALL "com/example/catalog_access_rules/catalogaccessrules/CatalogAccess") (E_READ_ONLY : Exa Z Z.heap a_READ_ONLY "com/example/catalog_access_rules/catalogaccessrules/CatalogAccess") (E_NONE : Exa Z Z.heap a_NONE "com/example/catalog_access_rules/catalogaccessrules/CatalogAccess") (F_ALL : Fld Z Z.heap a_ALL "java/lang/Enum" "ordinal" "I" (.int 0)) (F_READ_ONLY : Fld Z Z.heap a_READ_ONLY "java/lang/Enum" "ordinal" "I" (.int 1)) (F_NONE : Fld Z Z.heap a_NONE "java/lang/Enum" "ordinal" "I" (.int 2)) (M : own_Mir Z "com/example/catalog_access_rules/catalogaccessrules/CatalogAccess" mr) :
    MetFree l x (head1 (Jvm.Cond.code x code maxLocals ret :: ws) room_1) (fun aa U => aa = #[(.int p1), (.int p2)] ∧ Z.Warmed39 U.vm ∧ U.heap = h0) (fun _ _ _ _ _ => True) (fun _ U o U' => ∃ v L, o = .returned v ∧ Q_rm_law Z p1 p2 a_ALL a_READ_ONLY a_NONE mr h0 n0 v U'.heap L ∧ FrameEnd U o U' L room_1.cells room_1.slots) := by
  refine MetFree.of_bodySF (plainFor_of_name pn_com_example_catalog_access_rules_catalogaccessrules_CatalogAccessIncludesPinLaw) hisR ?_
  intro p e s m args below meth c s₁ Bd hml0 hP hK
  obtain ⟨rfl, hZ, hh⟩ := hP
  have hx := Bd.exec
  have hby := Bd.bytes
  have hml : c.maxLocals = 7 := hml0
  have hown : s.vm.findClass "com/example/catalog_access_rules/catalogaccessrules/CatalogAccessIncludesPinLaw" = some m.cls := findClass_of_methodNamed Bd.named
  have hnm := (name_of_methodNamed Bd.named Bd.method).1
  have X0 : Stand p l e room_1 s m #[(.int p1), (.int p2)] below meth c s₁ [] 0 0 := Stand.of_body Bd
  have e0 : s₁.heap = h0 := by rw [← hh, Bd.state]; rfl
  have N0 := Fr.nil n0
  show Goes p e below s FrameEnd room_1.cells room_1.slots (Q_rm_law Z p1 p2 a_ALL a_READ_ONLY a_NONE mr h0 n0) s₁ (entryFrame m #[(.int p1), (.int p2)] maxLocals)
  refine Goes.cast (ef_rm_law m p1 p2) ?_
  refine Goes.to (T' := s₁) (mkF m 1 #[.val (.int p1), .val (.int p2), .unset, .unset, .unset, .unset, .unset] [(.int p1)]) (fun t k => XS.iloadN X0.here hx rfl (hb hby at_0) rfl k) ?_
  refine Goes.to (T' := s₁) (mkF m 3 #[.val (.int p1), .val (.int p2), .unset, .unset, .unset, .unset, .unset] [(.int (2147483647 : Int32)), (.int p1)]) (fun t k => X0.ldcInt hx hown (mvT hZ (hw _ (List.mem_of_getElem? (i := 0) rfl))) (g := (mkF m 1 #[.val (.int p1), .val (.int p2), .unset, .unset, .unset, .unset, .unset] [(.int p1)])) rfl (hb hby at_1) _ k) ?_
  refine Goes.to (T' := s₁) (mkF m 4 #[.val (.int p1), .val (.int p2), .unset, .unset, .unset, .unset, .unset] [(.int (p1 &&& (2147483647 : Int32)))]) (fun t k => XS.iand X0.here hx rfl (hb hby at_3) rfl k) ?_
  refine Goes.to (T' := s₁) (mkF m 5 #[.val (.int p1), .val (.int p2), .unset, .unset, .unset, .unset, .unset] [(.int (3 : Int32)), (.int (p1 &&& (2147483647 : Int32)))]) (fun t k => XS.iconst X0.here hx rfl (hb hby at_4) k) ?_
  refine Goes.to (T' := s₁) (mkF m 6 #[.val (.int p1), .val (.int p2), .unset, .unset, .unset, .unset, .unset] [(.int ((p1 &&& (2147483647 : Int32)) - ((p1 &&& (2147483647 : Int32)) / (3 : Int32)) * (3 : Int32)))]) (fun t k => XS.irem X0.here hx rfl (hb hby at_5) rfl (by decide) k) ?_
  refine Goes.to (T' := s₁) (mkF m 7 #[.val (.int p1), .val (.int p2), .val (.int ((p1 &&& (2147483647 : Int32)) - ((p1 &&& (2147483647 : Int32)) / (3 : Int32)) * (3 : Int32))), .unset, .unset, .unset, .unset] []) (fun t k => XS.istoreN X0.here hx rfl (hb hby at_6) rfl (l' := #[.val (.int p1), .val (.int p2), .val (.int ((p1 &&& (2147483647 : Int32)) - ((p1 &&& (2147483647 : Int32)) / (3 : Int32)) * (3 : Int32))), .unset, .unset, .unset, .unset]) rfl k) ?_
  refine Goes.to (T' := s₁) (mkF m 8 #[.val (.int p1), .val (.int p2), .val (.int ((p1 &&& (2147483647 : Int32)) - ((p1 &&& (2147483647 : Int32)) / (3 : Int32)) * (3 : Int32))), .unset, .unset, .unset, .unset] [(.int p2)]) (fun t k => XS.iloadN X0.here hx rfl (hb hby at_7) rfl k) ?_
  refine Goes.to (T' := s₁) (mkF m 10 #[.val (.int p1), .val (.int p2), .val (.int ((p1 &&& (2147483647 : Int32)) - ((p1 &&& (2147483647 : Int32)) / (3 : Int32)) * (3 : Int32))), .unset, .unset, .unset, .unset] [(.int (2147483647 : Int32)), (.int p2)]) (fun t k => X0.ldcInt hx hown (mvT hZ (hw _ (List.mem_of_getElem? (i := 0) rfl))) (g := (mkF m 8 #[.val (.int p1), .val (.int p2), .val (.int ((p1 &&& (2147483647 : Int32)) - ((p1 &&& (2147483647 : Int32)) / (3 : Int32)) * (3 : Int32))), .unset, .unset, .unset, .unset] [(.int p2)])) rfl (hb hby at_8) _ k) ?_
  refine Goes.to (T' := s₁) (mkF m 11 #[.val (.int p1), .val (.int p2), .val (.int ((p1 &&& (2147483647 : Int32)) - ((p1 &&& (2147483647 : Int32)) / (3 : Int32)) * (3 : Int32))), .unset, .unset, .unset, .unset] [(.int (p2 &&& (2147483647 : Int32)))]) (fun t k => XS.iand X0.here hx rfl (hb hby at_10) rfl k) ?_
  refine Goes.to (T' := s₁) (mkF m 12 #[.val (.int p1), .val (.int p2), .val (.int ((p1 &&& (2147483647 : Int32)) - ((p1 &&& (2147483647 : Int32)) / (3 : Int32)) * (3 : Int32))), .unset, .unset, .unset, .unset] [(.int (3 : Int32)), (.int (p2 &&& (2147483647 : Int32)))]) (fun t k => XS.iconst X0.here hx rfl (hb hby at_11) k) ?_
  refine Goes.to (T' := s₁) (mkF m 13 #[.val (.int p1), .val (.int p2), .val (.int ((p1 &&& (2147483647 : Int32)) - ((p1 &&& (2147483647 : Int32)) / (3 : Int32)) * (3 : Int32))), .unset, .unset, .unset, .unset] [(.int ((p2 &&& (2147483647 : Int32)) - ((p2 &&& (2147483647 : Int32)) / (3 : Int32)) * (3 : Int32)))]) (fun t k => XS.irem X0.here hx rfl (hb hby at_12) rfl (by decide) k) ?_
  refine Goes.to (T' := s₁) (mkF m 14 #[.val (.int p1), .val (.int p2), .val (.int ((p1 &&& (2147483647 : Int32)) - ((p1 &&& (2147483647 : Int32)) / (3 : Int32)) * (3 : Int32))), .val (.int ((p2 &&& (2147483647 : Int32)) - ((p2 &&& (2147483647 : Int32)) / (3 : Int32)) * (3 : Int32))), .unset, .unset, .unset] []) (fun t k => XS.istoreN X0.here hx rfl (hb hby at_13) rfl (l' := #[.val (.int p1), .val (.int p2), .val (.int ((p1 &&& (2147483647 : Int32)) - ((p1 &&& (2147483647 : Int32)) / (3 : Int32)) * (3 : Int32))), .val (.int ((p2 &&& (2147483647 : Int32)) - ((p2 &&& (2147483647 : Int32)) / (3 : Int32)) * (3 : Int32))), .unset, .unset, .unset]) rfl k) ?_
  rw [irem_eq_mod, irem_eq_mod]
  rcases own_mod3 p1 with hi | hi | hi <;> rcases own_mod3 p2 with hj | hj | hj <;> rw [hi, hj]
  · refine Goes.to (T' := s₁) (mkF m 15 #[.val (.int p1), .val (.int p2), .val (.int (0 : Int32)), .val (.int (0 : Int32)), .unset, .unset, .unset] [(.int (0 : Int32))]) (fun t k => XS.iloadN X0.here hx rfl (hb hby at_14) rfl k) ?_
    obtain ⟨_, _, ⟨T1, L1, k1, n1⟩, -, X1, ⟨Lc1, hQ1, l1, y1, z1⟩, st1⟩ := Jvm.LawKit.callS X0 hx (y := (⟨"com/example/catalog_access_rules/catalogaccessrules/CatalogAccessIncludesPinLaw", "pick", "(I)Lcom/example/catalog_access_rules/catalogaccessrules/CatalogAccess;"⟩ : MethodName)) hown (mvT hZ (hw _ (List.mem_of_getElem? (i := 1) rfl))) (mvT hZ (hw _ (List.mem_of_getElem? (i := 2) rfl))) (mvT hZ (hw _ (List.mem_of_getElem? (i := 3) rfl))) (mvT hZ (hw _ (List.mem_of_getElem? (i := 4) rfl))) (by decide) (backOf (W := 0) (rm_pick l Z a0 hw [] (0 : Int32) a_ALL a_READ_ONLY a_NONE h0 n0 O S_ALL S_READ_ONLY S_NONE) hZ (hw _ (List.mem_of_getElem? (i := 4) rfl)) (hw _ (List.mem_of_getElem? (i := 3) rfl)) (by decide) (by decide)) (g := (mkF m 15 #[.val (.int p1), .val (.int p2), .val (.int (0 : Int32)), .val (.int (0 : Int32)), .unset, .unset, .unset] [(.int (0 : Int32))])) rfl (by rw [hml]; rfl) (argsL := [(.int (0 : Int32))]) (rest := []) (lenOf pd_1 rfl) rfl (by show 2 * 0 + _ ≤ _; exact Nat.le_of_eq rfl) (hb hby at_15) (fun _ _ => ⟨rfl, e0, (by decide : 0 + 0 ≤ _), (by decide : 0 + 0 ≤ _)⟩)
    dsimp only [Pt.U, Pt.locs, Pt.cells, Pt.slots] at X1 l1 y1 z1 st1 hQ1
    subst l1 y1 z1
    obtain ⟨hv1, N1, hs1⟩ := hQ1
    have hp1 : own_pick (0 : Int32) a_ALL a_READ_ONLY a_NONE = a_ALL := by simp [own_pick]
    rw [hp1] at hv1
    subst hv1
    have N1' := Fr.app N0 N1
    refine Goes.to (T' := T1) (mkF m 18 #[.val (.int p1), .val (.int p2), .val (.int (0 : Int32)), .val (.int (0 : Int32)), .unset, .unset, .unset] [(.ref a_ALL)]) (fun t k => st1 t k) ?_
    refine Goes.to (T' := T1) (mkF m 20 #[.val (.int p1), .val (.int p2), .val (.int (0 : Int32)), .val (.int (0 : Int32)), .val (.ref a_ALL), .unset, .unset] []) (fun t k => XS.astore X1.here hx rfl (hb hby at_18) rfl rfl (l' := #[.val (.int p1), .val (.int p2), .val (.int (0 : Int32)), .val (.int (0 : Int32)), .val (.ref a_ALL), .unset, .unset]) rfl k) ?_
    refine Goes.to (T' := T1) (mkF m 21 #[.val (.int p1), .val (.int p2), .val (.int (0 : Int32)), .val (.int (0 : Int32)), .val (.ref a_ALL), .unset, .unset] [(.int (0 : Int32))]) (fun t k => XS.iloadN X1.here hx rfl (hb hby at_20) rfl k) ?_
    obtain ⟨_, _, ⟨T2, L2, k2, n2⟩, -, X2, ⟨Lc2, hQ2, l2, y2, z2⟩, st2⟩ := Jvm.LawKit.callS X1 hx (y := (⟨"com/example/catalog_access_rules/catalogaccessrules/CatalogAccessIncludesPinLaw", "pick", "(I)Lcom/example/catalog_access_rules/catalogaccessrules/CatalogAccess;"⟩ : MethodName)) hown (mvT hZ (hw _ (List.mem_of_getElem? (i := 1) rfl))) (mvT hZ (hw _ (List.mem_of_getElem? (i := 2) rfl))) (mvT hZ (hw _ (List.mem_of_getElem? (i := 3) rfl))) (mvT hZ (hw _ (List.mem_of_getElem? (i := 4) rfl))) (by decide) (backOf (W := 0) (rm_pick l Z a0 hw [] (0 : Int32) a_ALL a_READ_ONLY a_NONE h0 n0 O S_ALL S_READ_ONLY S_NONE) hZ (hw _ (List.mem_of_getElem? (i := 4) rfl)) (hw _ (List.mem_of_getElem? (i := 3) rfl)) (by decide) (by decide)) (g := (mkF m 21 #[.val (.int p1), .val (.int p2), .val (.int (0 : Int32)), .val (.int (0 : Int32)), .val (.ref a_ALL), .unset, .unset] [(.int (0 : Int32))])) rfl (by rw [hml]; rfl) (argsL := [(.int (0 : Int32))]) (rest := []) (lenOf pd_1 rfl) rfl (by show 2 * 0 + _ ≤ _; exact Nat.le_of_eq rfl) (hb hby at_21) (fun _ _ => ⟨rfl, hs1, (by decide : 0 + 0 ≤ _), (by decide : 0 + 0 ≤ _)⟩)
    dsimp only [Pt.U, Pt.locs, Pt.cells, Pt.slots] at X2 l2 y2 z2 st2 hQ2
    subst l2 y2 z2
    obtain ⟨hv2, N2, hs2⟩ := hQ2
    have hp2 : own_pick (0 : Int32) a_ALL a_READ_ONLY a_NONE = a_ALL := by simp [own_pick]
    rw [hp2] at hv2
    subst hv2
    have N2' := Fr.app N1' N2
    refine Goes.to (T' := T2) (mkF m 24 #[.val (.int p1), .val (.int p2), .val (.int (0 : Int32)), .val (.int (0 : Int32)), .val (.ref a_ALL), .unset, .unset] [(.ref a_ALL)]) (fun t k => st2 t k) ?_
    refine Goes.to (T' := T2) (mkF m 26 #[.val (.int p1), .val (.int p2), .val (.int (0 : Int32)), .val (.int (0 : Int32)), .val (.ref a_ALL), .val (.ref a_ALL), .unset] []) (fun t k => XS.astore X2.here hx rfl (hb hby at_24) rfl rfl (l' := #[.val (.int p1), .val (.int p2), .val (.int (0 : Int32)), .val (.int (0 : Int32)), .val (.ref a_ALL), .val (.ref a_ALL), .unset]) rfl k) ?_
    refine Goes.to (T' := T2) (mkF m 27 #[.val (.int p1), .val (.int p2), .val (.int (0 : Int32)), .val (.int (0 : Int32)), .val (.ref a_ALL), .val (.ref a_ALL), .unset] [(.int (0 : Int32))]) (fun t k => XS.iloadN X2.here hx rfl (hb hby at_26) rfl k) ?_
    refine Goes.to (T' := T2) (mkF m 40 #[.val (.int p1), .val (.int p2), .val (.int (0 : Int32)), .val (.int (0 : Int32)), .val (.ref a_ALL), .val (.ref a_ALL), .unset] []) (fun t k => XS.ifYes X2.here hx rfl (pc0 := 27) (pc' := 40) rfl (hb hby at_27) rfl ((if0 _ _).trans (teq ((by decide) : (0 : Int32) = (0 : Int32))).1) (by decide) (by decide) k) ?_
    refine Goes.to (T' := T2) (mkF m 41 #[.val (.int p1), .val (.int p2), .val (.int (0 : Int32)), .val (.int (0 : Int32)), .val (.ref a_ALL), .val (.ref a_ALL), .unset] [(.int (1 : Int32))]) (fun t k => XS.iconst X2.here hx rfl (hb hby at_40) k) ?_
    refine Goes.to (T' := T2) (mkF m 45 #[.val (.int p1), .val (.int p2), .val (.int (0 : Int32)), .val (.int (0 : Int32)), .val (.ref a_ALL), .val (.ref a_ALL), .unset] [(.int (1 : Int32))]) (fun t k => XS.goto X2.here hx rfl (pc0 := 41) (pc' := 45) rfl (hb hby at_41) (by decide) (by decide) k) ?_
    refine Goes.to (T' := T2) (mkF m 47 #[.val (.int p1), .val (.int p2), .val (.int (0 : Int32)), .val (.int (0 : Int32)), .val (.ref a_ALL), .val (.ref a_ALL), .val (.int (1 : Int32))] []) (fun t k => XS.istore X2.here hx rfl (hb hby at_45) rfl (l' := #[.val (.int p1), .val (.int p2), .val (.int (0 : Int32)), .val (.int (0 : Int32)), .val (.ref a_ALL), .val (.ref a_ALL), .val (.int (1 : Int32))]) rfl k) ?_
    refine Goes.to (T' := T2) (mkF m 49 #[.val (.int p1), .val (.int p2), .val (.int (0 : Int32)), .val (.int (0 : Int32)), .val (.ref a_ALL), .val (.ref a_ALL), .val (.int (1 : Int32))] [(.ref a_ALL)]) (fun t k => XS.aload X2.here hx rfl (hb hby at_47) rfl rfl k) ?_
    refine Goes.to (T' := T2) (mkF m 51 #[.val (.int p1), .val (.int p2), .val (.int (0 : Int32)), .val (.int (0 : Int32)), .val (.ref a_ALL), .val (.ref a_ALL), .val (.int (1 : Int32))] [(.ref a_ALL), (.ref a_ALL)]) (fun t k => XS.aload X2.here hx rfl (hb hby at_49) rfl rfl k) ?_
    obtain ⟨cq3, kq3, q3a, q3b, q3c⟩ := isOf hZ hs2 (E_ALL.ext O.2)
    obtain ⟨_, _, ⟨T3, L3, k3, n3⟩, -, X3, ⟨Lc3, hQ3, l3, y3, z3⟩, st3⟩ := X2.virtualBack hx (y := (⟨"com/example/catalog_access_rules/catalogaccessrules/CatalogAccess", "includes", "(Lcom/example/catalog_access_rules/catalogaccessrules/CatalogAccess;)Z"⟩ : MethodName)) (z := (⟨"com/example/catalog_access_rules/catalogaccessrules/CatalogAccess", "includes", "(Lcom/example/catalog_access_rules/catalogaccessrules/CatalogAccess;)Z"⟩ : MethodName)) hown (mvT hZ (hw _ (List.mem_of_getElem? (i := 8) rfl))) (mvT hZ (hw _ (List.mem_of_getElem? (i := 9) rfl))) (notFace_of_selects (args := #[]) (mvT hZ (hw _ (List.mem_of_getElem? (i := 11) rfl)))) (mvT hZ (hw _ (List.mem_of_getElem? (i := 11) rfl))) (mvT hZ (hw _ (List.mem_of_getElem? (i := 10) rfl))) (by decide) (backOf (W := 0) (rm_inc l Z a0 hw [] a_ALL a_ALL mr 0 0 h0 n0 O E_ALL E_ALL M F_ALL F_ALL) hZ (hw _ (List.mem_of_getElem? (i := 12) rfl)) (hw _ (List.mem_of_getElem? (i := 6) rfl)) (by decide) (by decide)) q3a q3c (g := (mkF m 51 #[.val (.int p1), .val (.int p2), .val (.int (0 : Int32)), .val (.int (0 : Int32)), .val (.ref a_ALL), .val (.ref a_ALL), .val (.int (1 : Int32))] [(.ref a_ALL), (.ref a_ALL)])) rfl (by rw [hml]; rfl) (Steps.refl _) (argsL := [(.ref a_ALL)]) (rest := []) (lenOf pd_2 rfl) rfl (by show 2 * 0 + _ ≤ _; exact Nat.le_of_eq rfl) (hb hby at_51) (fun _ _ => ⟨rfl, hs2, (by decide : 0 + 0 ≤ _), (by decide : 0 + 0 ≤ _)⟩)
    dsimp only [Pt.U, Pt.locs, Pt.cells, Pt.slots] at X3 l3 y3 z3 st3 hQ3
    subst l3 y3 z3
    obtain ⟨rfl, N3, hs3⟩ := hQ3
    have N3' := Fr.app N2' N3
    refine Goes.to (T' := T3) (mkF m 54 #[.val (.int p1), .val (.int p2), .val (.int (0 : Int32)), .val (.int (0 : Int32)), .val (.ref a_ALL), .val (.ref a_ALL), .val (.int (1 : Int32))] [(.int (bit (¬ (0 : Int32) < (0 : Int32) - (0 : Int32))))]) (fun t k => st3.trans k) ?_
    refine Goes.to (T' := T3) (mkF m 56 #[.val (.int p1), .val (.int p2), .val (.int (0 : Int32)), .val (.int (0 : Int32)), .val (.ref a_ALL), .val (.ref a_ALL), .val (.int (1 : Int32))] [(.int (1 : Int32)), (.int (bit (¬ (0 : Int32) < (0 : Int32) - (0 : Int32))))]) (fun t k => XS.iload X3.here hx rfl (hb hby at_54) rfl k) ?_
    refine Goes.to (T' := T3) (mkF m 59 #[.val (.int p1), .val (.int p2), .val (.int (0 : Int32)), .val (.int (0 : Int32)), .val (.ref a_ALL), .val (.ref a_ALL), .val (.int (1 : Int32))] []) (fun t k => XS.icmpNo X3.here hx rfl (hb hby at_56) rfl (teq (by decide : (bit (¬ (0 : Int32) < (0 : Int32) - (0 : Int32))) = (1 : Int32))).2 k) ?_
    refine Goes.to (T' := T3) (mkF m 60 #[.val (.int p1), .val (.int p2), .val (.int (0 : Int32)), .val (.int (0 : Int32)), .val (.ref a_ALL), .val (.ref a_ALL), .val (.int (1 : Int32))] [(.int (1 : Int32))]) (fun t k => XS.iconst X3.here hx rfl (hb hby at_59) k) ?_
    refine Goes.to (T' := T3) (mkF m 64 #[.val (.int p1), .val (.int p2), .val (.int (0 : Int32)), .val (.int (0 : Int32)), .val (.ref a_ALL), .val (.ref a_ALL), .val (.int (1 : Int32))] [(.int (1 : Int32))]) (fun t k => XS.goto X3.here hx rfl (pc0 := 60) (pc' := 64) rfl (hb hby at_60) (by decide) (by decide) k) ?_
    refine Goes.retN X3 hx Bd.notSynchronized (t := .boolean) Bd.returns (by simp) (hb hby at_64) (by decide) (by decide) ?_
    rw [hs3]
    exact ⟨rfl, N3'⟩
  · refine Goes.to (T' := s₁) (mkF m 15 #[.val (.int p1), .val (.int p2), .val (.int (0 : Int32)), .val (.int (1 : Int32)), .unset, .unset, .unset] [(.int (0 : Int32))]) (fun t k => XS.iloadN X0.here hx rfl (hb hby at_14) rfl k) ?_
    obtain ⟨_, _, ⟨T4, L4, k4, n4⟩, -, X4, ⟨Lc4, hQ4, l4, y4, z4⟩, st4⟩ := Jvm.LawKit.callS X0 hx (y := (⟨"com/example/catalog_access_rules/catalogaccessrules/CatalogAccessIncludesPinLaw", "pick", "(I)Lcom/example/catalog_access_rules/catalogaccessrules/CatalogAccess;"⟩ : MethodName)) hown (mvT hZ (hw _ (List.mem_of_getElem? (i := 1) rfl))) (mvT hZ (hw _ (List.mem_of_getElem? (i := 2) rfl))) (mvT hZ (hw _ (List.mem_of_getElem? (i := 3) rfl))) (mvT hZ (hw _ (List.mem_of_getElem? (i := 4) rfl))) (by decide) (backOf (W := 0) (rm_pick l Z a0 hw [] (0 : Int32) a_ALL a_READ_ONLY a_NONE h0 n0 O S_ALL S_READ_ONLY S_NONE) hZ (hw _ (List.mem_of_getElem? (i := 4) rfl)) (hw _ (List.mem_of_getElem? (i := 3) rfl)) (by decide) (by decide)) (g := (mkF m 15 #[.val (.int p1), .val (.int p2), .val (.int (0 : Int32)), .val (.int (1 : Int32)), .unset, .unset, .unset] [(.int (0 : Int32))])) rfl (by rw [hml]; rfl) (argsL := [(.int (0 : Int32))]) (rest := []) (lenOf pd_1 rfl) rfl (by show 2 * 0 + _ ≤ _; exact Nat.le_of_eq rfl) (hb hby at_15) (fun _ _ => ⟨rfl, e0, (by decide : 0 + 0 ≤ _), (by decide : 0 + 0 ≤ _)⟩)
    dsimp only [Pt.U, Pt.locs, Pt.cells, Pt.slots] at X4 l4 y4 z4 st4 hQ4
    subst l4 y4 z4
    obtain ⟨hv4, N4, hs4⟩ := hQ4
    have hp4 : own_pick (0 : Int32) a_ALL a_READ_ONLY a_NONE = a_ALL := by simp [own_pick]
    rw [hp4] at hv4
    subst hv4
    have N4' := Fr.app N0 N4
    refine Goes.to (T' := T4) (mkF m 18 #[.val (.int p1), .val (.int p2), .val (.int (0 : Int32)), .val (.int (1 : Int32)), .unset, .unset, .unset] [(.ref a_ALL)]) (fun t k => st4 t k) ?_
    refine Goes.to (T' := T4) (mkF m 20 #[.val (.int p1), .val (.int p2), .val (.int (0 : Int32)), .val (.int (1 : Int32)), .val (.ref a_ALL), .unset, .unset] []) (fun t k => XS.astore X4.here hx rfl (hb hby at_18) rfl rfl (l' := #[.val (.int p1), .val (.int p2), .val (.int (0 : Int32)), .val (.int (1 : Int32)), .val (.ref a_ALL), .unset, .unset]) rfl k) ?_
    refine Goes.to (T' := T4) (mkF m 21 #[.val (.int p1), .val (.int p2), .val (.int (0 : Int32)), .val (.int (1 : Int32)), .val (.ref a_ALL), .unset, .unset] [(.int (1 : Int32))]) (fun t k => XS.iloadN X4.here hx rfl (hb hby at_20) rfl k) ?_
    obtain ⟨_, _, ⟨T5, L5, k5, n5⟩, -, X5, ⟨Lc5, hQ5, l5, y5, z5⟩, st5⟩ := Jvm.LawKit.callS X4 hx (y := (⟨"com/example/catalog_access_rules/catalogaccessrules/CatalogAccessIncludesPinLaw", "pick", "(I)Lcom/example/catalog_access_rules/catalogaccessrules/CatalogAccess;"⟩ : MethodName)) hown (mvT hZ (hw _ (List.mem_of_getElem? (i := 1) rfl))) (mvT hZ (hw _ (List.mem_of_getElem? (i := 2) rfl))) (mvT hZ (hw _ (List.mem_of_getElem? (i := 3) rfl))) (mvT hZ (hw _ (List.mem_of_getElem? (i := 4) rfl))) (by decide) (backOf (W := 0) (rm_pick l Z a0 hw [] (1 : Int32) a_ALL a_READ_ONLY a_NONE h0 n0 O S_ALL S_READ_ONLY S_NONE) hZ (hw _ (List.mem_of_getElem? (i := 4) rfl)) (hw _ (List.mem_of_getElem? (i := 3) rfl)) (by decide) (by decide)) (g := (mkF m 21 #[.val (.int p1), .val (.int p2), .val (.int (0 : Int32)), .val (.int (1 : Int32)), .val (.ref a_ALL), .unset, .unset] [(.int (1 : Int32))])) rfl (by rw [hml]; rfl) (argsL := [(.int (1 : Int32))]) (rest := []) (lenOf pd_1 rfl) rfl (by show 2 * 0 + _ ≤ _; exact Nat.le_of_eq rfl) (hb hby at_21) (fun _ _ => ⟨rfl, hs4, (by decide : 0 + 0 ≤ _), (by decide : 0 + 0 ≤ _)⟩)
    dsimp only [Pt.U, Pt.locs, Pt.cells, Pt.slots] at X5 l5 y5 z5 st5 hQ5
    subst l5 y5 z5
    obtain ⟨hv5, N5, hs5⟩ := hQ5
    have hp5 : own_pick (1 : Int32) a_ALL a_READ_ONLY a_NONE = a_READ_ONLY := by simp [own_pick]
    rw [hp5] at hv5
    subst hv5
    have N5' := Fr.app N4' N5
    refine Goes.to (T' := T5) (mkF m 24 #[.val (.int p1), .val (.int p2), .val (.int (0 : Int32)), .val (.int (1 : Int32)), .val (.ref a_ALL), .unset, .unset] [(.ref a_READ_ONLY)]) (fun t k => st5 t k) ?_
    refine Goes.to (T' := T5) (mkF m 26 #[.val (.int p1), .val (.int p2), .val (.int (0 : Int32)), .val (.int (1 : Int32)), .val (.ref a_ALL), .val (.ref a_READ_ONLY), .unset] []) (fun t k => XS.astore X5.here hx rfl (hb hby at_24) rfl rfl (l' := #[.val (.int p1), .val (.int p2), .val (.int (0 : Int32)), .val (.int (1 : Int32)), .val (.ref a_ALL), .val (.ref a_READ_ONLY), .unset]) rfl k) ?_
    refine Goes.to (T' := T5) (mkF m 27 #[.val (.int p1), .val (.int p2), .val (.int (0 : Int32)), .val (.int (1 : Int32)), .val (.ref a_ALL), .val (.ref a_READ_ONLY), .unset] [(.int (0 : Int32))]) (fun t k => XS.iloadN X5.here hx rfl (hb hby at_26) rfl k) ?_
    refine Goes.to (T' := T5) (mkF m 40 #[.val (.int p1), .val (.int p2), .val (.int (0 : Int32)), .val (.int (1 : Int32)), .val (.ref a_ALL), .val (.ref a_READ_ONLY), .unset] []) (fun t k => XS.ifYes X5.here hx rfl (pc0 := 27) (pc' := 40) rfl (hb hby at_27) rfl ((if0 _ _).trans (teq ((by decide) : (0 : Int32) = (0 : Int32))).1) (by decide) (by decide) k) ?_
    refine Goes.to (T' := T5) (mkF m 41 #[.val (.int p1), .val (.int p2), .val (.int (0 : Int32)), .val (.int (1 : Int32)), .val (.ref a_ALL), .val (.ref a_READ_ONLY), .unset] [(.int (1 : Int32))]) (fun t k => XS.iconst X5.here hx rfl (hb hby at_40) k) ?_
    refine Goes.to (T' := T5) (mkF m 45 #[.val (.int p1), .val (.int p2), .val (.int (0 : Int32)), .val (.int (1 : Int32)), .val (.ref a_ALL), .val (.ref a_READ_ONLY), .unset] [(.int (1 : Int32))]) (fun t k => XS.goto X5.here hx rfl (pc0 := 41) (pc' := 45) rfl (hb hby at_41) (by decide) (by decide) k) ?_
    refine Goes.to (T' := T5) (mkF m 47 #[.val (.int p1), .val (.int p2), .val (.int (0 : Int32)), .val (.int (1 : Int32)), .val (.ref a_ALL), .val (.ref a_READ_ONLY), .val (.int (1 : Int32))] []) (fun t k => XS.istore X5.here hx rfl (hb hby at_45) rfl (l' := #[.val (.int p1), .val (.int p2), .val (.int (0 : Int32)), .val (.int (1 : Int32)), .val (.ref a_ALL), .val (.ref a_READ_ONLY), .val (.int (1 : Int32))]) rfl k) ?_
    refine Goes.to (T' := T5) (mkF m 49 #[.val (.int p1), .val (.int p2), .val (.int (0 : Int32)), .val (.int (1 : Int32)), .val (.ref a_ALL), .val (.ref a_READ_ONLY), .val (.int (1 : Int32))] [(.ref a_ALL)]) (fun t k => XS.aload X5.here hx rfl (hb hby at_47) rfl rfl k) ?_
    refine Goes.to (T' := T5) (mkF m 51 #[.val (.int p1), .val (.int p2), .val (.int (0 : Int32)), .val (.int (1 : Int32)), .val (.ref a_ALL), .val (.ref a_READ_ONLY), .val (.int (1 : Int32))] [(.ref a_READ_ONLY), (.ref a_ALL)]) (fun t k => XS.aload X5.here hx rfl (hb hby at_49) rfl rfl k) ?_
    obtain ⟨cq6, kq6, q6a, q6b, q6c⟩ := isOf hZ hs5 (E_ALL.ext O.2)
    obtain ⟨_, _, ⟨T6, L6, k6, n6⟩, -, X6, ⟨Lc6, hQ6, l6, y6, z6⟩, st6⟩ := X5.virtualBack hx (y := (⟨"com/example/catalog_access_rules/catalogaccessrules/CatalogAccess", "includes", "(Lcom/example/catalog_access_rules/catalogaccessrules/CatalogAccess;)Z"⟩ : MethodName)) (z := (⟨"com/example/catalog_access_rules/catalogaccessrules/CatalogAccess", "includes", "(Lcom/example/catalog_access_rules/catalogaccessrules/CatalogAccess;)Z"⟩ : MethodName)) hown (mvT hZ (hw _ (List.mem_of_getElem? (i := 8) rfl))) (mvT hZ (hw _ (List.mem_of_getElem? (i := 9) rfl))) (notFace_of_selects (args := #[]) (mvT hZ (hw _ (List.mem_of_getElem? (i := 11) rfl)))) (mvT hZ (hw _ (List.mem_of_getElem? (i := 11) rfl))) (mvT hZ (hw _ (List.mem_of_getElem? (i := 10) rfl))) (by decide) (backOf (W := 0) (rm_inc l Z a0 hw [] a_ALL a_READ_ONLY mr 0 1 h0 n0 O E_ALL E_READ_ONLY M F_ALL F_READ_ONLY) hZ (hw _ (List.mem_of_getElem? (i := 12) rfl)) (hw _ (List.mem_of_getElem? (i := 6) rfl)) (by decide) (by decide)) q6a q6c (g := (mkF m 51 #[.val (.int p1), .val (.int p2), .val (.int (0 : Int32)), .val (.int (1 : Int32)), .val (.ref a_ALL), .val (.ref a_READ_ONLY), .val (.int (1 : Int32))] [(.ref a_READ_ONLY), (.ref a_ALL)])) rfl (by rw [hml]; rfl) (Steps.refl _) (argsL := [(.ref a_READ_ONLY)]) (rest := []) (lenOf pd_2 rfl) rfl (by show 2 * 0 + _ ≤ _; exact Nat.le_of_eq rfl) (hb hby at_51) (fun _ _ => ⟨rfl, hs5, (by decide : 0 + 0 ≤ _), (by decide : 0 + 0 ≤ _)⟩)
    dsimp only [Pt.U, Pt.locs, Pt.cells, Pt.slots] at X6 l6 y6 z6 st6 hQ6
    subst l6 y6 z6
    obtain ⟨rfl, N6, hs6⟩ := hQ6
    have N6' := Fr.app N5' N6
    refine Goes.to (T' := T6) (mkF m 54 #[.val (.int p1), .val (.int p2), .val (.int (0 : Int32)), .val (.int (1 : Int32)), .val (.ref a_ALL), .val (.ref a_READ_ONLY), .val (.int (1 : Int32))] [(.int (bit (¬ (0 : Int32) < (0 : Int32) - (1 : Int32))))]) (fun t k => st6.trans k) ?_
    refine Goes.to (T' := T6) (mkF m 56 #[.val (.int p1), .val (.int p2), .val (.int (0 : Int32)), .val (.int (1 : Int32)), .val (.ref a_ALL), .val (.ref a_READ_ONLY), .val (.int (1 : Int32))] [(.int (1 : Int32)), (.int (bit (¬ (0 : Int32) < (0 : Int32) - (1 : Int32))))]) (fun t k => XS.iload X6.here hx rfl (hb hby at_54) rfl k) ?_
    refine Goes.to (T' := T6) (mkF m 59 #[.val (.int p1), .val (.int p2), .val (.int (0 : Int32)), .val (.int (1 : Int32)), .val (.ref a_ALL), .val (.ref a_READ_ONLY), .val (.int (1 : Int32))] []) (fun t k => XS.icmpNo X6.here hx rfl (hb hby at_56) rfl (teq (by decide : (bit (¬ (0 : Int32) < (0 : Int32) - (1 : Int32))) = (1 : Int32))).2 k) ?_
    refine Goes.to (T' := T6) (mkF m 60 #[.val (.int p1), .val (.int p2), .val (.int (0 : Int32)), .val (.int (1 : Int32)), .val (.ref a_ALL), .val (.ref a_READ_ONLY), .val (.int (1 : Int32))] [(.int (1 : Int32))]) (fun t k => XS.iconst X6.here hx rfl (hb hby at_59) k) ?_
    refine Goes.to (T' := T6) (mkF m 64 #[.val (.int p1), .val (.int p2), .val (.int (0 : Int32)), .val (.int (1 : Int32)), .val (.ref a_ALL), .val (.ref a_READ_ONLY), .val (.int (1 : Int32))] [(.int (1 : Int32))]) (fun t k => XS.goto X6.here hx rfl (pc0 := 60) (pc' := 64) rfl (hb hby at_60) (by decide) (by decide) k) ?_
    refine Goes.retN X6 hx Bd.notSynchronized (t := .boolean) Bd.returns (by simp) (hb hby at_64) (by decide) (by decide) ?_
    rw [hs6]
    exact ⟨rfl, N6'⟩
  · refine Goes.to (T' := s₁) (mkF m 15 #[.val (.int p1), .val (.int p2), .val (.int (0 : Int32)), .val (.int (2 : Int32)), .unset, .unset, .unset] [(.int (0 : Int32))]) (fun t k => XS.iloadN X0.here hx rfl (hb hby at_14) rfl k) ?_
    obtain ⟨_, _, ⟨T7, L7, k7, n7⟩, -, X7, ⟨Lc7, hQ7, l7, y7, z7⟩, st7⟩ := Jvm.LawKit.callS X0 hx (y := (⟨"com/example/catalog_access_rules/catalogaccessrules/CatalogAccessIncludesPinLaw", "pick", "(I)Lcom/example/catalog_access_rules/catalogaccessrules/CatalogAccess;"⟩ : MethodName)) hown (mvT hZ (hw _ (List.mem_of_getElem? (i := 1) rfl))) (mvT hZ (hw _ (List.mem_of_getElem? (i := 2) rfl))) (mvT hZ (hw _ (List.mem_of_getElem? (i := 3) rfl))) (mvT hZ (hw _ (List.mem_of_getElem? (i := 4) rfl))) (by decide) (backOf (W := 0) (rm_pick l Z a0 hw [] (0 : Int32) a_ALL a_READ_ONLY a_NONE h0 n0 O S_ALL S_READ_ONLY S_NONE) hZ (hw _ (List.mem_of_getElem? (i := 4) rfl)) (hw _ (List.mem_of_getElem? (i := 3) rfl)) (by decide) (by decide)) (g := (mkF m 15 #[.val (.int p1), .val (.int p2), .val (.int (0 : Int32)), .val (.int (2 : Int32)), .unset, .unset, .unset] [(.int (0 : Int32))])) rfl (by rw [hml]; rfl) (argsL := [(.int (0 : Int32))]) (rest := []) (lenOf pd_1 rfl) rfl (by show 2 * 0 + _ ≤ _; exact Nat.le_of_eq rfl) (hb hby at_15) (fun _ _ => ⟨rfl, e0, (by decide : 0 + 0 ≤ _), (by decide : 0 + 0 ≤ _)⟩)
    dsimp only [Pt.U, Pt.locs, Pt.cells, Pt.slots] at X7 l7 y7 z7 st7 hQ7
    subst l7 y7 z7
    obtain ⟨hv7, N7, hs7⟩ := hQ7
    have hp7 : own_pick (0 : Int32) a_ALL a_READ_ONLY a_NONE = a_ALL := by simp [own_pick]
    rw [hp7] at hv7
    subst hv7
    have N7' := Fr.app N0 N7
    refine Goes.to (T' := T7) (mkF m 18 #[.val (.int p1), .val (.int p2), .val (.int (0 : Int32)), .val (.int (2 : Int32)), .unset, .unset, .unset] [(.ref a_ALL)]) (fun t k => st7 t k) ?_
    refine Goes.to (T' := T7) (mkF m 20 #[.val (.int p1), .val (.int p2), .val (.int (0 : Int32)), .val (.int (2 : Int32)), .val (.ref a_ALL), .unset, .unset] []) (fun t k => XS.astore X7.here hx rfl (hb hby at_18) rfl rfl (l' := #[.val (.int p1), .val (.int p2), .val (.int (0 : Int32)), .val (.int (2 : Int32)), .val (.ref a_ALL), .unset, .unset]) rfl k) ?_
    refine Goes.to (T' := T7) (mkF m 21 #[.val (.int p1), .val (.int p2), .val (.int (0 : Int32)), .val (.int (2 : Int32)), .val (.ref a_ALL), .unset, .unset] [(.int (2 : Int32))]) (fun t k => XS.iloadN X7.here hx rfl (hb hby at_20) rfl k) ?_
    obtain ⟨_, _, ⟨T8, L8, k8, n8⟩, -, X8, ⟨Lc8, hQ8, l8, y8, z8⟩, st8⟩ := Jvm.LawKit.callS X7 hx (y := (⟨"com/example/catalog_access_rules/catalogaccessrules/CatalogAccessIncludesPinLaw", "pick", "(I)Lcom/example/catalog_access_rules/catalogaccessrules/CatalogAccess;"⟩ : MethodName)) hown (mvT hZ (hw _ (List.mem_of_getElem? (i := 1) rfl))) (mvT hZ (hw _ (List.mem_of_getElem? (i := 2) rfl))) (mvT hZ (hw _ (List.mem_of_getElem? (i := 3) rfl))) (mvT hZ (hw _ (List.mem_of_getElem? (i := 4) rfl))) (by decide) (backOf (W := 0) (rm_pick l Z a0 hw [] (2 : Int32) a_ALL a_READ_ONLY a_NONE h0 n0 O S_ALL S_READ_ONLY S_NONE) hZ (hw _ (List.mem_of_getElem? (i := 4) rfl)) (hw _ (List.mem_of_getElem? (i := 3) rfl)) (by decide) (by decide)) (g := (mkF m 21 #[.val (.int p1), .val (.int p2), .val (.int (0 : Int32)), .val (.int (2 : Int32)), .val (.ref a_ALL), .unset, .unset] [(.int (2 : Int32))])) rfl (by rw [hml]; rfl) (argsL := [(.int (2 : Int32))]) (rest := []) (lenOf pd_1 rfl) rfl (by show 2 * 0 + _ ≤ _; exact Nat.le_of_eq rfl) (hb hby at_21) (fun _ _ => ⟨rfl, hs7, (by decide : 0 + 0 ≤ _), (by decide : 0 + 0 ≤ _)⟩)
    dsimp only [Pt.U, Pt.locs, Pt.cells, Pt.slots] at X8 l8 y8 z8 st8 hQ8
    subst l8 y8 z8
    obtain ⟨hv8, N8, hs8⟩ := hQ8
    have hp8 : own_pick (2 : Int32) a_ALL a_READ_ONLY a_NONE = a_NONE := by simp [own_pick]
    rw [hp8] at hv8
    subst hv8
    have N8' := Fr.app N7' N8
    refine Goes.to (T' := T8) (mkF m 24 #[.val (.int p1), .val (.int p2), .val (.int (0 : Int32)), .val (.int (2 : Int32)), .val (.ref a_ALL), .unset, .unset] [(.ref a_NONE)]) (fun t k => st8 t k) ?_
    refine Goes.to (T' := T8) (mkF m 26 #[.val (.int p1), .val (.int p2), .val (.int (0 : Int32)), .val (.int (2 : Int32)), .val (.ref a_ALL), .val (.ref a_NONE), .unset] []) (fun t k => XS.astore X8.here hx rfl (hb hby at_24) rfl rfl (l' := #[.val (.int p1), .val (.int p2), .val (.int (0 : Int32)), .val (.int (2 : Int32)), .val (.ref a_ALL), .val (.ref a_NONE), .unset]) rfl k) ?_
    refine Goes.to (T' := T8) (mkF m 27 #[.val (.int p1), .val (.int p2), .val (.int (0 : Int32)), .val (.int (2 : Int32)), .val (.ref a_ALL), .val (.ref a_NONE), .unset] [(.int (0 : Int32))]) (fun t k => XS.iloadN X8.here hx rfl (hb hby at_26) rfl k) ?_
    refine Goes.to (T' := T8) (mkF m 40 #[.val (.int p1), .val (.int p2), .val (.int (0 : Int32)), .val (.int (2 : Int32)), .val (.ref a_ALL), .val (.ref a_NONE), .unset] []) (fun t k => XS.ifYes X8.here hx rfl (pc0 := 27) (pc' := 40) rfl (hb hby at_27) rfl ((if0 _ _).trans (teq ((by decide) : (0 : Int32) = (0 : Int32))).1) (by decide) (by decide) k) ?_
    refine Goes.to (T' := T8) (mkF m 41 #[.val (.int p1), .val (.int p2), .val (.int (0 : Int32)), .val (.int (2 : Int32)), .val (.ref a_ALL), .val (.ref a_NONE), .unset] [(.int (1 : Int32))]) (fun t k => XS.iconst X8.here hx rfl (hb hby at_40) k) ?_
    refine Goes.to (T' := T8) (mkF m 45 #[.val (.int p1), .val (.int p2), .val (.int (0 : Int32)), .val (.int (2 : Int32)), .val (.ref a_ALL), .val (.ref a_NONE), .unset] [(.int (1 : Int32))]) (fun t k => XS.goto X8.here hx rfl (pc0 := 41) (pc' := 45) rfl (hb hby at_41) (by decide) (by decide) k) ?_
    refine Goes.to (T' := T8) (mkF m 47 #[.val (.int p1), .val (.int p2), .val (.int (0 : Int32)), .val (.int (2 : Int32)), .val (.ref a_ALL), .val (.ref a_NONE), .val (.int (1 : Int32))] []) (fun t k => XS.istore X8.here hx rfl (hb hby at_45) rfl (l' := #[.val (.int p1), .val (.int p2), .val (.int (0 : Int32)), .val (.int (2 : Int32)), .val (.ref a_ALL), .val (.ref a_NONE), .val (.int (1 : Int32))]) rfl k) ?_
    refine Goes.to (T' := T8) (mkF m 49 #[.val (.int p1), .val (.int p2), .val (.int (0 : Int32)), .val (.int (2 : Int32)), .val (.ref a_ALL), .val (.ref a_NONE), .val (.int (1 : Int32))] [(.ref a_ALL)]) (fun t k => XS.aload X8.here hx rfl (hb hby at_47) rfl rfl k) ?_
    refine Goes.to (T' := T8) (mkF m 51 #[.val (.int p1), .val (.int p2), .val (.int (0 : Int32)), .val (.int (2 : Int32)), .val (.ref a_ALL), .val (.ref a_NONE), .val (.int (1 : Int32))] [(.ref a_NONE), (.ref a_ALL)]) (fun t k => XS.aload X8.here hx rfl (hb hby at_49) rfl rfl k) ?_
    obtain ⟨cq9, kq9, q9a, q9b, q9c⟩ := isOf hZ hs8 (E_ALL.ext O.2)
    obtain ⟨_, _, ⟨T9, L9, k9, n9⟩, -, X9, ⟨Lc9, hQ9, l9, y9, z9⟩, st9⟩ := X8.virtualBack hx (y := (⟨"com/example/catalog_access_rules/catalogaccessrules/CatalogAccess", "includes", "(Lcom/example/catalog_access_rules/catalogaccessrules/CatalogAccess;)Z"⟩ : MethodName)) (z := (⟨"com/example/catalog_access_rules/catalogaccessrules/CatalogAccess", "includes", "(Lcom/example/catalog_access_rules/catalogaccessrules/CatalogAccess;)Z"⟩ : MethodName)) hown (mvT hZ (hw _ (List.mem_of_getElem? (i := 8) rfl))) (mvT hZ (hw _ (List.mem_of_getElem? (i := 9) rfl))) (notFace_of_selects (args := #[]) (mvT hZ (hw _ (List.mem_of_getElem? (i := 11) rfl)))) (mvT hZ (hw _ (List.mem_of_getElem? (i := 11) rfl))) (mvT hZ (hw _ (List.mem_of_getElem? (i := 10) rfl))) (by decide) (backOf (W := 0) (rm_inc l Z a0 hw [] a_ALL a_NONE mr 0 2 h0 n0 O E_ALL E_NONE M F_ALL F_NONE) hZ (hw _ (List.mem_of_getElem? (i := 12) rfl)) (hw _ (List.mem_of_getElem? (i := 6) rfl)) (by decide) (by decide)) q9a q9c (g := (mkF m 51 #[.val (.int p1), .val (.int p2), .val (.int (0 : Int32)), .val (.int (2 : Int32)), .val (.ref a_ALL), .val (.ref a_NONE), .val (.int (1 : Int32))] [(.ref a_NONE), (.ref a_ALL)])) rfl (by rw [hml]; rfl) (Steps.refl _) (argsL := [(.ref a_NONE)]) (rest := []) (lenOf pd_2 rfl) rfl (by show 2 * 0 + _ ≤ _; exact Nat.le_of_eq rfl) (hb hby at_51) (fun _ _ => ⟨rfl, hs8, (by decide : 0 + 0 ≤ _), (by decide : 0 + 0 ≤ _)⟩)
    dsimp only [Pt.U, Pt.locs, Pt.cells, Pt.slots] at X9 l9 y9 z9 st9 hQ9
    subst l9 y9 z9
    obtain ⟨rfl, N9, hs9⟩ := hQ9
    have N9' := Fr.app N8' N9
    refine Goes.to (T' := T9) (mkF m 54 #[.val (.int p1), .val (.int p2), .val (.int (0 : Int32)), .val (.int (2 : Int32)), .val (.ref a_ALL), .val (.ref a_NONE), .val (.int (1 : Int32))] [(.int (bit (¬ (0 : Int32) < (0 : Int32) - (2 : Int32))))]) (fun t k => st9.trans k) ?_
    refine Goes.to (T' := T9) (mkF m 56 #[.val (.int p1), .val (.int p2), .val (.int (0 : Int32)), .val (.int (2 : Int32)), .val (.ref a_ALL), .val (.ref a_NONE), .val (.int (1 : Int32))] [(.int (1 : Int32)), (.int (bit (¬ (0 : Int32) < (0 : Int32) - (2 : Int32))))]) (fun t k => XS.iload X9.here hx rfl (hb hby at_54) rfl k) ?_
    refine Goes.to (T' := T9) (mkF m 59 #[.val (.int p1), .val (.int p2), .val (.int (0 : Int32)), .val (.int (2 : Int32)), .val (.ref a_ALL), .val (.ref a_NONE), .val (.int (1 : Int32))] []) (fun t k => XS.icmpNo X9.here hx rfl (hb hby at_56) rfl (teq (by decide : (bit (¬ (0 : Int32) < (0 : Int32) - (2 : Int32))) = (1 : Int32))).2 k) ?_
    refine Goes.to (T' := T9) (mkF m 60 #[.val (.int p1), .val (.int p2), .val (.int (0 : Int32)), .val (.int (2 : Int32)), .val (.ref a_ALL), .val (.ref a_NONE), .val (.int (1 : Int32))] [(.int (1 : Int32))]) (fun t k => XS.iconst X9.here hx rfl (hb hby at_59) k) ?_
    refine Goes.to (T' := T9) (mkF m 64 #[.val (.int p1), .val (.int p2), .val (.int (0 : Int32)), .val (.int (2 : Int32)), .val (.ref a_ALL), .val (.ref a_NONE), .val (.int (1 : Int32))] [(.int (1 : Int32))]) (fun t k => XS.goto X9.here hx rfl (pc0 := 60) (pc' := 64) rfl (hb hby at_60) (by decide) (by decide) k) ?_
    refine Goes.retN X9 hx Bd.notSynchronized (t := .boolean) Bd.returns (by simp) (hb hby at_64) (by decide) (by decide) ?_
    rw [hs9]
    exact ⟨rfl, N9'⟩
  · refine Goes.to (T' := s₁) (mkF m 15 #[.val (.int p1), .val (.int p2), .val (.int (1 : Int32)), .val (.int (0 : Int32)), .unset, .unset, .unset] [(.int (1 : Int32))]) (fun t k => XS.iloadN X0.here hx rfl (hb hby at_14) rfl k) ?_
    obtain ⟨_, _, ⟨T10, L10, k10, n10⟩, -, X10, ⟨Lc10, hQ10, l10, y10, z10⟩, st10⟩ := Jvm.LawKit.callS X0 hx (y := (⟨"com/example/catalog_access_rules/catalogaccessrules/CatalogAccessIncludesPinLaw", "pick", "(I)Lcom/example/catalog_access_rules/catalogaccessrules/CatalogAccess;"⟩ : MethodName)) hown (mvT hZ (hw _ (List.mem_of_getElem? (i := 1) rfl))) (mvT hZ (hw _ (List.mem_of_getElem? (i := 2) rfl))) (mvT hZ (hw _ (List.mem_of_getElem? (i := 3) rfl))) (mvT hZ (hw _ (List.mem_of_getElem? (i := 4) rfl))) (by decide) (backOf (W := 0) (rm_pick l Z a0 hw [] (1 : Int32) a_ALL a_READ_ONLY a_NONE h0 n0 O S_ALL S_READ_ONLY S_NONE) hZ (hw _ (List.mem_of_getElem? (i := 4) rfl)) (hw _ (List.mem_of_getElem? (i := 3) rfl)) (by decide) (by decide)) (g := (mkF m 15 #[.val (.int p1), .val (.int p2), .val (.int (1 : Int32)), .val (.int (0 : Int32)), .unset, .unset, .unset] [(.int (1 : Int32))])) rfl (by rw [hml]; rfl) (argsL := [(.int (1 : Int32))]) (rest := []) (lenOf pd_1 rfl) rfl (by show 2 * 0 + _ ≤ _; exact Nat.le_of_eq rfl) (hb hby at_15) (fun _ _ => ⟨rfl, e0, (by decide : 0 + 0 ≤ _), (by decide : 0 + 0 ≤ _)⟩)
    dsimp only [Pt.U, Pt.locs, Pt.cells, Pt.slots] at X10 l10 y10 z10 st10 hQ10
    subst l10 y10 z10
    obtain ⟨hv10, N10, hs10⟩ := hQ10
    have hp10 : own_pick (1 : Int32) a_ALL a_READ_ONLY a_NONE = a_READ_ONLY := by simp [own_pick]
    rw [hp10] at hv10
    subst hv10
    have N10' := Fr.app N0 N10
    refine Goes.to (T' := T10) (mkF m 18 #[.val (.int p1), .val (.int p2), .val (.int (1 : Int32)), .val (.int (0 : Int32)), .unset, .unset, .unset] [(.ref a_READ_ONLY)]) (fun t k => st10 t k) ?_
    refine Goes.to (T' := T10) (mkF m 20 #[.val (.int p1), .val (.int p2), .val (.int (1 : Int32)), .val (.int (0 : Int32)), .val (.ref a_READ_ONLY), .unset, .unset] []) (fun t k => XS.astore X10.here hx rfl (hb hby at_18) rfl rfl (l' := #[.val (.int p1), .val (.int p2), .val (.int (1 : Int32)), .val (.int (0 : Int32)), .val (.ref a_READ_ONLY), .unset, .unset]) rfl k) ?_
    refine Goes.to (T' := T10) (mkF m 21 #[.val (.int p1), .val (.int p2), .val (.int (1 : Int32)), .val (.int (0 : Int32)), .val (.ref a_READ_ONLY), .unset, .unset] [(.int (0 : Int32))]) (fun t k => XS.iloadN X10.here hx rfl (hb hby at_20) rfl k) ?_
    obtain ⟨_, _, ⟨T11, L11, k11, n11⟩, -, X11, ⟨Lc11, hQ11, l11, y11, z11⟩, st11⟩ := Jvm.LawKit.callS X10 hx (y := (⟨"com/example/catalog_access_rules/catalogaccessrules/CatalogAccessIncludesPinLaw", "pick", "(I)Lcom/example/catalog_access_rules/catalogaccessrules/CatalogAccess;"⟩ : MethodName)) hown (mvT hZ (hw _ (List.mem_of_getElem? (i := 1) rfl))) (mvT hZ (hw _ (List.mem_of_getElem? (i := 2) rfl))) (mvT hZ (hw _ (List.mem_of_getElem? (i := 3) rfl))) (mvT hZ (hw _ (List.mem_of_getElem? (i := 4) rfl))) (by decide) (backOf (W := 0) (rm_pick l Z a0 hw [] (0 : Int32) a_ALL a_READ_ONLY a_NONE h0 n0 O S_ALL S_READ_ONLY S_NONE) hZ (hw _ (List.mem_of_getElem? (i := 4) rfl)) (hw _ (List.mem_of_getElem? (i := 3) rfl)) (by decide) (by decide)) (g := (mkF m 21 #[.val (.int p1), .val (.int p2), .val (.int (1 : Int32)), .val (.int (0 : Int32)), .val (.ref a_READ_ONLY), .unset, .unset] [(.int (0 : Int32))])) rfl (by rw [hml]; rfl) (argsL := [(.int (0 : Int32))]) (rest := []) (lenOf pd_1 rfl) rfl (by show 2 * 0 + _ ≤ _; exact Nat.le_of_eq rfl) (hb hby at_21) (fun _ _ => ⟨rfl, hs10, (by decide : 0 + 0 ≤ _), (by decide : 0 + 0 ≤ _)⟩)
    dsimp only [Pt.U, Pt.locs, Pt.cells, Pt.slots] at X11 l11 y11 z11 st11 hQ11
    subst l11 y11 z11
    obtain ⟨hv11, N11, hs11⟩ := hQ11
    have hp11 : own_pick (0 : Int32) a_ALL a_READ_ONLY a_NONE = a_ALL := by simp [own_pick]
    rw [hp11] at hv11
    subst hv11
    have N11' := Fr.app N10' N11
    refine Goes.to (T' := T11) (mkF m 24 #[.val (.int p1), .val (.int p2), .val (.int (1 : Int32)), .val (.int (0 : Int32)), .val (.ref a_READ_ONLY), .unset, .unset] [(.ref a_ALL)]) (fun t k => st11 t k) ?_
    refine Goes.to (T' := T11) (mkF m 26 #[.val (.int p1), .val (.int p2), .val (.int (1 : Int32)), .val (.int (0 : Int32)), .val (.ref a_READ_ONLY), .val (.ref a_ALL), .unset] []) (fun t k => XS.astore X11.here hx rfl (hb hby at_24) rfl rfl (l' := #[.val (.int p1), .val (.int p2), .val (.int (1 : Int32)), .val (.int (0 : Int32)), .val (.ref a_READ_ONLY), .val (.ref a_ALL), .unset]) rfl k) ?_
    refine Goes.to (T' := T11) (mkF m 27 #[.val (.int p1), .val (.int p2), .val (.int (1 : Int32)), .val (.int (0 : Int32)), .val (.ref a_READ_ONLY), .val (.ref a_ALL), .unset] [(.int (1 : Int32))]) (fun t k => XS.iloadN X11.here hx rfl (hb hby at_26) rfl k) ?_
    refine Goes.to (T' := T11) (mkF m 30 #[.val (.int p1), .val (.int p2), .val (.int (1 : Int32)), .val (.int (0 : Int32)), .val (.ref a_READ_ONLY), .val (.ref a_ALL), .unset] []) (fun t k => XS.ifNo X11.here hx rfl (hb hby at_27) rfl ((if0 _ _).trans (feq ((by decide) : ¬ ((1 : Int32) = (0 : Int32)))).1) k) ?_
    refine Goes.to (T' := T11) (mkF m 31 #[.val (.int p1), .val (.int p2), .val (.int (1 : Int32)), .val (.int (0 : Int32)), .val (.ref a_READ_ONLY), .val (.ref a_ALL), .unset] [(.int (0 : Int32))]) (fun t k => XS.iloadN X11.here hx rfl (hb hby at_30) rfl k) ?_
    refine Goes.to (T' := T11) (mkF m 32 #[.val (.int p1), .val (.int p2), .val (.int (1 : Int32)), .val (.int (0 : Int32)), .val (.ref a_READ_ONLY), .val (.ref a_ALL), .unset] [(.int (2 : Int32)), (.int (0 : Int32))]) (fun t k => XS.iconst X11.here hx rfl (hb hby at_31) k) ?_
    refine Goes.to (T' := T11) (mkF m 35 #[.val (.int p1), .val (.int p2), .val (.int (1 : Int32)), .val (.int (0 : Int32)), .val (.ref a_READ_ONLY), .val (.ref a_ALL), .unset] []) (fun t k => XS.icmpNo X11.here hx rfl (hb hby at_32) rfl (feq ((by decide) : ¬ ((0 : Int32) = (2 : Int32)))).1 k) ?_
    refine Goes.to (T' := T11) (mkF m 36 #[.val (.int p1), .val (.int p2), .val (.int (1 : Int32)), .val (.int (0 : Int32)), .val (.ref a_READ_ONLY), .val (.ref a_ALL), .unset] [(.int (1 : Int32))]) (fun t k => XS.iloadN X11.here hx rfl (hb hby at_35) rfl k) ?_
    refine Goes.to (T' := T11) (mkF m 37 #[.val (.int p1), .val (.int p2), .val (.int (1 : Int32)), .val (.int (0 : Int32)), .val (.ref a_READ_ONLY), .val (.ref a_ALL), .unset] [(.int (0 : Int32)), (.int (1 : Int32))]) (fun t k => XS.iloadN X11.here hx rfl (hb hby at_36) rfl k) ?_
    refine Goes.to (T' := T11) (mkF m 44 #[.val (.int p1), .val (.int p2), .val (.int (1 : Int32)), .val (.int (0 : Int32)), .val (.ref a_READ_ONLY), .val (.ref a_ALL), .unset] []) (fun t k => XS.icmpYes X11.here hx rfl (pc0 := 37) (pc' := 44) rfl (hb hby at_37) rfl (feq ((by decide) : ¬ ((1 : Int32) = (0 : Int32)))).2 (by decide) (by decide) k) ?_
    refine Goes.to (T' := T11) (mkF m 45 #[.val (.int p1), .val (.int p2), .val (.int (1 : Int32)), .val (.int (0 : Int32)), .val (.ref a_READ_ONLY), .val (.ref a_ALL), .unset] [(.int (0 : Int32))]) (fun t k => XS.iconst X11.here hx rfl (hb hby at_44) k) ?_
    refine Goes.to (T' := T11) (mkF m 47 #[.val (.int p1), .val (.int p2), .val (.int (1 : Int32)), .val (.int (0 : Int32)), .val (.ref a_READ_ONLY), .val (.ref a_ALL), .val (.int (0 : Int32))] []) (fun t k => XS.istore X11.here hx rfl (hb hby at_45) rfl (l' := #[.val (.int p1), .val (.int p2), .val (.int (1 : Int32)), .val (.int (0 : Int32)), .val (.ref a_READ_ONLY), .val (.ref a_ALL), .val (.int (0 : Int32))]) rfl k) ?_
    refine Goes.to (T' := T11) (mkF m 49 #[.val (.int p1), .val (.int p2), .val (.int (1 : Int32)), .val (.int (0 : Int32)), .val (.ref a_READ_ONLY), .val (.ref a_ALL), .val (.int (0 : Int32))] [(.ref a_READ_ONLY)]) (fun t k => XS.aload X11.here hx rfl (hb hby at_47) rfl rfl k) ?_
    refine Goes.to (T' := T11) (mkF m 51 #[.val (.int p1), .val (.int p2), .val (.int (1 : Int32)), .val (.int (0 : Int32)), .val (.ref a_READ_ONLY), .val (.ref a_ALL), .val (.int (0 : Int32))] [(.ref a_ALL), (.ref a_READ_ONLY)]) (fun t k => XS.aload X11.here hx rfl (hb hby at_49) rfl rfl k) ?_
    obtain ⟨cq12, kq12, q12a, q12b, q12c⟩ := isOf hZ hs11 (E_READ_ONLY.ext O.2)
    obtain ⟨_, _, ⟨T12, L12, k12, n12⟩, -, X12, ⟨Lc12, hQ12, l12, y12, z12⟩, st12⟩ := X11.virtualBack hx (y := (⟨"com/example/catalog_access_rules/catalogaccessrules/CatalogAccess", "includes", "(Lcom/example/catalog_access_rules/catalogaccessrules/CatalogAccess;)Z"⟩ : MethodName)) (z := (⟨"com/example/catalog_access_rules/catalogaccessrules/CatalogAccess", "includes", "(Lcom/example/catalog_access_rules/catalogaccessrules/CatalogAccess;)Z"⟩ : MethodName)) hown (mvT hZ (hw _ (List.mem_of_getElem? (i := 8) rfl))) (mvT hZ (hw _ (List.mem_of_getElem? (i := 9) rfl))) (notFace_of_selects (args := #[]) (mvT hZ (hw _ (List.mem_of_getElem? (i := 11) rfl)))) (mvT hZ (hw _ (List.mem_of_getElem? (i := 11) rfl))) (mvT hZ (hw _ (List.mem_of_getElem? (i := 10) rfl))) (by decide) (backOf (W := 0) (rm_inc l Z a0 hw [] a_READ_ONLY a_ALL mr 1 0 h0 n0 O E_READ_ONLY E_ALL M F_READ_ONLY F_ALL) hZ (hw _ (List.mem_of_getElem? (i := 12) rfl)) (hw _ (List.mem_of_getElem? (i := 6) rfl)) (by decide) (by decide)) q12a q12c (g := (mkF m 51 #[.val (.int p1), .val (.int p2), .val (.int (1 : Int32)), .val (.int (0 : Int32)), .val (.ref a_READ_ONLY), .val (.ref a_ALL), .val (.int (0 : Int32))] [(.ref a_ALL), (.ref a_READ_ONLY)])) rfl (by rw [hml]; rfl) (Steps.refl _) (argsL := [(.ref a_ALL)]) (rest := []) (lenOf pd_2 rfl) rfl (by show 2 * 0 + _ ≤ _; exact Nat.le_of_eq rfl) (hb hby at_51) (fun _ _ => ⟨rfl, hs11, (by decide : 0 + 0 ≤ _), (by decide : 0 + 0 ≤ _)⟩)
    dsimp only [Pt.U, Pt.locs, Pt.cells, Pt.slots] at X12 l12 y12 z12 st12 hQ12
    subst l12 y12 z12
    obtain ⟨rfl, N12, hs12⟩ := hQ12
    have N12' := Fr.app N11' N12
    refine Goes.to (T' := T12) (mkF m 54 #[.val (.int p1), .val (.int p2), .val (.int (1 : Int32)), .val (.int (0 : Int32)), .val (.ref a_READ_ONLY), .val (.ref a_ALL), .val (.int (0 : Int32))] [(.int (bit (¬ (0 : Int32) < (1 : Int32) - (0 : Int32))))]) (fun t k => st12.trans k) ?_
    refine Goes.to (T' := T12) (mkF m 56 #[.val (.int p1), .val (.int p2), .val (.int (1 : Int32)), .val (.int (0 : Int32)), .val (.ref a_READ_ONLY), .val (.ref a_ALL), .val (.int (0 : Int32))] [(.int (0 : Int32)), (.int (bit (¬ (0 : Int32) < (1 : Int32) - (0 : Int32))))]) (fun t k => XS.iload X12.here hx rfl (hb hby at_54) rfl k) ?_
    refine Goes.to (T' := T12) (mkF m 59 #[.val (.int p1), .val (.int p2), .val (.int (1 : Int32)), .val (.int (0 : Int32)), .val (.ref a_READ_ONLY), .val (.ref a_ALL), .val (.int (0 : Int32))] []) (fun t k => XS.icmpNo X12.here hx rfl (hb hby at_56) rfl (teq (by decide : (bit (¬ (0 : Int32) < (1 : Int32) - (0 : Int32))) = (0 : Int32))).2 k) ?_
    refine Goes.to (T' := T12) (mkF m 60 #[.val (.int p1), .val (.int p2), .val (.int (1 : Int32)), .val (.int (0 : Int32)), .val (.ref a_READ_ONLY), .val (.ref a_ALL), .val (.int (0 : Int32))] [(.int (1 : Int32))]) (fun t k => XS.iconst X12.here hx rfl (hb hby at_59) k) ?_
    refine Goes.to (T' := T12) (mkF m 64 #[.val (.int p1), .val (.int p2), .val (.int (1 : Int32)), .val (.int (0 : Int32)), .val (.ref a_READ_ONLY), .val (.ref a_ALL), .val (.int (0 : Int32))] [(.int (1 : Int32))]) (fun t k => XS.goto X12.here hx rfl (pc0 := 60) (pc' := 64) rfl (hb hby at_60) (by decide) (by decide) k) ?_
    refine Goes.retN X12 hx Bd.notSynchronized (t := .boolean) Bd.returns (by simp) (hb hby at_64) (by decide) (by decide) ?_
    rw [hs12]
    exact ⟨rfl, N12'⟩
  · refine Goes.to (T' := s₁) (mkF m 15 #[.val (.int p1), .val (.int p2), .val (.int (1 : Int32)), .val (.int (1 : Int32)), .unset, .unset, .unset] [(.int (1 : Int32))]) (fun t k => XS.iloadN X0.here hx rfl (hb hby at_14) rfl k) ?_
    obtain ⟨_, _, ⟨T13, L13, k13, n13⟩, -, X13, ⟨Lc13, hQ13, l13, y13, z13⟩, st13⟩ := Jvm.LawKit.callS X0 hx (y := (⟨"com/example/catalog_access_rules/catalogaccessrules/CatalogAccessIncludesPinLaw", "pick", "(I)Lcom/example/catalog_access_rules/catalogaccessrules/CatalogAccess;"⟩ : MethodName)) hown (mvT hZ (hw _ (List.mem_of_getElem? (i := 1) rfl))) (mvT hZ (hw _ (List.mem_of_getElem? (i := 2) rfl))) (mvT hZ (hw _ (List.mem_of_getElem? (i := 3) rfl))) (mvT hZ (hw _ (List.mem_of_getElem? (i := 4) rfl))) (by decide) (backOf (W := 0) (rm_pick l Z a0 hw [] (1 : Int32) a_ALL a_READ_ONLY a_NONE h0 n0 O S_ALL S_READ_ONLY S_NONE) hZ (hw _ (List.mem_of_getElem? (i := 4) rfl)) (hw _ (List.mem_of_getElem? (i := 3) rfl)) (by decide) (by decide)) (g := (mkF m 15 #[.val (.int p1), .val (.int p2), .val (.int (1 : Int32)), .val (.int (1 : Int32)), .unset, .unset, .unset] [(.int (1 : Int32))])) rfl (by rw [hml]; rfl) (argsL := [(.int (1 : Int32))]) (rest := []) (lenOf pd_1 rfl) rfl (by show 2 * 0 + _ ≤ _; exact Nat.le_of_eq rfl) (hb hby at_15) (fun _ _ => ⟨rfl, e0, (by decide : 0 + 0 ≤ _), (by decide : 0 + 0 ≤ _)⟩)
    dsimp only [Pt.U, Pt.locs, Pt.cells, Pt.slots] at X13 l13 y13 z13 st13 hQ13
    subst l13 y13 z13
    obtain ⟨hv13, N13, hs13⟩ := hQ13
    have hp13 : own_pick (1 : Int32) a_ALL a_READ_ONLY a_NONE = a_READ_ONLY := by simp [own_pick]
    rw [hp13] at hv13
    subst hv13
    have N13' := Fr.app N0 N13
    refine Goes.to (T' := T13) (mkF m 18 #[.val (.int p1), .val (.int p2), .val (.int (1 : Int32)), .val (.int (1 : Int32)), .unset, .unset, .unset] [(.ref a_READ_ONLY)]) (fun t k => st13 t k) ?_
    refine Goes.to (T' := T13) (mkF m 20 #[.val (.int p1), .val (.int p2), .val (.int (1 : Int32)), .val (.int (1 : Int32)), .val (.ref a_READ_ONLY), .unset, .unset] []) (fun t k => XS.astore X13.here hx rfl (hb hby at_18) rfl rfl (l' := #[.val (.int p1), .val (.int p2), .val (.int (1 : Int32)), .val (.int (1 : Int32)), .val (.ref a_READ_ONLY), .unset, .unset]) rfl k) ?_
    refine Goes.to (T' := T13) (mkF m 21 #[.val (.int p1), .val (.int p2), .val (.int (1 : Int32)), .val (.int (1 : Int32)), .val (.ref a_READ_ONLY), .unset, .unset] [(.int (1 : Int32))]) (fun t k => XS.iloadN X13.here hx rfl (hb hby at_20) rfl k) ?_
    obtain ⟨_, _, ⟨T14, L14, k14, n14⟩, -, X14, ⟨Lc14, hQ14, l14, y14, z14⟩, st14⟩ := Jvm.LawKit.callS X13 hx (y := (⟨"com/example/catalog_access_rules/catalogaccessrules/CatalogAccessIncludesPinLaw", "pick", "(I)Lcom/example/catalog_access_rules/catalogaccessrules/CatalogAccess;"⟩ : MethodName)) hown (mvT hZ (hw _ (List.mem_of_getElem? (i := 1) rfl))) (mvT hZ (hw _ (List.mem_of_getElem? (i := 2) rfl))) (mvT hZ (hw _ (List.mem_of_getElem? (i := 3) rfl))) (mvT hZ (hw _ (List.mem_of_getElem? (i := 4) rfl))) (by decide) (backOf (W := 0) (rm_pick l Z a0 hw [] (1 : Int32) a_ALL a_READ_ONLY a_NONE h0 n0 O S_ALL S_READ_ONLY S_NONE) hZ (hw _ (List.mem_of_getElem? (i := 4) rfl)) (hw _ (List.mem_of_getElem? (i := 3) rfl)) (by decide) (by decide)) (g := (mkF m 21 #[.val (.int p1), .val (.int p2), .val (.int (1 : Int32)), .val (.int (1 : Int32)), .val (.ref a_READ_ONLY), .unset, .unset] [(.int (1 : Int32))])) rfl (by rw [hml]; rfl) (argsL := [(.int (1 : Int32))]) (rest := []) (lenOf pd_1 rfl) rfl (by show 2 * 0 + _ ≤ _; exact Nat.le_of_eq rfl) (hb hby at_21) (fun _ _ => ⟨rfl, hs13, (by decide : 0 + 0 ≤ _), (by decide : 0 + 0 ≤ _)⟩)
    dsimp only [Pt.U, Pt.locs, Pt.cells, Pt.slots] at X14 l14 y14 z14 st14 hQ14
    subst l14 y14 z14
    obtain ⟨hv14, N14, hs14⟩ := hQ14
    have hp14 : own_pick (1 : Int32) a_ALL a_READ_ONLY a_NONE = a_READ_ONLY := by simp [own_pick]
    rw [hp14] at hv14
    subst hv14
    have N14' := Fr.app N13' N14
    refine Goes.to (T' := T14) (mkF m 24 #[.val (.int p1), .val (.int p2), .val (.int (1 : Int32)), .val (.int (1 : Int32)), .val (.ref a_READ_ONLY), .unset, .unset] [(.ref a_READ_ONLY)]) (fun t k => st14 t k) ?_
    refine Goes.to (T' := T14) (mkF m 26 #[.val (.int p1), .val (.int p2), .val (.int (1 : Int32)), .val (.int (1 : Int32)), .val (.ref a_READ_ONLY), .val (.ref a_READ_ONLY), .unset] []) (fun t k => XS.astore X14.here hx rfl (hb hby at_24) rfl rfl (l' := #[.val (.int p1), .val (.int p2), .val (.int (1 : Int32)), .val (.int (1 : Int32)), .val (.ref a_READ_ONLY), .val (.ref a_READ_ONLY), .unset]) rfl k) ?_
    refine Goes.to (T' := T14) (mkF m 27 #[.val (.int p1), .val (.int p2), .val (.int (1 : Int32)), .val (.int (1 : Int32)), .val (.ref a_READ_ONLY), .val (.ref a_READ_ONLY), .unset] [(.int (1 : Int32))]) (fun t k => XS.iloadN X14.here hx rfl (hb hby at_26) rfl k) ?_
    refine Goes.to (T' := T14) (mkF m 30 #[.val (.int p1), .val (.int p2), .val (.int (1 : Int32)), .val (.int (1 : Int32)), .val (.ref a_READ_ONLY), .val (.ref a_READ_ONLY), .unset] []) (fun t k => XS.ifNo X14.here hx rfl (hb hby at_27) rfl ((if0 _ _).trans (feq ((by decide) : ¬ ((1 : Int32) = (0 : Int32)))).1) k) ?_
    refine Goes.to (T' := T14) (mkF m 31 #[.val (.int p1), .val (.int p2), .val (.int (1 : Int32)), .val (.int (1 : Int32)), .val (.ref a_READ_ONLY), .val (.ref a_READ_ONLY), .unset] [(.int (1 : Int32))]) (fun t k => XS.iloadN X14.here hx rfl (hb hby at_30) rfl k) ?_
    refine Goes.to (T' := T14) (mkF m 32 #[.val (.int p1), .val (.int p2), .val (.int (1 : Int32)), .val (.int (1 : Int32)), .val (.ref a_READ_ONLY), .val (.ref a_READ_ONLY), .unset] [(.int (2 : Int32)), (.int (1 : Int32))]) (fun t k => XS.iconst X14.here hx rfl (hb hby at_31) k) ?_
    refine Goes.to (T' := T14) (mkF m 35 #[.val (.int p1), .val (.int p2), .val (.int (1 : Int32)), .val (.int (1 : Int32)), .val (.ref a_READ_ONLY), .val (.ref a_READ_ONLY), .unset] []) (fun t k => XS.icmpNo X14.here hx rfl (hb hby at_32) rfl (feq ((by decide) : ¬ ((1 : Int32) = (2 : Int32)))).1 k) ?_
    refine Goes.to (T' := T14) (mkF m 36 #[.val (.int p1), .val (.int p2), .val (.int (1 : Int32)), .val (.int (1 : Int32)), .val (.ref a_READ_ONLY), .val (.ref a_READ_ONLY), .unset] [(.int (1 : Int32))]) (fun t k => XS.iloadN X14.here hx rfl (hb hby at_35) rfl k) ?_
    refine Goes.to (T' := T14) (mkF m 37 #[.val (.int p1), .val (.int p2), .val (.int (1 : Int32)), .val (.int (1 : Int32)), .val (.ref a_READ_ONLY), .val (.ref a_READ_ONLY), .unset] [(.int (1 : Int32)), (.int (1 : Int32))]) (fun t k => XS.iloadN X14.here hx rfl (hb hby at_36) rfl k) ?_
    refine Goes.to (T' := T14) (mkF m 40 #[.val (.int p1), .val (.int p2), .val (.int (1 : Int32)), .val (.int (1 : Int32)), .val (.ref a_READ_ONLY), .val (.ref a_READ_ONLY), .unset] []) (fun t k => XS.icmpNo X14.here hx rfl (hb hby at_37) rfl (teq ((by decide) : (1 : Int32) = (1 : Int32))).2 k) ?_
    refine Goes.to (T' := T14) (mkF m 41 #[.val (.int p1), .val (.int p2), .val (.int (1 : Int32)), .val (.int (1 : Int32)), .val (.ref a_READ_ONLY), .val (.ref a_READ_ONLY), .unset] [(.int (1 : Int32))]) (fun t k => XS.iconst X14.here hx rfl (hb hby at_40) k) ?_
    refine Goes.to (T' := T14) (mkF m 45 #[.val (.int p1), .val (.int p2), .val (.int (1 : Int32)), .val (.int (1 : Int32)), .val (.ref a_READ_ONLY), .val (.ref a_READ_ONLY), .unset] [(.int (1 : Int32))]) (fun t k => XS.goto X14.here hx rfl (pc0 := 41) (pc' := 45) rfl (hb hby at_41) (by decide) (by decide) k) ?_
    refine Goes.to (T' := T14) (mkF m 47 #[.val (.int p1), .val (.int p2), .val (.int (1 : Int32)), .val (.int (1 : Int32)), .val (.ref a_READ_ONLY), .val (.ref a_READ_ONLY), .val (.int (1 : Int32))] []) (fun t k => XS.istore X14.here hx rfl (hb hby at_45) rfl (l' := #[.val (.int p1), .val (.int p2), .val (.int (1 : Int32)), .val (.int (1 : Int32)), .val (.ref a_READ_ONLY), .val (.ref a_READ_ONLY), .val (.int (1 : Int32))]) rfl k) ?_
    refine Goes.to (T' := T14) (mkF m 49 #[.val (.int p1), .val (.int p2), .val (.int (1 : Int32)), .val (.int (1 : Int32)), .val (.ref a_READ_ONLY), .val (.ref a_READ_ONLY), .val (.int (1 : Int32))] [(.ref a_READ_ONLY)]) (fun t k => XS.aload X14.here hx rfl (hb hby at_47) rfl rfl k) ?_
    refine Goes.to (T' := T14) (mkF m 51 #[.val (.int p1), .val (.int p2), .val (.int (1 : Int32)), .val (.int (1 : Int32)), .val (.ref a_READ_ONLY), .val (.ref a_READ_ONLY), .val (.int (1 : Int32))] [(.ref a_READ_ONLY), (.ref a_READ_ONLY)]) (fun t k => XS.aload X14.here hx rfl (hb hby at_49) rfl rfl k) ?_
    obtain ⟨cq15, kq15, q15a, q15b, q15c⟩ := isOf hZ hs14 (E_READ_ONLY.ext O.2)
    obtain ⟨_, _, ⟨T15, L15, k15, n15⟩, -, X15, ⟨Lc15, hQ15, l15, y15, z15⟩, st15⟩ := X14.virtualBack hx (y := (⟨"com/example/catalog_access_rules/catalogaccessrules/CatalogAccess", "includes", "(Lcom/example/catalog_access_rules/catalogaccessrules/CatalogAccess;)Z"⟩ : MethodName)) (z := (⟨"com/example/catalog_access_rules/catalogaccessrules/CatalogAccess", "includes", "(Lcom/example/catalog_access_rules/catalogaccessrules/CatalogAccess;)Z"⟩ : MethodName)) hown (mvT hZ (hw _ (List.mem_of_getElem? (i := 8) rfl))) (mvT hZ (hw _ (List.mem_of_getElem? (i := 9) rfl))) (notFace_of_selects (args := #[]) (mvT hZ (hw _ (List.mem_of_getElem? (i := 11) rfl)))) (mvT hZ (hw _ (List.mem_of_getElem? (i := 11) rfl))) (mvT hZ (hw _ (List.mem_of_getElem? (i := 10) rfl))) (by decide) (backOf (W := 0) (rm_inc l Z a0 hw [] a_READ_ONLY a_READ_ONLY mr 1 1 h0 n0 O E_READ_ONLY E_READ_ONLY M F_READ_ONLY F_READ_ONLY) hZ (hw _ (List.mem_of_getElem? (i := 12) rfl)) (hw _ (List.mem_of_getElem? (i := 6) rfl)) (by decide) (by decide)) q15a q15c (g := (mkF m 51 #[.val (.int p1), .val (.int p2), .val (.int (1 : Int32)), .val (.int (1 : Int32)), .val (.ref a_READ_ONLY), .val (.ref a_READ_ONLY), .val (.int (1 : Int32))] [(.ref a_READ_ONLY), (.ref a_READ_ONLY)])) rfl (by rw [hml]; rfl) (Steps.refl _) (argsL := [(.ref a_READ_ONLY)]) (rest := []) (lenOf pd_2 rfl) rfl (by show 2 * 0 + _ ≤ _; exact Nat.le_of_eq rfl) (hb hby at_51) (fun _ _ => ⟨rfl, hs14, (by decide : 0 + 0 ≤ _), (by decide : 0 + 0 ≤ _)⟩)
    dsimp only [Pt.U, Pt.locs, Pt.cells, Pt.slots] at X15 l15 y15 z15 st15 hQ15
    subst l15 y15 z15
    obtain ⟨rfl, N15, hs15⟩ := hQ15
    have N15' := Fr.app N14' N15
    refine Goes.to (T' := T15) (mkF m 54 #[.val (.int p1), .val (.int p2), .val (.int (1 : Int32)), .val (.int (1 : Int32)), .val (.ref a_READ_ONLY), .val (.ref a_READ_ONLY), .val (.int (1 : Int32))] [(.int (bit (¬ (0 : Int32) < (1 : Int32) - (1 : Int32))))]) (fun t k => st15.trans k) ?_
    refine Goes.to (T' := T15) (mkF m 56 #[.val (.int p1), .val (.int p2), .val (.int (1 : Int32)), .val (.int (1 : Int32)), .val (.ref a_READ_ONLY), .val (.ref a_READ_ONLY), .val (.int (1 : Int32))] [(.int (1 : Int32)), (.int (bit (¬ (0 : Int32) < (1 : Int32) - (1 : Int32))))]) (fun t k => XS.iload X15.here hx rfl (hb hby at_54) rfl k) ?_
    refine Goes.to (T' := T15) (mkF m 59 #[.val (.int p1), .val (.int p2), .val (.int (1 : Int32)), .val (.int (1 : Int32)), .val (.ref a_READ_ONLY), .val (.ref a_READ_ONLY), .val (.int (1 : Int32))] []) (fun t k => XS.icmpNo X15.here hx rfl (hb hby at_56) rfl (teq (by decide : (bit (¬ (0 : Int32) < (1 : Int32) - (1 : Int32))) = (1 : Int32))).2 k) ?_
    refine Goes.to (T' := T15) (mkF m 60 #[.val (.int p1), .val (.int p2), .val (.int (1 : Int32)), .val (.int (1 : Int32)), .val (.ref a_READ_ONLY), .val (.ref a_READ_ONLY), .val (.int (1 : Int32))] [(.int (1 : Int32))]) (fun t k => XS.iconst X15.here hx rfl (hb hby at_59) k) ?_
    refine Goes.to (T' := T15) (mkF m 64 #[.val (.int p1), .val (.int p2), .val (.int (1 : Int32)), .val (.int (1 : Int32)), .val (.ref a_READ_ONLY), .val (.ref a_READ_ONLY), .val (.int (1 : Int32))] [(.int (1 : Int32))]) (fun t k => XS.goto X15.here hx rfl (pc0 := 60) (pc' := 64) rfl (hb hby at_60) (by decide) (by decide) k) ?_
    refine Goes.retN X15 hx Bd.notSynchronized (t := .boolean) Bd.returns (by simp) (hb hby at_64) (by decide) (by decide) ?_
    rw [hs15]
    exact ⟨rfl, N15'⟩
  · refine Goes.to (T' := s₁) (mkF m 15 #[.val (.int p1), .val (.int p2), .val (.int (1 : Int32)), .val (.int (2 : Int32)), .unset, .unset, .unset] [(.int (1 : Int32))]) (fun t k => XS.iloadN X0.here hx rfl (hb hby at_14) rfl k) ?_
    obtain ⟨_, _, ⟨T16, L16, k16, n16⟩, -, X16, ⟨Lc16, hQ16, l16, y16, z16⟩, st16⟩ := Jvm.LawKit.callS X0 hx (y := (⟨"com/example/catalog_access_rules/catalogaccessrules/CatalogAccessIncludesPinLaw", "pick", "(I)Lcom/example/catalog_access_rules/catalogaccessrules/CatalogAccess;"⟩ : MethodName)) hown (mvT hZ (hw _ (List.mem_of_getElem? (i := 1) rfl))) (mvT hZ (hw _ (List.mem_of_getElem? (i := 2) rfl))) (mvT hZ (hw _ (List.mem_of_getElem? (i := 3) rfl))) (mvT hZ (hw _ (List.mem_of_getElem? (i := 4) rfl))) (by decide) (backOf (W := 0) (rm_pick l Z a0 hw [] (1 : Int32) a_ALL a_READ_ONLY a_NONE h0 n0 O S_ALL S_READ_ONLY S_NONE) hZ (hw _ (List.mem_of_getElem? (i := 4) rfl)) (hw _ (List.mem_of_getElem? (i := 3) rfl)) (by decide) (by decide)) (g := (mkF m 15 #[.val (.int p1), .val (.int p2), .val (.int (1 : Int32)), .val (.int (2 : Int32)), .unset, .unset, .unset] [(.int (1 : Int32))])) rfl (by rw [hml]; rfl) (argsL := [(.int (1 : Int32))]) (rest := []) (lenOf pd_1 rfl) rfl (by show 2 * 0 + _ ≤ _; exact Nat.le_of_eq rfl) (hb hby at_15) (fun _ _ => ⟨rfl, e0, (by decide : 0 + 0 ≤ _), (by decide : 0 + 0 ≤ _)⟩)
    dsimp only [Pt.U, Pt.locs, Pt.cells, Pt.slots] at X16 l16 y16 z16 st16 hQ16
    subst l16 y16 z16
    obtain ⟨hv16, N16, hs16⟩ := hQ16
    have hp16 : own_pick (1 : Int32) a_ALL a_READ_ONLY a_NONE = a_READ_ONLY := by simp [own_pick]
    rw [hp16] at hv16
    subst hv16
    have N16' := Fr.app N0 N16
    refine Goes.to (T' := T16) (mkF m 18 #[.val (.int p1), .val (.int p2), .val (.int (1 : Int32)), .val (.int (2 : Int32)), .unset, .unset, .unset] [(.ref a_READ_ONLY)]) (fun t k => st16 t k) ?_
    refine Goes.to (T' := T16) (mkF m 20 #[.val (.int p1), .val (.int p2), .val (.int (1 : Int32)), .val (.int (2 : Int32)), .val (.ref a_READ_ONLY), .unset, .unset] []) (fun t k => XS.astore X16.here hx rfl (hb hby at_18) rfl rfl (l' := #[.val (.int p1), .val (.int p2), .val (.int (1 : Int32)), .val (.int (2 : Int32)), .val (.ref a_READ_ONLY), .unset, .unset]) rfl k) ?_
    refine Goes.to (T' := T16) (mkF m 21 #[.val (.int p1), .val (.int p2), .val (.int (1 : Int32)), .val (.int (2 : Int32)), .val (.ref a_READ_ONLY), .unset, .unset] [(.int (2 : Int32))]) (fun t k => XS.iloadN X16.here hx rfl (hb hby at_20) rfl k) ?_
    obtain ⟨_, _, ⟨T17, L17, k17, n17⟩, -, X17, ⟨Lc17, hQ17, l17, y17, z17⟩, st17⟩ := Jvm.LawKit.callS X16 hx (y := (⟨"com/example/catalog_access_rules/catalogaccessrules/CatalogAccessIncludesPinLaw", "pick", "(I)Lcom/example/catalog_access_rules/catalogaccessrules/CatalogAccess;"⟩ : MethodName)) hown (mvT hZ (hw _ (List.mem_of_getElem? (i := 1) rfl))) (mvT hZ (hw _ (List.mem_of_getElem? (i := 2) rfl))) (mvT hZ (hw _ (List.mem_of_getElem? (i := 3) rfl))) (mvT hZ (hw _ (List.mem_of_getElem? (i := 4) rfl))) (by decide) (backOf (W := 0) (rm_pick l Z a0 hw [] (2 : Int32) a_ALL a_READ_ONLY a_NONE h0 n0 O S_ALL S_READ_ONLY S_NONE) hZ (hw _ (List.mem_of_getElem? (i := 4) rfl)) (hw _ (List.mem_of_getElem? (i := 3) rfl)) (by decide) (by decide)) (g := (mkF m 21 #[.val (.int p1), .val (.int p2), .val (.int (1 : Int32)), .val (.int (2 : Int32)), .val (.ref a_READ_ONLY), .unset, .unset] [(.int (2 : Int32))])) rfl (by rw [hml]; rfl) (argsL := [(.int (2 : Int32))]) (rest := []) (lenOf pd_1 rfl) rfl (by show 2 * 0 + _ ≤ _; exact Nat.le_of_eq rfl) (hb hby at_21) (fun _ _ => ⟨rfl, hs16, (by decide : 0 + 0 ≤ _), (by decide : 0 + 0 ≤ _)⟩)
    dsimp only [Pt.U, Pt.locs, Pt.cells, Pt.slots] at X17 l17 y17 z17 st17 hQ17
    subst l17 y17 z17
    obtain ⟨hv17, N17, hs17⟩ := hQ17
    have hp17 : own_pick (2 : Int32) a_ALL a_READ_ONLY a_NONE = a_NONE := by simp [own_pick]
    rw [hp17] at hv17
    subst hv17
    have N17' := Fr.app N16' N17
    refine Goes.to (T' := T17) (mkF m 24 #[.val (.int p1), .val (.int p2), .val (.int (1 : Int32)), .val (.int (2 : Int32)), .val (.ref a_READ_ONLY), .unset, .unset] [(.ref a_NONE)]) (fun t k => st17 t k) ?_
    refine Goes.to (T' := T17) (mkF m 26 #[.val (.int p1), .val (.int p2), .val (.int (1 : Int32)), .val (.int (2 : Int32)), .val (.ref a_READ_ONLY), .val (.ref a_NONE), .unset] []) (fun t k => XS.astore X17.here hx rfl (hb hby at_24) rfl rfl (l' := #[.val (.int p1), .val (.int p2), .val (.int (1 : Int32)), .val (.int (2 : Int32)), .val (.ref a_READ_ONLY), .val (.ref a_NONE), .unset]) rfl k) ?_
    refine Goes.to (T' := T17) (mkF m 27 #[.val (.int p1), .val (.int p2), .val (.int (1 : Int32)), .val (.int (2 : Int32)), .val (.ref a_READ_ONLY), .val (.ref a_NONE), .unset] [(.int (1 : Int32))]) (fun t k => XS.iloadN X17.here hx rfl (hb hby at_26) rfl k) ?_
    refine Goes.to (T' := T17) (mkF m 30 #[.val (.int p1), .val (.int p2), .val (.int (1 : Int32)), .val (.int (2 : Int32)), .val (.ref a_READ_ONLY), .val (.ref a_NONE), .unset] []) (fun t k => XS.ifNo X17.here hx rfl (hb hby at_27) rfl ((if0 _ _).trans (feq ((by decide) : ¬ ((1 : Int32) = (0 : Int32)))).1) k) ?_
    refine Goes.to (T' := T17) (mkF m 31 #[.val (.int p1), .val (.int p2), .val (.int (1 : Int32)), .val (.int (2 : Int32)), .val (.ref a_READ_ONLY), .val (.ref a_NONE), .unset] [(.int (2 : Int32))]) (fun t k => XS.iloadN X17.here hx rfl (hb hby at_30) rfl k) ?_
    refine Goes.to (T' := T17) (mkF m 32 #[.val (.int p1), .val (.int p2), .val (.int (1 : Int32)), .val (.int (2 : Int32)), .val (.ref a_READ_ONLY), .val (.ref a_NONE), .unset] [(.int (2 : Int32)), (.int (2 : Int32))]) (fun t k => XS.iconst X17.here hx rfl (hb hby at_31) k) ?_
    refine Goes.to (T' := T17) (mkF m 40 #[.val (.int p1), .val (.int p2), .val (.int (1 : Int32)), .val (.int (2 : Int32)), .val (.ref a_READ_ONLY), .val (.ref a_NONE), .unset] []) (fun t k => XS.icmpYes X17.here hx rfl (pc0 := 32) (pc' := 40) rfl (hb hby at_32) rfl (teq ((by decide) : (2 : Int32) = (2 : Int32))).1 (by decide) (by decide) k) ?_
    refine Goes.to (T' := T17) (mkF m 41 #[.val (.int p1), .val (.int p2), .val (.int (1 : Int32)), .val (.int (2 : Int32)), .val (.ref a_READ_ONLY), .val (.ref a_NONE), .unset] [(.int (1 : Int32))]) (fun t k => XS.iconst X17.here hx rfl (hb hby at_40) k) ?_
    refine Goes.to (T' := T17) (mkF m 45 #[.val (.int p1), .val (.int p2), .val (.int (1 : Int32)), .val (.int (2 : Int32)), .val (.ref a_READ_ONLY), .val (.ref a_NONE), .unset] [(.int (1 : Int32))]) (fun t k => XS.goto X17.here hx rfl (pc0 := 41) (pc' := 45) rfl (hb hby at_41) (by decide) (by decide) k) ?_
    refine Goes.to (T' := T17) (mkF m 47 #[.val (.int p1), .val (.int p2), .val (.int (1 : Int32)), .val (.int (2 : Int32)), .val (.ref a_READ_ONLY), .val (.ref a_NONE), .val (.int (1 : Int32))] []) (fun t k => XS.istore X17.here hx rfl (hb hby at_45) rfl (l' := #[.val (.int p1), .val (.int p2), .val (.int (1 : Int32)), .val (.int (2 : Int32)), .val (.ref a_READ_ONLY), .val (.ref a_NONE), .val (.int (1 : Int32))]) rfl k) ?_
    refine Goes.to (T' := T17) (mkF m 49 #[.val (.int p1), .val (.int p2), .val (.int (1 : Int32)), .val (.int (2 : Int32)), .val (.ref a_READ_ONLY), .val (.ref a_NONE), .val (.int (1 : Int32))] [(.ref a_READ_ONLY)]) (fun t k => XS.aload X17.here hx rfl (hb hby at_47) rfl rfl k) ?_
    refine Goes.to (T' := T17) (mkF m 51 #[.val (.int p1), .val (.int p2), .val (.int (1 : Int32)), .val (.int (2 : Int32)), .val (.ref a_READ_ONLY), .val (.ref a_NONE), .val (.int (1 : Int32))] [(.ref a_NONE), (.ref a_READ_ONLY)]) (fun t k => XS.aload X17.here hx rfl (hb hby at_49) rfl rfl k) ?_
    obtain ⟨cq18, kq18, q18a, q18b, q18c⟩ := isOf hZ hs17 (E_READ_ONLY.ext O.2)
    obtain ⟨_, _, ⟨T18, L18, k18, n18⟩, -, X18, ⟨Lc18, hQ18, l18, y18, z18⟩, st18⟩ := X17.virtualBack hx (y := (⟨"com/example/catalog_access_rules/catalogaccessrules/CatalogAccess", "includes", "(Lcom/example/catalog_access_rules/catalogaccessrules/CatalogAccess;)Z"⟩ : MethodName)) (z := (⟨"com/example/catalog_access_rules/catalogaccessrules/CatalogAccess", "includes", "(Lcom/example/catalog_access_rules/catalogaccessrules/CatalogAccess;)Z"⟩ : MethodName)) hown (mvT hZ (hw _ (List.mem_of_getElem? (i := 8) rfl))) (mvT hZ (hw _ (List.mem_of_getElem? (i := 9) rfl))) (notFace_of_selects (args := #[]) (mvT hZ (hw _ (List.mem_of_getElem? (i := 11) rfl)))) (mvT hZ (hw _ (List.mem_of_getElem? (i := 11) rfl))) (mvT hZ (hw _ (List.mem_of_getElem? (i := 10) rfl))) (by decide) (backOf (W := 0) (rm_inc l Z a0 hw [] a_READ_ONLY a_NONE mr 1 2 h0 n0 O E_READ_ONLY E_NONE M F_READ_ONLY F_NONE) hZ (hw _ (List.mem_of_getElem? (i := 12) rfl)) (hw _ (List.mem_of_getElem? (i := 6) rfl)) (by decide) (by decide)) q18a q18c (g := (mkF m 51 #[.val (.int p1), .val (.int p2), .val (.int (1 : Int32)), .val (.int (2 : Int32)), .val (.ref a_READ_ONLY), .val (.ref a_NONE), .val (.int (1 : Int32))] [(.ref a_NONE), (.ref a_READ_ONLY)])) rfl (by rw [hml]; rfl) (Steps.refl _) (argsL := [(.ref a_NONE)]) (rest := []) (lenOf pd_2 rfl) rfl (by show 2 * 0 + _ ≤ _; exact Nat.le_of_eq rfl) (hb hby at_51) (fun _ _ => ⟨rfl, hs17, (by decide : 0 + 0 ≤ _), (by decide : 0 + 0 ≤ _)⟩)
    dsimp only [Pt.U, Pt.locs, Pt.cells, Pt.slots] at X18 l18 y18 z18 st18 hQ18
    subst l18 y18 z18
    obtain ⟨rfl, N18, hs18⟩ := hQ18
    have N18' := Fr.app N17' N18
    refine Goes.to (T' := T18) (mkF m 54 #[.val (.int p1), .val (.int p2), .val (.int (1 : Int32)), .val (.int (2 : Int32)), .val (.ref a_READ_ONLY), .val (.ref a_NONE), .val (.int (1 : Int32))] [(.int (bit (¬ (0 : Int32) < (1 : Int32) - (2 : Int32))))]) (fun t k => st18.trans k) ?_
    refine Goes.to (T' := T18) (mkF m 56 #[.val (.int p1), .val (.int p2), .val (.int (1 : Int32)), .val (.int (2 : Int32)), .val (.ref a_READ_ONLY), .val (.ref a_NONE), .val (.int (1 : Int32))] [(.int (1 : Int32)), (.int (bit (¬ (0 : Int32) < (1 : Int32) - (2 : Int32))))]) (fun t k => XS.iload X18.here hx rfl (hb hby at_54) rfl k) ?_
    refine Goes.to (T' := T18) (mkF m 59 #[.val (.int p1), .val (.int p2), .val (.int (1 : Int32)), .val (.int (2 : Int32)), .val (.ref a_READ_ONLY), .val (.ref a_NONE), .val (.int (1 : Int32))] []) (fun t k => XS.icmpNo X18.here hx rfl (hb hby at_56) rfl (teq (by decide : (bit (¬ (0 : Int32) < (1 : Int32) - (2 : Int32))) = (1 : Int32))).2 k) ?_
    refine Goes.to (T' := T18) (mkF m 60 #[.val (.int p1), .val (.int p2), .val (.int (1 : Int32)), .val (.int (2 : Int32)), .val (.ref a_READ_ONLY), .val (.ref a_NONE), .val (.int (1 : Int32))] [(.int (1 : Int32))]) (fun t k => XS.iconst X18.here hx rfl (hb hby at_59) k) ?_
    refine Goes.to (T' := T18) (mkF m 64 #[.val (.int p1), .val (.int p2), .val (.int (1 : Int32)), .val (.int (2 : Int32)), .val (.ref a_READ_ONLY), .val (.ref a_NONE), .val (.int (1 : Int32))] [(.int (1 : Int32))]) (fun t k => XS.goto X18.here hx rfl (pc0 := 60) (pc' := 64) rfl (hb hby at_60) (by decide) (by decide) k) ?_
    refine Goes.retN X18 hx Bd.notSynchronized (t := .boolean) Bd.returns (by simp) (hb hby at_64) (by decide) (by decide) ?_
    rw [hs18]
    exact ⟨rfl, N18'⟩
  · refine Goes.to (T' := s₁) (mkF m 15 #[.val (.int p1), .val (.int p2), .val (.int (2 : Int32)), .val (.int (0 : Int32)), .unset, .unset, .unset] [(.int (2 : Int32))]) (fun t k => XS.iloadN X0.here hx rfl (hb hby at_14) rfl k) ?_
    obtain ⟨_, _, ⟨T19, L19, k19, n19⟩, -, X19, ⟨Lc19, hQ19, l19, y19, z19⟩, st19⟩ := Jvm.LawKit.callS X0 hx (y := (⟨"com/example/catalog_access_rules/catalogaccessrules/CatalogAccessIncludesPinLaw", "pick", "(I)Lcom/example/catalog_access_rules/catalogaccessrules/CatalogAccess;"⟩ : MethodName)) hown (mvT hZ (hw _ (List.mem_of_getElem? (i := 1) rfl))) (mvT hZ (hw _ (List.mem_of_getElem? (i := 2) rfl))) (mvT hZ (hw _ (List.mem_of_getElem? (i := 3) rfl))) (mvT hZ (hw _ (List.mem_of_getElem? (i := 4) rfl))) (by decide) (backOf (W := 0) (rm_pick l Z a0 hw [] (2 : Int32) a_ALL a_READ_ONLY a_NONE h0 n0 O S_ALL S_READ_ONLY S_NONE) hZ (hw _ (List.mem_of_getElem? (i := 4) rfl)) (hw _ (List.mem_of_getElem? (i := 3) rfl)) (by decide) (by decide)) (g := (mkF m 15 #[.val (.int p1), .val (.int p2), .val (.int (2 : Int32)), .val (.int (0 : Int32)), .unset, .unset, .unset] [(.int (2 : Int32))])) rfl (by rw [hml]; rfl) (argsL := [(.int (2 : Int32))]) (rest := []) (lenOf pd_1 rfl) rfl (by show 2 * 0 + _ ≤ _; exact Nat.le_of_eq rfl) (hb hby at_15) (fun _ _ => ⟨rfl, e0, (by decide : 0 + 0 ≤ _), (by decide : 0 + 0 ≤ _)⟩)
    dsimp only [Pt.U, Pt.locs, Pt.cells, Pt.slots] at X19 l19 y19 z19 st19 hQ19
    subst l19 y19 z19
    obtain ⟨hv19, N19, hs19⟩ := hQ19
    have hp19 : own_pick (2 : Int32) a_ALL a_READ_ONLY a_NONE = a_NONE := by simp [own_pick]
    rw [hp19] at hv19
    subst hv19
    have N19' := Fr.app N0 N19
    refine Goes.to (T' := T19) (mkF m 18 #[.val (.int p1), .val (.int p2), .val (.int (2 : Int32)), .val (.int (0 : Int32)), .unset, .unset, .unset] [(.ref a_NONE)]) (fun t k => st19 t k) ?_
    refine Goes.to (T' := T19) (mkF m 20 #[.val (.int p1), .val (.int p2), .val (.int (2 : Int32)), .val (.int (0 : Int32)), .val (.ref a_NONE), .unset, .unset] []) (fun t k => XS.astore X19.here hx rfl (hb hby at_18) rfl rfl (l' := #[.val (.int p1), .val (.int p2), .val (.int (2 : Int32)), .val (.int (0 : Int32)), .val (.ref a_NONE), .unset, .unset]) rfl k) ?_
    refine Goes.to (T' := T19) (mkF m 21 #[.val (.int p1), .val (.int p2), .val (.int (2 : Int32)), .val (.int (0 : Int32)), .val (.ref a_NONE), .unset, .unset] [(.int (0 : Int32))]) (fun t k => XS.iloadN X19.here hx rfl (hb hby at_20) rfl k) ?_
    obtain ⟨_, _, ⟨T20, L20, k20, n20⟩, -, X20, ⟨Lc20, hQ20, l20, y20, z20⟩, st20⟩ := Jvm.LawKit.callS X19 hx (y := (⟨"com/example/catalog_access_rules/catalogaccessrules/CatalogAccessIncludesPinLaw", "pick", "(I)Lcom/example/catalog_access_rules/catalogaccessrules/CatalogAccess;"⟩ : MethodName)) hown (mvT hZ (hw _ (List.mem_of_getElem? (i := 1) rfl))) (mvT hZ (hw _ (List.mem_of_getElem? (i := 2) rfl))) (mvT hZ (hw _ (List.mem_of_getElem? (i := 3) rfl))) (mvT hZ (hw _ (List.mem_of_getElem? (i := 4) rfl))) (by decide) (backOf (W := 0) (rm_pick l Z a0 hw [] (0 : Int32) a_ALL a_READ_ONLY a_NONE h0 n0 O S_ALL S_READ_ONLY S_NONE) hZ (hw _ (List.mem_of_getElem? (i := 4) rfl)) (hw _ (List.mem_of_getElem? (i := 3) rfl)) (by decide) (by decide)) (g := (mkF m 21 #[.val (.int p1), .val (.int p2), .val (.int (2 : Int32)), .val (.int (0 : Int32)), .val (.ref a_NONE), .unset, .unset] [(.int (0 : Int32))])) rfl (by rw [hml]; rfl) (argsL := [(.int (0 : Int32))]) (rest := []) (lenOf pd_1 rfl) rfl (by show 2 * 0 + _ ≤ _; exact Nat.le_of_eq rfl) (hb hby at_21) (fun _ _ => ⟨rfl, hs19, (by decide : 0 + 0 ≤ _), (by decide : 0 + 0 ≤ _)⟩)
    dsimp only [Pt.U, Pt.locs, Pt.cells, Pt.slots] at X20 l20 y20 z20 st20 hQ20
    subst l20 y20 z20
    obtain ⟨hv20, N20, hs20⟩ := hQ20
    have hp20 : own_pick (0 : Int32) a_ALL a_READ_ONLY a_NONE = a_ALL := by simp [own_pick]
    rw [hp20] at hv20
    subst hv20
    have N20' := Fr.app N19' N20
    refine Goes.to (T' := T20) (mkF m 24 #[.val (.int p1), .val (.int p2), .val (.int (2 : Int32)), .val (.int (0 : Int32)), .val (.ref a_NONE), .unset, .unset] [(.ref a_ALL)]) (fun t k => st20 t k) ?_
    refine Goes.to (T' := T20) (mkF m 26 #[.val (.int p1), .val (.int p2), .val (.int (2 : Int32)), .val (.int (0 : Int32)), .val (.ref a_NONE), .val (.ref a_ALL), .unset] []) (fun t k => XS.astore X20.here hx rfl (hb hby at_24) rfl rfl (l' := #[.val (.int p1), .val (.int p2), .val (.int (2 : Int32)), .val (.int (0 : Int32)), .val (.ref a_NONE), .val (.ref a_ALL), .unset]) rfl k) ?_
    refine Goes.to (T' := T20) (mkF m 27 #[.val (.int p1), .val (.int p2), .val (.int (2 : Int32)), .val (.int (0 : Int32)), .val (.ref a_NONE), .val (.ref a_ALL), .unset] [(.int (2 : Int32))]) (fun t k => XS.iloadN X20.here hx rfl (hb hby at_26) rfl k) ?_
    refine Goes.to (T' := T20) (mkF m 30 #[.val (.int p1), .val (.int p2), .val (.int (2 : Int32)), .val (.int (0 : Int32)), .val (.ref a_NONE), .val (.ref a_ALL), .unset] []) (fun t k => XS.ifNo X20.here hx rfl (hb hby at_27) rfl ((if0 _ _).trans (feq ((by decide) : ¬ ((2 : Int32) = (0 : Int32)))).1) k) ?_
    refine Goes.to (T' := T20) (mkF m 31 #[.val (.int p1), .val (.int p2), .val (.int (2 : Int32)), .val (.int (0 : Int32)), .val (.ref a_NONE), .val (.ref a_ALL), .unset] [(.int (0 : Int32))]) (fun t k => XS.iloadN X20.here hx rfl (hb hby at_30) rfl k) ?_
    refine Goes.to (T' := T20) (mkF m 32 #[.val (.int p1), .val (.int p2), .val (.int (2 : Int32)), .val (.int (0 : Int32)), .val (.ref a_NONE), .val (.ref a_ALL), .unset] [(.int (2 : Int32)), (.int (0 : Int32))]) (fun t k => XS.iconst X20.here hx rfl (hb hby at_31) k) ?_
    refine Goes.to (T' := T20) (mkF m 35 #[.val (.int p1), .val (.int p2), .val (.int (2 : Int32)), .val (.int (0 : Int32)), .val (.ref a_NONE), .val (.ref a_ALL), .unset] []) (fun t k => XS.icmpNo X20.here hx rfl (hb hby at_32) rfl (feq ((by decide) : ¬ ((0 : Int32) = (2 : Int32)))).1 k) ?_
    refine Goes.to (T' := T20) (mkF m 36 #[.val (.int p1), .val (.int p2), .val (.int (2 : Int32)), .val (.int (0 : Int32)), .val (.ref a_NONE), .val (.ref a_ALL), .unset] [(.int (2 : Int32))]) (fun t k => XS.iloadN X20.here hx rfl (hb hby at_35) rfl k) ?_
    refine Goes.to (T' := T20) (mkF m 37 #[.val (.int p1), .val (.int p2), .val (.int (2 : Int32)), .val (.int (0 : Int32)), .val (.ref a_NONE), .val (.ref a_ALL), .unset] [(.int (0 : Int32)), (.int (2 : Int32))]) (fun t k => XS.iloadN X20.here hx rfl (hb hby at_36) rfl k) ?_
    refine Goes.to (T' := T20) (mkF m 44 #[.val (.int p1), .val (.int p2), .val (.int (2 : Int32)), .val (.int (0 : Int32)), .val (.ref a_NONE), .val (.ref a_ALL), .unset] []) (fun t k => XS.icmpYes X20.here hx rfl (pc0 := 37) (pc' := 44) rfl (hb hby at_37) rfl (feq ((by decide) : ¬ ((2 : Int32) = (0 : Int32)))).2 (by decide) (by decide) k) ?_
    refine Goes.to (T' := T20) (mkF m 45 #[.val (.int p1), .val (.int p2), .val (.int (2 : Int32)), .val (.int (0 : Int32)), .val (.ref a_NONE), .val (.ref a_ALL), .unset] [(.int (0 : Int32))]) (fun t k => XS.iconst X20.here hx rfl (hb hby at_44) k) ?_
    refine Goes.to (T' := T20) (mkF m 47 #[.val (.int p1), .val (.int p2), .val (.int (2 : Int32)), .val (.int (0 : Int32)), .val (.ref a_NONE), .val (.ref a_ALL), .val (.int (0 : Int32))] []) (fun t k => XS.istore X20.here hx rfl (hb hby at_45) rfl (l' := #[.val (.int p1), .val (.int p2), .val (.int (2 : Int32)), .val (.int (0 : Int32)), .val (.ref a_NONE), .val (.ref a_ALL), .val (.int (0 : Int32))]) rfl k) ?_
    refine Goes.to (T' := T20) (mkF m 49 #[.val (.int p1), .val (.int p2), .val (.int (2 : Int32)), .val (.int (0 : Int32)), .val (.ref a_NONE), .val (.ref a_ALL), .val (.int (0 : Int32))] [(.ref a_NONE)]) (fun t k => XS.aload X20.here hx rfl (hb hby at_47) rfl rfl k) ?_
    refine Goes.to (T' := T20) (mkF m 51 #[.val (.int p1), .val (.int p2), .val (.int (2 : Int32)), .val (.int (0 : Int32)), .val (.ref a_NONE), .val (.ref a_ALL), .val (.int (0 : Int32))] [(.ref a_ALL), (.ref a_NONE)]) (fun t k => XS.aload X20.here hx rfl (hb hby at_49) rfl rfl k) ?_
    obtain ⟨cq21, kq21, q21a, q21b, q21c⟩ := isOf hZ hs20 (E_NONE.ext O.2)
    obtain ⟨_, _, ⟨T21, L21, k21, n21⟩, -, X21, ⟨Lc21, hQ21, l21, y21, z21⟩, st21⟩ := X20.virtualBack hx (y := (⟨"com/example/catalog_access_rules/catalogaccessrules/CatalogAccess", "includes", "(Lcom/example/catalog_access_rules/catalogaccessrules/CatalogAccess;)Z"⟩ : MethodName)) (z := (⟨"com/example/catalog_access_rules/catalogaccessrules/CatalogAccess", "includes", "(Lcom/example/catalog_access_rules/catalogaccessrules/CatalogAccess;)Z"⟩ : MethodName)) hown (mvT hZ (hw _ (List.mem_of_getElem? (i := 8) rfl))) (mvT hZ (hw _ (List.mem_of_getElem? (i := 9) rfl))) (notFace_of_selects (args := #[]) (mvT hZ (hw _ (List.mem_of_getElem? (i := 11) rfl)))) (mvT hZ (hw _ (List.mem_of_getElem? (i := 11) rfl))) (mvT hZ (hw _ (List.mem_of_getElem? (i := 10) rfl))) (by decide) (backOf (W := 0) (rm_inc l Z a0 hw [] a_NONE a_ALL mr 2 0 h0 n0 O E_NONE E_ALL M F_NONE F_ALL) hZ (hw _ (List.mem_of_getElem? (i := 12) rfl)) (hw _ (List.mem_of_getElem? (i := 6) rfl)) (by decide) (by decide)) q21a q21c (g := (mkF m 51 #[.val (.int p1), .val (.int p2), .val (.int (2 : Int32)), .val (.int (0 : Int32)), .val (.ref a_NONE), .val (.ref a_ALL), .val (.int (0 : Int32))] [(.ref a_ALL), (.ref a_NONE)])) rfl (by rw [hml]; rfl) (Steps.refl _) (argsL := [(.ref a_ALL)]) (rest := []) (lenOf pd_2 rfl) rfl (by show 2 * 0 + _ ≤ _; exact Nat.le_of_eq rfl) (hb hby at_51) (fun _ _ => ⟨rfl, hs20, (by decide : 0 + 0 ≤ _), (by decide : 0 + 0 ≤ _)⟩)
    dsimp only [Pt.U, Pt.locs, Pt.cells, Pt.slots] at X21 l21 y21 z21 st21 hQ21
    subst l21 y21 z21
    obtain ⟨rfl, N21, hs21⟩ := hQ21
    have N21' := Fr.app N20' N21
    refine Goes.to (T' := T21) (mkF m 54 #[.val (.int p1), .val (.int p2), .val (.int (2 : Int32)), .val (.int (0 : Int32)), .val (.ref a_NONE), .val (.ref a_ALL), .val (.int (0 : Int32))] [(.int (bit (¬ (0 : Int32) < (2 : Int32) - (0 : Int32))))]) (fun t k => st21.trans k) ?_
    refine Goes.to (T' := T21) (mkF m 56 #[.val (.int p1), .val (.int p2), .val (.int (2 : Int32)), .val (.int (0 : Int32)), .val (.ref a_NONE), .val (.ref a_ALL), .val (.int (0 : Int32))] [(.int (0 : Int32)), (.int (bit (¬ (0 : Int32) < (2 : Int32) - (0 : Int32))))]) (fun t k => XS.iload X21.here hx rfl (hb hby at_54) rfl k) ?_
    refine Goes.to (T' := T21) (mkF m 59 #[.val (.int p1), .val (.int p2), .val (.int (2 : Int32)), .val (.int (0 : Int32)), .val (.ref a_NONE), .val (.ref a_ALL), .val (.int (0 : Int32))] []) (fun t k => XS.icmpNo X21.here hx rfl (hb hby at_56) rfl (teq (by decide : (bit (¬ (0 : Int32) < (2 : Int32) - (0 : Int32))) = (0 : Int32))).2 k) ?_
    refine Goes.to (T' := T21) (mkF m 60 #[.val (.int p1), .val (.int p2), .val (.int (2 : Int32)), .val (.int (0 : Int32)), .val (.ref a_NONE), .val (.ref a_ALL), .val (.int (0 : Int32))] [(.int (1 : Int32))]) (fun t k => XS.iconst X21.here hx rfl (hb hby at_59) k) ?_
    refine Goes.to (T' := T21) (mkF m 64 #[.val (.int p1), .val (.int p2), .val (.int (2 : Int32)), .val (.int (0 : Int32)), .val (.ref a_NONE), .val (.ref a_ALL), .val (.int (0 : Int32))] [(.int (1 : Int32))]) (fun t k => XS.goto X21.here hx rfl (pc0 := 60) (pc' := 64) rfl (hb hby at_60) (by decide) (by decide) k) ?_
    refine Goes.retN X21 hx Bd.notSynchronized (t := .boolean) Bd.returns (by simp) (hb hby at_64) (by decide) (by decide) ?_
    rw [hs21]
    exact ⟨rfl, N21'⟩
  · refine Goes.to (T' := s₁) (mkF m 15 #[.val (.int p1), .val (.int p2), .val (.int (2 : Int32)), .val (.int (1 : Int32)), .unset, .unset, .unset] [(.int (2 : Int32))]) (fun t k => XS.iloadN X0.here hx rfl (hb hby at_14) rfl k) ?_
    obtain ⟨_, _, ⟨T22, L22, k22, n22⟩, -, X22, ⟨Lc22, hQ22, l22, y22, z22⟩, st22⟩ := Jvm.LawKit.callS X0 hx (y := (⟨"com/example/catalog_access_rules/catalogaccessrules/CatalogAccessIncludesPinLaw", "pick", "(I)Lcom/example/catalog_access_rules/catalogaccessrules/CatalogAccess;"⟩ : MethodName)) hown (mvT hZ (hw _ (List.mem_of_getElem? (i := 1) rfl))) (mvT hZ (hw _ (List.mem_of_getElem? (i := 2) rfl))) (mvT hZ (hw _ (List.mem_of_getElem? (i := 3) rfl))) (mvT hZ (hw _ (List.mem_of_getElem? (i := 4) rfl))) (by decide) (backOf (W := 0) (rm_pick l Z a0 hw [] (2 : Int32) a_ALL a_READ_ONLY a_NONE h0 n0 O S_ALL S_READ_ONLY S_NONE) hZ (hw _ (List.mem_of_getElem? (i := 4) rfl)) (hw _ (List.mem_of_getElem? (i := 3) rfl)) (by decide) (by decide)) (g := (mkF m 15 #[.val (.int p1), .val (.int p2), .val (.int (2 : Int32)), .val (.int (1 : Int32)), .unset, .unset, .unset] [(.int (2 : Int32))])) rfl (by rw [hml]; rfl) (argsL := [(.int (2 : Int32))]) (rest := []) (lenOf pd_1 rfl) rfl (by show 2 * 0 + _ ≤ _; exact Nat.le_of_eq rfl) (hb hby at_15) (fun _ _ => ⟨rfl, e0, (by decide : 0 + 0 ≤ _), (by decide : 0 + 0 ≤ _)⟩)
    dsimp only [Pt.U, Pt.locs, Pt.cells, Pt.slots] at X22 l22 y22 z22 st22 hQ22
    subst l22 y22 z22
    obtain ⟨hv22, N22, hs22⟩ := hQ22
    have hp22 : own_pick (2 : Int32) a_ALL a_READ_ONLY a_NONE = a_NONE := by simp [own_pick]
    rw [hp22] at hv22
    subst hv22
    have N22' := Fr.app N0 N22
    refine Goes.to (T' := T22) (mkF m 18 #[.val (.int p1), .val (.int p2), .val (.int (2 : Int32)), .val (.int (1 : Int32)), .unset, .unset, .unset] [(.ref a_NONE)]) (fun t k => st22 t k) ?_
    refine Goes.to (T' := T22) (mkF m 20 #[.val (.int p1), .val (.int p2), .val (.int (2 : Int32)), .val (.int (1 : Int32)), .val (.ref a_NONE), .unset, .unset] []) (fun t k => XS.astore X22.here hx rfl (hb hby at_18) rfl rfl (l' := #[.val (.int p1), .val (.int p2), .val (.int (2 : Int32)), .val (.int (1 : Int32)), .val (.ref a_NONE), .unset, .unset]) rfl k) ?_
    refine Goes.to (T' := T22) (mkF m 21 #[.val (.int p1), .val (.int p2), .val (.int (2 : Int32)), .val (.int (1 : Int32)), .val (.ref a_NONE), .unset, .unset] [(.int (1 : Int32))]) (fun t k => XS.iloadN X22.here hx rfl (hb hby at_20) rfl k) ?_
    obtain ⟨_, _, ⟨T23, L23, k23, n23⟩, -, X23, ⟨Lc23, hQ23, l23, y23, z23⟩, st23⟩ := Jvm.LawKit.callS X22 hx (y := (⟨"com/example/catalog_access_rules/catalogaccessrules/CatalogAccessIncludesPinLaw", "pick", "(I)Lcom/example/catalog_access_rules/catalogaccessrules/CatalogAccess;"⟩ : MethodName)) hown (mvT hZ (hw _ (List.mem_of_getElem? (i := 1) rfl))) (mvT hZ (hw _ (List.mem_of_getElem? (i := 2) rfl))) (mvT hZ (hw _ (List.mem_of_getElem? (i := 3) rfl))) (mvT hZ (hw _ (List.mem_of_getElem? (i := 4) rfl))) (by decide) (backOf (W := 0) (rm_pick l Z a0 hw [] (1 : Int32) a_ALL a_READ_ONLY a_NONE h0 n0 O S_ALL S_READ_ONLY S_NONE) hZ (hw _ (List.mem_of_getElem? (i := 4) rfl)) (hw _ (List.mem_of_getElem? (i := 3) rfl)) (by decide) (by decide)) (g := (mkF m 21 #[.val (.int p1), .val (.int p2), .val (.int (2 : Int32)), .val (.int (1 : Int32)), .val (.ref a_NONE), .unset, .unset] [(.int (1 : Int32))])) rfl (by rw [hml]; rfl) (argsL := [(.int (1 : Int32))]) (rest := []) (lenOf pd_1 rfl) rfl (by show 2 * 0 + _ ≤ _; exact Nat.le_of_eq rfl) (hb hby at_21) (fun _ _ => ⟨rfl, hs22, (by decide : 0 + 0 ≤ _), (by decide : 0 + 0 ≤ _)⟩)
    dsimp only [Pt.U, Pt.locs, Pt.cells, Pt.slots] at X23 l23 y23 z23 st23 hQ23
    subst l23 y23 z23
    obtain ⟨hv23, N23, hs23⟩ := hQ23
    have hp23 : own_pick (1 : Int32) a_ALL a_READ_ONLY a_NONE = a_READ_ONLY := by simp [own_pick]
    rw [hp23] at hv23
    subst hv23
    have N23' := Fr.app N22' N23
    refine Goes.to (T' := T23) (mkF m 24 #[.val (.int p1), .val (.int p2), .val (.int (2 : Int32)), .val (.int (1 : Int32)), .val (.ref a_NONE), .unset, .unset] [(.ref a_READ_ONLY)]) (fun t k => st23 t k) ?_
    refine Goes.to (T' := T23) (mkF m 26 #[.val (.int p1), .val (.int p2), .val (.int (2 : Int32)), .val (.int (1 : Int32)), .val (.ref a_NONE), .val (.ref a_READ_ONLY), .unset] []) (fun t k => XS.astore X23.here hx rfl (hb hby at_24) rfl rfl (l' := #[.val (.int p1), .val (.int p2), .val (.int (2 : Int32)), .val (.int (1 : Int32)), .val (.ref a_NONE), .val (.ref a_READ_ONLY), .unset]) rfl k) ?_
    refine Goes.to (T' := T23) (mkF m 27 #[.val (.int p1), .val (.int p2), .val (.int (2 : Int32)), .val (.int (1 : Int32)), .val (.ref a_NONE), .val (.ref a_READ_ONLY), .unset] [(.int (2 : Int32))]) (fun t k => XS.iloadN X23.here hx rfl (hb hby at_26) rfl k) ?_
    refine Goes.to (T' := T23) (mkF m 30 #[.val (.int p1), .val (.int p2), .val (.int (2 : Int32)), .val (.int (1 : Int32)), .val (.ref a_NONE), .val (.ref a_READ_ONLY), .unset] []) (fun t k => XS.ifNo X23.here hx rfl (hb hby at_27) rfl ((if0 _ _).trans (feq ((by decide) : ¬ ((2 : Int32) = (0 : Int32)))).1) k) ?_
    refine Goes.to (T' := T23) (mkF m 31 #[.val (.int p1), .val (.int p2), .val (.int (2 : Int32)), .val (.int (1 : Int32)), .val (.ref a_NONE), .val (.ref a_READ_ONLY), .unset] [(.int (1 : Int32))]) (fun t k => XS.iloadN X23.here hx rfl (hb hby at_30) rfl k) ?_
    refine Goes.to (T' := T23) (mkF m 32 #[.val (.int p1), .val (.int p2), .val (.int (2 : Int32)), .val (.int (1 : Int32)), .val (.ref a_NONE), .val (.ref a_READ_ONLY), .unset] [(.int (2 : Int32)), (.int (1 : Int32))]) (fun t k => XS.iconst X23.here hx rfl (hb hby at_31) k) ?_
    refine Goes.to (T' := T23) (mkF m 35 #[.val (.int p1), .val (.int p2), .val (.int (2 : Int32)), .val (.int (1 : Int32)), .val (.ref a_NONE), .val (.ref a_READ_ONLY), .unset] []) (fun t k => XS.icmpNo X23.here hx rfl (hb hby at_32) rfl (feq ((by decide) : ¬ ((1 : Int32) = (2 : Int32)))).1 k) ?_
    refine Goes.to (T' := T23) (mkF m 36 #[.val (.int p1), .val (.int p2), .val (.int (2 : Int32)), .val (.int (1 : Int32)), .val (.ref a_NONE), .val (.ref a_READ_ONLY), .unset] [(.int (2 : Int32))]) (fun t k => XS.iloadN X23.here hx rfl (hb hby at_35) rfl k) ?_
    refine Goes.to (T' := T23) (mkF m 37 #[.val (.int p1), .val (.int p2), .val (.int (2 : Int32)), .val (.int (1 : Int32)), .val (.ref a_NONE), .val (.ref a_READ_ONLY), .unset] [(.int (1 : Int32)), (.int (2 : Int32))]) (fun t k => XS.iloadN X23.here hx rfl (hb hby at_36) rfl k) ?_
    refine Goes.to (T' := T23) (mkF m 44 #[.val (.int p1), .val (.int p2), .val (.int (2 : Int32)), .val (.int (1 : Int32)), .val (.ref a_NONE), .val (.ref a_READ_ONLY), .unset] []) (fun t k => XS.icmpYes X23.here hx rfl (pc0 := 37) (pc' := 44) rfl (hb hby at_37) rfl (feq ((by decide) : ¬ ((2 : Int32) = (1 : Int32)))).2 (by decide) (by decide) k) ?_
    refine Goes.to (T' := T23) (mkF m 45 #[.val (.int p1), .val (.int p2), .val (.int (2 : Int32)), .val (.int (1 : Int32)), .val (.ref a_NONE), .val (.ref a_READ_ONLY), .unset] [(.int (0 : Int32))]) (fun t k => XS.iconst X23.here hx rfl (hb hby at_44) k) ?_
    refine Goes.to (T' := T23) (mkF m 47 #[.val (.int p1), .val (.int p2), .val (.int (2 : Int32)), .val (.int (1 : Int32)), .val (.ref a_NONE), .val (.ref a_READ_ONLY), .val (.int (0 : Int32))] []) (fun t k => XS.istore X23.here hx rfl (hb hby at_45) rfl (l' := #[.val (.int p1), .val (.int p2), .val (.int (2 : Int32)), .val (.int (1 : Int32)), .val (.ref a_NONE), .val (.ref a_READ_ONLY), .val (.int (0 : Int32))]) rfl k) ?_
    refine Goes.to (T' := T23) (mkF m 49 #[.val (.int p1), .val (.int p2), .val (.int (2 : Int32)), .val (.int (1 : Int32)), .val (.ref a_NONE), .val (.ref a_READ_ONLY), .val (.int (0 : Int32))] [(.ref a_NONE)]) (fun t k => XS.aload X23.here hx rfl (hb hby at_47) rfl rfl k) ?_
    refine Goes.to (T' := T23) (mkF m 51 #[.val (.int p1), .val (.int p2), .val (.int (2 : Int32)), .val (.int (1 : Int32)), .val (.ref a_NONE), .val (.ref a_READ_ONLY), .val (.int (0 : Int32))] [(.ref a_READ_ONLY), (.ref a_NONE)]) (fun t k => XS.aload X23.here hx rfl (hb hby at_49) rfl rfl k) ?_
    obtain ⟨cq24, kq24, q24a, q24b, q24c⟩ := isOf hZ hs23 (E_NONE.ext O.2)
    obtain ⟨_, _, ⟨T24, L24, k24, n24⟩, -, X24, ⟨Lc24, hQ24, l24, y24, z24⟩, st24⟩ := X23.virtualBack hx (y := (⟨"com/example/catalog_access_rules/catalogaccessrules/CatalogAccess", "includes", "(Lcom/example/catalog_access_rules/catalogaccessrules/CatalogAccess;)Z"⟩ : MethodName)) (z := (⟨"com/example/catalog_access_rules/catalogaccessrules/CatalogAccess", "includes", "(Lcom/example/catalog_access_rules/catalogaccessrules/CatalogAccess;)Z"⟩ : MethodName)) hown (mvT hZ (hw _ (List.mem_of_getElem? (i := 8) rfl))) (mvT hZ (hw _ (List.mem_of_getElem? (i := 9) rfl))) (notFace_of_selects (args := #[]) (mvT hZ (hw _ (List.mem_of_getElem? (i := 11) rfl)))) (mvT hZ (hw _ (List.mem_of_getElem? (i := 11) rfl))) (mvT hZ (hw _ (List.mem_of_getElem? (i := 10) rfl))) (by decide) (backOf (W := 0) (rm_inc l Z a0 hw [] a_NONE a_READ_ONLY mr 2 1 h0 n0 O E_NONE E_READ_ONLY M F_NONE F_READ_ONLY) hZ (hw _ (List.mem_of_getElem? (i := 12) rfl)) (hw _ (List.mem_of_getElem? (i := 6) rfl)) (by decide) (by decide)) q24a q24c (g := (mkF m 51 #[.val (.int p1), .val (.int p2), .val (.int (2 : Int32)), .val (.int (1 : Int32)), .val (.ref a_NONE), .val (.ref a_READ_ONLY), .val (.int (0 : Int32))] [(.ref a_READ_ONLY), (.ref a_NONE)])) rfl (by rw [hml]; rfl) (Steps.refl _) (argsL := [(.ref a_READ_ONLY)]) (rest := []) (lenOf pd_2 rfl) rfl (by show 2 * 0 + _ ≤ _; exact Nat.le_of_eq rfl) (hb hby at_51) (fun _ _ => ⟨rfl, hs23, (by decide : 0 + 0 ≤ _), (by decide : 0 + 0 ≤ _)⟩)
    dsimp only [Pt.U, Pt.locs, Pt.cells, Pt.slots] at X24 l24 y24 z24 st24 hQ24
    subst l24 y24 z24
    obtain ⟨rfl, N24, hs24⟩ := hQ24
    have N24' := Fr.app N23' N24
    refine Goes.to (T' := T24) (mkF m 54 #[.val (.int p1), .val (.int p2), .val (.int (2 : Int32)), .val (.int (1 : Int32)), .val (.ref a_NONE), .val (.ref a_READ_ONLY), .val (.int (0 : Int32))] [(.int (bit (¬ (0 : Int32) < (2 : Int32) - (1 : Int32))))]) (fun t k => st24.trans k) ?_
    refine Goes.to (T' := T24) (mkF m 56 #[.val (.int p1), .val (.int p2), .val (.int (2 : Int32)), .val (.int (1 : Int32)), .val (.ref a_NONE), .val (.ref a_READ_ONLY), .val (.int (0 : Int32))] [(.int (0 : Int32)), (.int (bit (¬ (0 : Int32) < (2 : Int32) - (1 : Int32))))]) (fun t k => XS.iload X24.here hx rfl (hb hby at_54) rfl k) ?_
    refine Goes.to (T' := T24) (mkF m 59 #[.val (.int p1), .val (.int p2), .val (.int (2 : Int32)), .val (.int (1 : Int32)), .val (.ref a_NONE), .val (.ref a_READ_ONLY), .val (.int (0 : Int32))] []) (fun t k => XS.icmpNo X24.here hx rfl (hb hby at_56) rfl (teq (by decide : (bit (¬ (0 : Int32) < (2 : Int32) - (1 : Int32))) = (0 : Int32))).2 k) ?_
    refine Goes.to (T' := T24) (mkF m 60 #[.val (.int p1), .val (.int p2), .val (.int (2 : Int32)), .val (.int (1 : Int32)), .val (.ref a_NONE), .val (.ref a_READ_ONLY), .val (.int (0 : Int32))] [(.int (1 : Int32))]) (fun t k => XS.iconst X24.here hx rfl (hb hby at_59) k) ?_
    refine Goes.to (T' := T24) (mkF m 64 #[.val (.int p1), .val (.int p2), .val (.int (2 : Int32)), .val (.int (1 : Int32)), .val (.ref a_NONE), .val (.ref a_READ_ONLY), .val (.int (0 : Int32))] [(.int (1 : Int32))]) (fun t k => XS.goto X24.here hx rfl (pc0 := 60) (pc' := 64) rfl (hb hby at_60) (by decide) (by decide) k) ?_
    refine Goes.retN X24 hx Bd.notSynchronized (t := .boolean) Bd.returns (by simp) (hb hby at_64) (by decide) (by decide) ?_
    rw [hs24]
    exact ⟨rfl, N24'⟩
  · refine Goes.to (T' := s₁) (mkF m 15 #[.val (.int p1), .val (.int p2), .val (.int (2 : Int32)), .val (.int (2 : Int32)), .unset, .unset, .unset] [(.int (2 : Int32))]) (fun t k => XS.iloadN X0.here hx rfl (hb hby at_14) rfl k) ?_
    obtain ⟨_, _, ⟨T25, L25, k25, n25⟩, -, X25, ⟨Lc25, hQ25, l25, y25, z25⟩, st25⟩ := Jvm.LawKit.callS X0 hx (y := (⟨"com/example/catalog_access_rules/catalogaccessrules/CatalogAccessIncludesPinLaw", "pick", "(I)Lcom/example/catalog_access_rules/catalogaccessrules/CatalogAccess;"⟩ : MethodName)) hown (mvT hZ (hw _ (List.mem_of_getElem? (i := 1) rfl))) (mvT hZ (hw _ (List.mem_of_getElem? (i := 2) rfl))) (mvT hZ (hw _ (List.mem_of_getElem? (i := 3) rfl))) (mvT hZ (hw _ (List.mem_of_getElem? (i := 4) rfl))) (by decide) (backOf (W := 0) (rm_pick l Z a0 hw [] (2 : Int32) a_ALL a_READ_ONLY a_NONE h0 n0 O S_ALL S_READ_ONLY S_NONE) hZ (hw _ (List.mem_of_getElem? (i := 4) rfl)) (hw _ (List.mem_of_getElem? (i := 3) rfl)) (by decide) (by decide)) (g := (mkF m 15 #[.val (.int p1), .val (.int p2), .val (.int (2 : Int32)), .val (.int (2 : Int32)), .unset, .unset, .unset] [(.int (2 : Int32))])) rfl (by rw [hml]; rfl) (argsL := [(.int (2 : Int32))]) (rest := []) (lenOf pd_1 rfl) rfl (by show 2 * 0 + _ ≤ _; exact Nat.le_of_eq rfl) (hb hby at_15) (fun _ _ => ⟨rfl, e0, (by decide : 0 + 0 ≤ _), (by decide : 0 + 0 ≤ _)⟩)
    dsimp only [Pt.U, Pt.locs, Pt.cells, Pt.slots] at X25 l25 y25 z25 st25 hQ25
    subst l25 y25 z25
    obtain ⟨hv25, N25, hs25⟩ := hQ25
    have hp25 : own_pick (2 : Int32) a_ALL a_READ_ONLY a_NONE = a_NONE := by simp [own_pick]
    rw [hp25] at hv25
    subst hv25
    have N25' := Fr.app N0 N25
    refine Goes.to (T' := T25) (mkF m 18 #[.val (.int p1), .val (.int p2), .val (.int (2 : Int32)), .val (.int (2 : Int32)), .unset, .unset, .unset] [(.ref a_NONE)]) (fun t k => st25 t k) ?_
    refine Goes.to (T' := T25) (mkF m 20 #[.val (.int p1), .val (.int p2), .val (.int (2 : Int32)), .val (.int (2 : Int32)), .val (.ref a_NONE), .unset, .unset] []) (fun t k => XS.astore X25.here hx rfl (hb hby at_18) rfl rfl (l' := #[.val (.int p1), .val (.int p2), .val (.int (2 : Int32)), .val (.int (2 : Int32)), .val (.ref a_NONE), .unset, .unset]) rfl k) ?_
    refine Goes.to (T' := T25) (mkF m 21 #[.val (.int p1), .val (.int p2), .val (.int (2 : Int32)), .val (.int (2 : Int32)), .val (.ref a_NONE), .unset, .unset] [(.int (2 : Int32))]) (fun t k => XS.iloadN X25.here hx rfl (hb hby at_20) rfl k) ?_
    obtain ⟨_, _, ⟨T26, L26, k26, n26⟩, -, X26, ⟨Lc26, hQ26, l26, y26, z26⟩, st26⟩ := Jvm.LawKit.callS X25 hx (y := (⟨"com/example/catalog_access_rules/catalogaccessrules/CatalogAccessIncludesPinLaw", "pick", "(I)Lcom/example/catalog_access_rules/catalogaccessrules/CatalogAccess;"⟩ : MethodName)) hown (mvT hZ (hw _ (List.mem_of_getElem? (i := 1) rfl))) (mvT hZ (hw _ (List.mem_of_getElem? (i := 2) rfl))) (mvT hZ (hw _ (List.mem_of_getElem? (i := 3) rfl))) (mvT hZ (hw _ (List.mem_of_getElem? (i := 4) rfl))) (by decide) (backOf (W := 0) (rm_pick l Z a0 hw [] (2 : Int32) a_ALL a_READ_ONLY a_NONE h0 n0 O S_ALL S_READ_ONLY S_NONE) hZ (hw _ (List.mem_of_getElem? (i := 4) rfl)) (hw _ (List.mem_of_getElem? (i := 3) rfl)) (by decide) (by decide)) (g := (mkF m 21 #[.val (.int p1), .val (.int p2), .val (.int (2 : Int32)), .val (.int (2 : Int32)), .val (.ref a_NONE), .unset, .unset] [(.int (2 : Int32))])) rfl (by rw [hml]; rfl) (argsL := [(.int (2 : Int32))]) (rest := []) (lenOf pd_1 rfl) rfl (by show 2 * 0 + _ ≤ _; exact Nat.le_of_eq rfl) (hb hby at_21) (fun _ _ => ⟨rfl, hs25, (by decide : 0 + 0 ≤ _), (by decide : 0 + 0 ≤ _)⟩)
    dsimp only [Pt.U, Pt.locs, Pt.cells, Pt.slots] at X26 l26 y26 z26 st26 hQ26
    subst l26 y26 z26
    obtain ⟨hv26, N26, hs26⟩ := hQ26
    have hp26 : own_pick (2 : Int32) a_ALL a_READ_ONLY a_NONE = a_NONE := by simp [own_pick]
    rw [hp26] at hv26
    subst hv26
    have N26' := Fr.app N25' N26
    refine Goes.to (T' := T26) (mkF m 24 #[.val (.int p1), .val (.int p2), .val (.int (2 : Int32)), .val (.int (2 : Int32)), .val (.ref a_NONE), .unset, .unset] [(.ref a_NONE)]) (fun t k => st26 t k) ?_
    refine Goes.to (T' := T26) (mkF m 26 #[.val (.int p1), .val (.int p2), .val (.int (2 : Int32)), .val (.int (2 : Int32)), .val (.ref a_NONE), .val (.ref a_NONE), .unset] []) (fun t k => XS.astore X26.here hx rfl (hb hby at_24) rfl rfl (l' := #[.val (.int p1), .val (.int p2), .val (.int (2 : Int32)), .val (.int (2 : Int32)), .val (.ref a_NONE), .val (.ref a_NONE), .unset]) rfl k) ?_
    refine Goes.to (T' := T26) (mkF m 27 #[.val (.int p1), .val (.int p2), .val (.int (2 : Int32)), .val (.int (2 : Int32)), .val (.ref a_NONE), .val (.ref a_NONE), .unset] [(.int (2 : Int32))]) (fun t k => XS.iloadN X26.here hx rfl (hb hby at_26) rfl k) ?_
    refine Goes.to (T' := T26) (mkF m 30 #[.val (.int p1), .val (.int p2), .val (.int (2 : Int32)), .val (.int (2 : Int32)), .val (.ref a_NONE), .val (.ref a_NONE), .unset] []) (fun t k => XS.ifNo X26.here hx rfl (hb hby at_27) rfl ((if0 _ _).trans (feq ((by decide) : ¬ ((2 : Int32) = (0 : Int32)))).1) k) ?_
    refine Goes.to (T' := T26) (mkF m 31 #[.val (.int p1), .val (.int p2), .val (.int (2 : Int32)), .val (.int (2 : Int32)), .val (.ref a_NONE), .val (.ref a_NONE), .unset] [(.int (2 : Int32))]) (fun t k => XS.iloadN X26.here hx rfl (hb hby at_30) rfl k) ?_
    refine Goes.to (T' := T26) (mkF m 32 #[.val (.int p1), .val (.int p2), .val (.int (2 : Int32)), .val (.int (2 : Int32)), .val (.ref a_NONE), .val (.ref a_NONE), .unset] [(.int (2 : Int32)), (.int (2 : Int32))]) (fun t k => XS.iconst X26.here hx rfl (hb hby at_31) k) ?_
    refine Goes.to (T' := T26) (mkF m 40 #[.val (.int p1), .val (.int p2), .val (.int (2 : Int32)), .val (.int (2 : Int32)), .val (.ref a_NONE), .val (.ref a_NONE), .unset] []) (fun t k => XS.icmpYes X26.here hx rfl (pc0 := 32) (pc' := 40) rfl (hb hby at_32) rfl (teq ((by decide) : (2 : Int32) = (2 : Int32))).1 (by decide) (by decide) k) ?_
    refine Goes.to (T' := T26) (mkF m 41 #[.val (.int p1), .val (.int p2), .val (.int (2 : Int32)), .val (.int (2 : Int32)), .val (.ref a_NONE), .val (.ref a_NONE), .unset] [(.int (1 : Int32))]) (fun t k => XS.iconst X26.here hx rfl (hb hby at_40) k) ?_
    refine Goes.to (T' := T26) (mkF m 45 #[.val (.int p1), .val (.int p2), .val (.int (2 : Int32)), .val (.int (2 : Int32)), .val (.ref a_NONE), .val (.ref a_NONE), .unset] [(.int (1 : Int32))]) (fun t k => XS.goto X26.here hx rfl (pc0 := 41) (pc' := 45) rfl (hb hby at_41) (by decide) (by decide) k) ?_
    refine Goes.to (T' := T26) (mkF m 47 #[.val (.int p1), .val (.int p2), .val (.int (2 : Int32)), .val (.int (2 : Int32)), .val (.ref a_NONE), .val (.ref a_NONE), .val (.int (1 : Int32))] []) (fun t k => XS.istore X26.here hx rfl (hb hby at_45) rfl (l' := #[.val (.int p1), .val (.int p2), .val (.int (2 : Int32)), .val (.int (2 : Int32)), .val (.ref a_NONE), .val (.ref a_NONE), .val (.int (1 : Int32))]) rfl k) ?_
    refine Goes.to (T' := T26) (mkF m 49 #[.val (.int p1), .val (.int p2), .val (.int (2 : Int32)), .val (.int (2 : Int32)), .val (.ref a_NONE), .val (.ref a_NONE), .val (.int (1 : Int32))] [(.ref a_NONE)]) (fun t k => XS.aload X26.here hx rfl (hb hby at_47) rfl rfl k) ?_
    refine Goes.to (T' := T26) (mkF m 51 #[.val (.int p1), .val (.int p2), .val (.int (2 : Int32)), .val (.int (2 : Int32)), .val (.ref a_NONE), .val (.ref a_NONE), .val (.int (1 : Int32))] [(.ref a_NONE), (.ref a_NONE)]) (fun t k => XS.aload X26.here hx rfl (hb hby at_49) rfl rfl k) ?_
    obtain ⟨cq27, kq27, q27a, q27b, q27c⟩ := isOf hZ hs26 (E_NONE.ext O.2)
    obtain ⟨_, _, ⟨T27, L27, k27, n27⟩, -, X27, ⟨Lc27, hQ27, l27, y27, z27⟩, st27⟩ := X26.virtualBack hx (y := (⟨"com/example/catalog_access_rules/catalogaccessrules/CatalogAccess", "includes", "(Lcom/example/catalog_access_rules/catalogaccessrules/CatalogAccess;)Z"⟩ : MethodName)) (z := (⟨"com/example/catalog_access_rules/catalogaccessrules/CatalogAccess", "includes", "(Lcom/example/catalog_access_rules/catalogaccessrules/CatalogAccess;)Z"⟩ : MethodName)) hown (mvT hZ (hw _ (List.mem_of_getElem? (i := 8) rfl))) (mvT hZ (hw _ (List.mem_of_getElem? (i := 9) rfl))) (notFace_of_selects (args := #[]) (mvT hZ (hw _ (List.mem_of_getElem? (i := 11) rfl)))) (mvT hZ (hw _ (List.mem_of_getElem? (i := 11) rfl))) (mvT hZ (hw _ (List.mem_of_getElem? (i := 10) rfl))) (by decide) (backOf (W := 0) (rm_inc l Z a0 hw [] a_NONE a_NONE mr 2 2 h0 n0 O E_NONE E_NONE M F_NONE F_NONE) hZ (hw _ (List.mem_of_getElem? (i := 12) rfl)) (hw _ (List.mem_of_getElem? (i := 6) rfl)) (by decide) (by decide)) q27a q27c (g := (mkF m 51 #[.val (.int p1), .val (.int p2), .val (.int (2 : Int32)), .val (.int (2 : Int32)), .val (.ref a_NONE), .val (.ref a_NONE), .val (.int (1 : Int32))] [(.ref a_NONE), (.ref a_NONE)])) rfl (by rw [hml]; rfl) (Steps.refl _) (argsL := [(.ref a_NONE)]) (rest := []) (lenOf pd_2 rfl) rfl (by show 2 * 0 + _ ≤ _; exact Nat.le_of_eq rfl) (hb hby at_51) (fun _ _ => ⟨rfl, hs26, (by decide : 0 + 0 ≤ _), (by decide : 0 + 0 ≤ _)⟩)
    dsimp only [Pt.U, Pt.locs, Pt.cells, Pt.slots] at X27 l27 y27 z27 st27 hQ27
    subst l27 y27 z27
    obtain ⟨rfl, N27, hs27⟩ := hQ27
    have N27' := Fr.app N26' N27
    refine Goes.to (T' := T27) (mkF m 54 #[.val (.int p1), .val (.int p2), .val (.int (2 : Int32)), .val (.int (2 : Int32)), .val (.ref a_NONE), .val (.ref a_NONE), .val (.int (1 : Int32))] [(.int (bit (¬ (0 : Int32) < (2 : Int32) - (2 : Int32))))]) (fun t k => st27.trans k) ?_
    refine Goes.to (T' := T27) (mkF m 56 #[.val (.int p1), .val (.int p2), .val (.int (2 : Int32)), .val (.int (2 : Int32)), .val (.ref a_NONE), .val (.ref a_NONE), .val (.int (1 : Int32))] [(.int (1 : Int32)), (.int (bit (¬ (0 : Int32) < (2 : Int32) - (2 : Int32))))]) (fun t k => XS.iload X27.here hx rfl (hb hby at_54) rfl k) ?_
    refine Goes.to (T' := T27) (mkF m 59 #[.val (.int p1), .val (.int p2), .val (.int (2 : Int32)), .val (.int (2 : Int32)), .val (.ref a_NONE), .val (.ref a_NONE), .val (.int (1 : Int32))] []) (fun t k => XS.icmpNo X27.here hx rfl (hb hby at_56) rfl (teq (by decide : (bit (¬ (0 : Int32) < (2 : Int32) - (2 : Int32))) = (1 : Int32))).2 k) ?_
    refine Goes.to (T' := T27) (mkF m 60 #[.val (.int p1), .val (.int p2), .val (.int (2 : Int32)), .val (.int (2 : Int32)), .val (.ref a_NONE), .val (.ref a_NONE), .val (.int (1 : Int32))] [(.int (1 : Int32))]) (fun t k => XS.iconst X27.here hx rfl (hb hby at_59) k) ?_
    refine Goes.to (T' := T27) (mkF m 64 #[.val (.int p1), .val (.int p2), .val (.int (2 : Int32)), .val (.int (2 : Int32)), .val (.ref a_NONE), .val (.ref a_NONE), .val (.int (1 : Int32))] [(.int (1 : Int32))]) (fun t k => XS.goto X27.here hx rfl (pc0 := 60) (pc' := 64) rfl (hb hby at_60) (by decide) (by decide) k) ?_
    refine Goes.retN X27 hx Bd.notSynchronized (t := .boolean) Bd.returns (by simp) (hb hby at_64) (by decide) (by decide) ?_
    rw [hs27]
    exact ⟨rfl, N27'⟩
set_option maxRecDepth 65536 in
set_option maxHeartbeats 40000000 in
theorem comes_1 {Post : Tables → Env → Array Value → State → Outcome → State → Prop} (hpost : ∀ tb e args s v u, (limb_1_1.after args s (.returned v) u = true ∧ limb_1_2.after args s (.returned v) u = true ∧ True) → FrameEnd s (.returned v) u (Jvm.fieldLocs frame_1_writes args s ++ Jvm.arrayLocs frame_1_arrays args s ++ Jvm.staticLocs frame_1_statics s) 0 0 → Post tb e args s (.returned v) u) :
    ArmFor flags0 classFile x code maxLocals ret World_1 tables_1 room_1 Calls_1 rest_1 Pre_1 Post := by
  intro l hfl _ _ p e ha hc hk s m args below hf hA hF happ hP
  obtain ⟨hcalls, hrest, hpre⟩ := hP
  obtain ⟨-, -, -, hnamed, -, -, -, hat⟩ := (Spec.applies_iff hf).mp happ
  obtain ⟨hg, hn⟩ := and_e (Cond.before_iff.mp (show (Jvm.Cond.and given_1 narrow_1).before args s = true from hpre))
  obtain ⟨gg0, gr0⟩ := and_e hg
  obtain ⟨gg1, gr1⟩ := and_e gr0
  have gg2 := gr1
  obtain ⟨w0, w1, rfl⟩ : ∃ w0 w1 : Value, args = #[w0, w1] := by
    have hs : args.size = 2 := by simpa [Cond.value, given_1] using gg0
    obtain ⟨L⟩ := args
    match L, hs with
    | [w0, w1], _ => exact ⟨w0, w1, rfl⟩
  have hw := fun d (hd : d ∈ tables_1) => atoms_spec (ws := Jvm.Cond.code x code maxLocals ret :: tables_1) hat d (List.mem_cons_of_mem _ hd)
  have hfit : Fit s := fun {y c} hc i hi => by
    obtain ⟨ha, rfl⟩ := Array.getElem?_eq_some_iff.mp hc
    have q := List.all_eq_true.mp ((Array.all_eq_true_iff_forall_mem.mp hF) _ (Array.getElem_mem ha)) i (List.mem_range.mpr hi)
    simpa [Array.getElem?_eq_getElem hi] using q
  obtain ⟨i0, ei0⟩ := is_v gg1
  obtain rfl : w0 = (.int i0) := Option.some.inj ei0
  obtain ⟨i1, ei1⟩ := is_v gg2
  obtain rfl : w1 = (.int i1) := Option.some.inj ei1
  obtain ⟨nn0, nr0⟩ := and_e hn
  obtain ⟨nn1, nr1⟩ := and_e nr0
  obtain ⟨nn2, nr2⟩ := and_e nr1
  obtain ⟨nn3, nr3⟩ := and_e nr2
  obtain ⟨nn4, nr4⟩ := and_e nr3
  have nn5 := nr4
  obtain ⟨a_ALL, ev_ALL⟩ := exa_v nn0
  have S_ALL : Sta s s.heap "com/example/catalog_access_rules/catalogaccessrules/CatalogAccess" "ALL" "Lcom/example/catalog_access_rules/catalogaccessrules/CatalogAccess;" (.ref a_ALL) := Sta.start ev_ALL (Or.inr ⟨(hw _ (List.mem_of_getElem? (i := 6) rfl)), (hw _ (List.mem_of_getElem? (i := 7) rfl))⟩)
  have E_ALL : Exa s s.heap a_ALL "com/example/catalog_access_rules/catalogaccessrules/CatalogAccess" := Exa.start ev_ALL nn0
  obtain ⟨a_NONE, ev_NONE⟩ := exa_v nn2
  have S_NONE : Sta s s.heap "com/example/catalog_access_rules/catalogaccessrules/CatalogAccess" "NONE" "Lcom/example/catalog_access_rules/catalogaccessrules/CatalogAccess;" (.ref a_NONE) := Sta.start ev_NONE (Or.inr ⟨(hw _ (List.mem_of_getElem? (i := 6) rfl)), (hw _ (List.mem_of_getElem? (i := 29) rfl))⟩)
  have E_NONE : Exa s s.heap a_NONE "com/example/catalog_access_rules/catalogaccessrules/CatalogAccess" := Exa.start ev_NONE nn2
  obtain ⟨a_READ_ONLY, ev_READ_ONLY⟩ := exa_v nn3
  have S_READ_ONLY : Sta s s.heap "com/example/catalog_access_rules/catalogaccessrules/CatalogAccess" "READ_ONLY" "Lcom/example/catalog_access_rules/catalogaccessrules/CatalogAccess;" (.ref a_READ_ONLY) := Sta.start ev_READ_ONLY (Or.inr ⟨(hw _ (List.mem_of_getElem? (i := 6) rfl)), (hw _ (List.mem_of_getElem? (i := 31) rfl))⟩)
  have E_READ_ONLY : Exa s s.heap a_READ_ONLY "com/example/catalog_access_rules/catalogaccessrules/CatalogAccess" := Exa.start ev_READ_ONLY nn3
  have F_ordinal_ALL : Fld s s.heap a_ALL "java/lang/Enum" "ordinal" "I" (.int 0) := own_fldI ev_ALL nn1
  have F_ordinal_NONE : Fld s s.heap a_NONE "java/lang/Enum" "ordinal" "I" (.int 2) := own_fldI ev_NONE nn4
  have F_ordinal_READ_ONLY : Fld s s.heap a_READ_ONLY "java/lang/Enum" "ordinal" "I" (.int 1) := own_fldI ev_READ_ONLY nn5
  obtain ⟨⟨cM, kM, mr, hm1, hm2, hm3, -⟩, -⟩ := hcalls
  have hM : own_Mir s "com/example/catalog_access_rules/catalogaccessrules/CatalogAccess" mr := ⟨cM, kM, hm1, hm2, hm3⟩
  obtain ⟨n, o, h1, h2, h3, _, L, rfl, ⟨rfl, N⟩, hq⟩ := rm_law l s _ hw tables_1 i0 i1 a_ALL a_READ_ONLY a_NONE mr s.heap s.heap.size (Old.start s) S_ALL S_READ_ONLY S_NONE E_ALL E_READ_ONLY E_NONE F_ordinal_ALL F_ordinal_READ_ONLY F_ordinal_NONE hM p e ha hc hk s m _ below hf ((Spec.applies_iff_loose hf).mp happ).1 ⟨rfl, State.Warmed39.refl s, rfl⟩ trivial
  refine ⟨n, _, h1, h2, h3, hpost _ _ _ _ _ _ ⟨Cond.after_iff.mpr rfl, Cond.after_iff.mpr (eq_i res_at (Term.int_eval (1)) rfl), trivial⟩ ⟨hq.1, hq.2.1, (hq.2.2.sift fun y hy => Or.inr (N y hy)).mono (by decide) (by decide)⟩⟩
theorem main_1_1 : Claimed_1_1 := comes_1 fun _ _ _ _ _ _ h hF => ⟨h.1, hF⟩
theorem main_1_2 : Claimed_1_2 := comes_1 fun _ _ _ _ _ _ h hF => ⟨h.2.1, hF⟩

end Jvm.Pilot.@@N@@
namespace Jvm.Pilot.@@N@@
open Jvm Jvm.ClassFile Sem Op Lib Jvm.Free Jvm.Stand Jvm.Pilot.@@N@@.Jvm.D
/-! MADE BY PROGRAM (witnessworld.py) out of the Statement's table words and the real class files: 12 classes; the members and pool entries that the words name. The judged class is class 1, her method 2. -/
namespace start1
open Jvm.ClassFile
def u (s : String) : CpInfo := .utf8 (stringToUtf16 s)
/-- a pool by its gaps: so many unusable entries, then the entry; so many at the end -/
def gap : Nat → List CpInfo → List CpInfo
  | 0, r => r
  | n + 1, r => .unusable :: gap n r
def poolList (es : List (Nat × CpInfo)) (last : Nat) : List CpInfo := es.foldr (fun e r => gap e.1 (e.2 :: r)) (gap last [])
def pool (es : List (Nat × CpInfo)) (last : Nat) : Array CpInfo := ⟨poolList es last⟩
def fileOf (pool : Array CpInfo) (this : Nat) (attrs : Array Attribute := #[]) (ms : Array MethodInfo := #[]) (fl : Nat := 33) (sup : Nat := 0) (ifs : Array Nat := #[]) (fds : Array FieldInfo := #[]) : ClassFile where
  minorVersion := 0
  majorVersion := 65
  constantPool := pool
  accessFlags := fl
  thisClass := this
  superClass := sup
  interfaces := ifs
  fields := fds
  methods := ms
  attributes := attrs
def plain (name : String) (sup : Option ClassId) : Class where
  name := name
  kind := .ordinary
  loader := none
  accessFlags := 33
  super := sup
  interfaces := #[]
  cf := none
  fields := #[]
  methods := #[]
  instanceTypes := #[]
  staticTypes := #[]
  resolved := #[]
  callSites := []
  init := .initialized
  statics := none
  mirror := none

def pool0 : Array CpInfo := pool [(5, u "<init>"), (0, u "()V"), (1, .class_ 10), (1, u "java/lang/Object"), (0, u "getClass"), (0, u "()Ljava/lang/Class;")] 111

def k0m0 : Method := { name := "<init>", desc := "()V", sig := { parameters := [], returnType := none }, accessFlags := 1, code := none }
def k0m1 : Method := { name := "getClass", desc := "()Ljava/lang/Class;", sig := { parameters := [], returnType := some (.object "java/lang/Class") }, accessFlags := 273, code := none }
/-- java/lang/Object -/
def k0 : Class := { plain "java/lang/Object" none with
  accessFlags := 33
  interfaces := #[]
  cf := some (fileOf pool0 8 #[] #[{ accessFlags := 1, nameIndex := 5, descriptorIndex := 6, attributes := #[] }, { accessFlags := 273, nameIndex := 11, descriptorIndex := 12, attributes := #[] }] 33 0 #[] #[])
  fields := #[]
  methods := #[k0m0, k0m1]
  instanceTypes := #[]
  staticTypes := #[]
  resolved := Array.replicate 124 none
  statics := none }

def pool1 : Array CpInfo := pool [(2, .class_ 4), (1, u "java/lang/Object"), (0, u "<init>"), (0, u "()V"), (0, .fieldref 8 9), (0, .class_ 10), (0, .nameAndType 11 12), (0, u "com/example/catalog_access_rules/catalogaccessrules/CatalogAccess"), (0, u "ALL"), (0, u "Lcom/example/catalog_access_rules/catalogaccessrules/CatalogAccess;"), (0, .fieldref 8 14), (0, .nameAndType 15 12), (0, u "READ_ONLY"), (0, .fieldref 8 17), (0, .nameAndType 18 12), (0, u "NONE"), (0, .integer 2147483647), (0, .methodref 21 22), (0, .class_ 23), (0, .nameAndType 24 25), (0, u "com/example/catalog_access_rules/catalogaccessrules/CatalogAccessIncludesPinLaw"), (0, u "pick"), (0, u "(I)Lcom/example/catalog_access_rules/catalogaccessrules/CatalogAccess;"), (0, .methodref 8 27), (0, .nameAndType 28 29), (0, u "includes"), (0, u "(Lcom/example/catalog_access_rules/catalogaccessrules/CatalogAccess;)Z"), (3, u "law"), (0, u "(II)Z")] 2

def k1m0 : Method := { name := "<init>", desc := "()V", sig := { parameters := [], returnType := none }, accessFlags := 1, code := none }
def k1c1 : Code := { maxStack := 2, maxLocals := 1, code := method_2_code, exceptionTable := #[], attributes := #[] }
def k1m1 : Method := { name := "pick", desc := "(I)Lcom/example/catalog_access_rules/catalogaccessrules/CatalogAccess;", sig := { parameters := [.int], returnType := some (.object "com/example/catalog_access_rules/catalogaccessrules/CatalogAccess") }, accessFlags := 10, code := some k1c1 }
def k1c2 : Code := { maxStack := 2, maxLocals := 7, code := code, exceptionTable := #[], attributes := #[] }
def k1m2 : Method := { name := "law", desc := "(II)Z", sig := { parameters := [.int, .int], returnType := some .boolean }, accessFlags := 9, code := some k1c2 }
/-- com/example/catalog_access_rules/catalogaccessrules/CatalogAccessIncludesPinLaw -/
def k1 : Class := { plain "com/example/catalog_access_rules/catalogaccessrules/CatalogAccessIncludesPinLaw" (some 0) with
  accessFlags := 49
  interfaces := #[]
  cf := some (fileOf pool1 21 #[] #[{ accessFlags := 1, nameIndex := 5, descriptorIndex := 6, attributes := #[] }, { accessFlags := 10, nameIndex := 24, descriptorIndex := 25, attributes := #[] }, { accessFlags := 9, nameIndex := 33, descriptorIndex := 34, attributes := #[] }] 49 2 #[] #[])
  fields := #[]
  methods := #[k1m0, k1m1, k1m2]
  instanceTypes := #[]
  staticTypes := #[]
  resolved := Array.replicate 37 none
  statics := none }

def pool2 : Array CpInfo := pool [(1, .class_ 2), (0, u "java/lang/constant/Constable"), (0, .class_ 4), (0, u "java/lang/Object")] 6

/-- java/lang/constant/Constable -/
def k2 : Class := { plain "java/lang/constant/Constable" (some 0) with
  accessFlags := 1537
  interfaces := #[]
  cf := some (fileOf pool2 1 #[] #[] 1537 3 #[] #[])
  fields := #[]
  methods := #[]
  instanceTypes := #[]
  staticTypes := #[]
  resolved := Array.replicate 11 none
  statics := none }

def pool3 : Array CpInfo := pool [(1, .class_ 2), (0, u "java/lang/Comparable"), (0, .class_ 4), (0, u "java/lang/Object")] 7

/-- java/lang/Comparable -/
def k3 : Class := { plain "java/lang/Comparable" (some 0) with
  accessFlags := 1537
  interfaces := #[]
  cf := some (fileOf pool3 1 #[] #[] 1537 3 #[] #[])
  fields := #[]
  methods := #[]
  instanceTypes := #[]
  staticTypes := #[]
  resolved := Array.replicate 12 none
  statics := none }

def pool4 : Array CpInfo := pool [(1, .class_ 2), (0, u "java/io/Serializable"), (0, .class_ 4), (0, u "java/lang/Object")] 2

/-- java/io/Serializable -/
def k4 : Class := { plain "java/io/Serializable" (some 0) with
  accessFlags := 1537
  interfaces := #[]
  cf := some (fileOf pool4 1 #[] #[] 1537 3 #[] #[])
  fields := #[]
  methods := #[]
  instanceTypes := #[]
  staticTypes := #[]
  resolved := Array.replicate 7 none
  statics := none }

def pool5 : Array CpInfo := pool [(2, .class_ 4), (1, u "java/lang/Enum"), (0, u "name"), (0, u "Ljava/lang/String;"), (0, .fieldref 2 8), (0, .nameAndType 9 10), (0, u "ordinal"), (0, u "I"), (1, .class_ 14), (1, u "java/lang/Object"), (4, u "hash"), (9, .methodref 12 30), (0, .nameAndType 31 32), (0, u "getClass"), (0, u "()Ljava/lang/Class;"), (70, u "compareTo"), (0, u "(Ljava/lang/Enum;)I"), (1, .class_ 108), (1, u "java/lang/Enum$EnumDesc"), (2, .class_ 112), (0, u "java/lang/constant/Constable"), (0, .class_ 114), (0, u "java/lang/Comparable"), (0, .class_ 116), (0, u "java/io/Serializable")] 87

def k5c0 : Code := { maxStack := 2, maxLocals := 4, code := jdk_37_method_8_code, exceptionTable := #[], attributes := #[] }
def k5m0 : Method := { name := "compareTo", desc := "(Ljava/lang/Enum;)I", sig := { parameters := [(.object "java/lang/Enum")], returnType := some .int }, accessFlags := 17, code := some k5c0 }
/-- java/lang/Enum -/
def k5 : Class := { plain "java/lang/Enum" (some 0) with
  accessFlags := 1057
  interfaces := #[2, 3, 4]
  cf := some (fileOf pool5 2 #[.nestMembers #[106]] #[{ accessFlags := 17, nameIndex := 103, descriptorIndex := 104, attributes := #[] }] 1057 12 #[111, 113, 115] #[{ accessFlags := 18, nameIndex := 5, descriptorIndex := 6, attributes := #[] }, { accessFlags := 18, nameIndex := 9, descriptorIndex := 10, attributes := #[] }, { accessFlags := 2, nameIndex := 19, descriptorIndex := 10, attributes := #[] }])
  fields := #[{ name := "name", type := (.object "java/lang/String"), accessFlags := 18, slot := 0, constantValue := 0 }, { name := "ordinal", type := .int, accessFlags := 18, slot := 1, constantValue := 0 }, { name := "hash", type := .int, accessFlags := 2, slot := 2, constantValue := 0 }]
  methods := #[k5m0]
  instanceTypes := #[(.object "java/lang/String"), .int, .int]
  staticTypes := #[]
  resolved := Array.replicate 204 none
  statics := none }

def pool6 : Array CpInfo := pool [(1, .class_ 2), (0, u "com/example/catalog_access_rules/catalogaccessrules/CatalogAccess"), (2, u "ALL"), (0, u "Lcom/example/catalog_access_rules/catalogaccessrules/CatalogAccess;"), (2, u "READ_ONLY"), (2, u "NONE"), (2, u "$VALUES"), (0, u "[Lcom/example/catalog_access_rules/catalogaccessrules/CatalogAccess;"), (6, .class_ 25), (1, u "java/lang/Enum"), (8, u "name"), (0, u "Ljava/lang/String;"), (0, .methodref 1 37), (0, .nameAndType 38 39), (0, u "compareTo"), (0, u "(Ljava/lang/Enum;)I"), (25, u "includes"), (0, u "(Lcom/example/catalog_access_rules/catalogaccessrules/CatalogAccess;)Z")] 6

def k6c0 : Code := { maxStack := 2, maxLocals := 2, code := prog_3_method_5_code, exceptionTable := #[], attributes := #[] }
def k6m0 : Method := { name := "includes", desc := "(Lcom/example/catalog_access_rules/catalogaccessrules/CatalogAccess;)Z", sig := { parameters := [(.object "com/example/catalog_access_rules/catalogaccessrules/CatalogAccess")], returnType := some .boolean }, accessFlags := 0, code := some k6c0 }
/-- com/example/catalog_access_rules/catalogaccessrules/CatalogAccess -/
def k6 : Class := { plain "com/example/catalog_access_rules/catalogaccessrules/CatalogAccess" (some 5) with
  accessFlags := 16433
  interfaces := #[]
  cf := some (fileOf pool6 1 #[] #[{ accessFlags := 0, nameIndex := 65, descriptorIndex := 66, attributes := #[] }] 16433 23 #[] #[{ accessFlags := 16409, nameIndex := 5, descriptorIndex := 6, attributes := #[] }, { accessFlags := 16409, nameIndex := 9, descriptorIndex := 6, attributes := #[] }, { accessFlags := 16409, nameIndex := 12, descriptorIndex := 6, attributes := #[] }, { accessFlags := 18, nameIndex := 34, descriptorIndex := 35, attributes := #[] }, { accessFlags := 4122, nameIndex := 15, descriptorIndex := 16, attributes := #[] }])
  fields := #[{ name := "ALL", type := (.object "com/example/catalog_access_rules/catalogaccessrules/CatalogAccess"), accessFlags := 16409, slot := 0, constantValue := 0 }, { name := "READ_ONLY", type := (.object "com/example/catalog_access_rules/catalogaccessrules/CatalogAccess"), accessFlags := 16409, slot := 1, constantValue := 0 }, { name := "NONE", type := (.object "com/example/catalog_access_rules/catalogaccessrules/CatalogAccess"), accessFlags := 16409, slot := 2, constantValue := 0 }, { name := "name", type := (.object "java/lang/String"), accessFlags := 18, slot := 3, constantValue := 0 }, { name := "$VALUES", type := (.array (.object "com/example/catalog_access_rules/catalogaccessrules/CatalogAccess")), accessFlags := 4122, slot := 3, constantValue := 0 }]
  methods := #[k6m0]
  instanceTypes := #[(.object "java/lang/String"), .int, .int, (.object "java/lang/String")]
  staticTypes := #[(.object "com/example/catalog_access_rules/catalogaccessrules/CatalogAccess"), (.object "com/example/catalog_access_rules/catalogaccessrules/CatalogAccess"), (.object "com/example/catalog_access_rules/catalogaccessrules/CatalogAccess"), (.array (.object "com/example/catalog_access_rules/catalogaccessrules/CatalogAccess"))]
  resolved := Array.replicate 73 none
  mirror := some 4
  statics := some 0 }

def pool7 : Array CpInfo := pool [(1, u "java/lang/Cloneable"), (0, .class_ 1), (0, u "java/lang/Object"), (0, .class_ 3)] 3

/-- java/lang/Cloneable -/
def k7 : Class := { plain "java/lang/Cloneable" (some 0) with
  accessFlags := 1537
  interfaces := #[]
  cf := some (fileOf pool7 2 #[] #[] 1537 4 #[] #[])
  fields := #[]
  methods := #[]
  instanceTypes := #[]
  staticTypes := #[]
  resolved := Array.replicate 8 none
  statics := none }

/-- the primitive byte -/
def k8 : Class := { plain "byte" none with kind := .primitive 'B', accessFlags := 0x411 }
/-- [B -/
def k9 : Class := { plain "[B" (some 0) with kind := .array 8 .byte, interfaces := #[7, 4], accessFlags := 1041 }

/-- the primitive int -/
def k10 : Class := { plain "int" none with kind := .primitive 'I', accessFlags := 0x411 }
/-- [I -/
def k11 : Class := { plain "[I" (some 0) with kind := .array 10 .int, interfaces := #[7, 4], accessFlags := 1041 }

def heap : Heap := #[{ cls := 6, slots := #[.ref 1, .ref 2, .ref 3, .null], vm := .statics 6 },
  { cls := 6, slots := #[.null, .int 0, .int 0, .null], vm := .none },
  { cls := 6, slots := #[.null, .int 1, .int 0, .null], vm := .none },
  { cls := 6, slots := #[.null, .int 2, .int 0, .null], vm := .none },
  { cls := 0, slots := #[], vm := .mirror 6 }]
def classes : Array Class := #[k0, k1, k2, k3, k4, k5, k6, k7, k8, k9, k10, k11]
def interned : List (Array UInt16 × Addr) := []
def slotsUsed : Nat := 16
def theMethod : MethodId := ⟨1, 2⟩
def args0 : Array Value := #[.int 5, .int 7]
def aboutOver (below : List Frame) : State where
  vm := { classes := classes, interned := interned.toArray }
  heap := heap
  slotsUsed := slotsUsed
  threads := #[{ frames := .invoking theMethod args0 :: below }]
def below0 : List Frame := [.native { method := ⟨0, 0⟩, args := #[] }]
def about1 : State := aboutOver below0
def p0 : Program := .bare "" "" ""
def e0 : Env := launch0.env 0 0 0
theorem w_frames : about1.frames = Frame.invoking theMethod args0 :: below0 := rfl
set_option maxRecDepth 65536 in
theorem w_args : argsFit about1.vm theMethod args0 = true := by decide +kernel
set_option maxRecDepth 65536 in
theorem w_heap : heapFits about1 = true := by decide +kernel
set_option maxRecDepth 65536 in
theorem w_runnable : about1.curStatus? = some .runnable := by decide +kernel
set_option maxRecDepth 65536 in
theorem w_alone : about1.alone = true := by decide +kernel
set_option maxRecDepth 65536 in
theorem w_named : about1.methodNamed? x = some theMethod := by decide +kernel
set_option maxRecDepth 65536 in
theorem w_hears : about1.hears theMethod below0 = true := by decide +kernel
set_option maxRecDepth 65536 in
theorem w_ripe : about1.ripe theMethod args0 below0 = true := by decide +kernel
theorem w_running : about1.status = .running := rfl
set_option maxRecDepth 65536 in
theorem w_room : about1.hasRoom e0.platform room_1 = true :=
  launch0.hasRoom_least _ room_1 (by decide +kernel) (by decide +kernel) (by decide +kernel) (by decide +kernel) (by decide +kernel) (by decide +kernel)
theorem allAtoms_all (ts : List Jvm.Cond) (a : Array Jvm.Value) (st : Jvm.State) : (allAtoms ts).before a st = ts.all (fun c => c.before a st) := by
  induction ts with
  | nil => rfl
  | cons c t ih =>
    show (Jvm.Cond.and c (allAtoms t)).before a st = _
    rw [Jvm.Cond.before_and, ih, List.all_cons]
def words1 : List Jvm.Cond := Jvm.Cond.code x code maxLocals ret :: tables_1
/-- a 'code' word, met by the world's own term for the bytes: nothing is compared byte by byte -/
theorem code_word {y : MethodName} {bytes : ByteArray} {mx : Nat} {rt : Option FieldType} {a : Array Value} {s : State} {m : MethodId} {meth : Method} {c : Code} (h1 : s.methodNamed? y = some m) (h2 : s.vm.method? m = some meth) (h3 : meth.code = some c) (h4 : c.code = bytes)
    (h5 : (c.maxLocals == mx && c.exceptionTable.isEmpty && decide (c.maxStack ≤ mostOperands) && decide (meth.sig.returnType = rt) && !meth.locks && decide (parseMethodDescriptor y.desc = some meth.sig)) = true) : (Jvm.Cond.code y bytes mx rt).before a s = true := by
  simp only [Bool.and_eq_true, beq_iff_eq, Bool.not_eq_true', decide_eq_true_eq] at h5
  obtain ⟨⟨⟨⟨⟨g1, g2⟩, g3⟩, g4⟩, g5⟩, g6⟩ := h5
  simp [Cond.before, Cond.holds, Cond.value, h1, h2, h3, h4, g1, g2, g3, g4, g5, g6]
def isCode : Jvm.Cond → Bool
  | .code _ _ _ _ => true
  | _ => false
theorem all_split {L : List Jvm.Cond} {P : Jvm.Cond → Bool} (h1 : L.all (fun c => isCode c || P c) = true) (h2 : ∀ c ∈ L.filter isCode, P c = true) : L.all P = true := by
  refine List.all_eq_true.mpr fun c hc => ?_
  have h := List.all_eq_true.mp h1 c hc
  rcases Bool.eq_false_or_eq_true (isCode c) with hi | hi
  · exact h2 c (List.mem_filter.mpr ⟨hc, hi⟩)
  · simpa [hi] using h
set_option maxRecDepth 65536 in
theorem w_c0 : (Jvm.Cond.code x code maxLocals ret).before args0 about1 = true := code_word (m := ⟨1, 2⟩) (meth := k1m2) (c := k1c2) (by decide +kernel) rfl rfl rfl (by decide +kernel)
set_option maxRecDepth 65536 in
theorem w_c1 : (Jvm.Cond.code ({ cls := "com/example/catalog_access_rules/catalogaccessrules/CatalogAccessIncludesPinLaw", name := "pick", desc := "(I)Lcom/example/catalog_access_rules/catalogaccessrules/CatalogAccess;" } : Jvm.MethodName) method_2_code (1 : Nat) (Option.some (Jvm.ClassFile.FieldType.object "com/example/catalog_access_rules/catalogaccessrules/CatalogAccess"))).before args0 about1 = true := code_word (m := ⟨1, 1⟩) (meth := k1m1) (c := k1c1) (by decide +kernel) rfl rfl rfl (by decide +kernel)
set_option maxRecDepth 65536 in
theorem w_c2 : (Jvm.Cond.code ({ cls := "com/example/catalog_access_rules/catalogaccessrules/CatalogAccess", name := "includes", desc := "(Lcom/example/catalog_access_rules/catalogaccessrules/CatalogAccess;)Z" } : Jvm.MethodName) prog_3_method_5_code (2 : Nat) (Option.some Jvm.ClassFile.FieldType.boolean)).before args0 about1 = true := code_word (m := ⟨6, 0⟩) (meth := k6m0) (c := k6c0) (by decide +kernel) rfl rfl rfl (by decide +kernel)
set_option maxRecDepth 65536 in
theorem w_c3 : (Jvm.Cond.code ({ cls := "java/lang/Enum", name := "compareTo", desc := "(Ljava/lang/Enum;)I" } : Jvm.MethodName) jdk_37_method_8_code (4 : Nat) (Option.some Jvm.ClassFile.FieldType.int)).before args0 about1 = true := code_word (m := ⟨5, 0⟩) (meth := k5m0) (c := k5c0) (by decide +kernel) rfl rfl rfl (by decide +kernel)
def codes1 : List Jvm.Cond := [Jvm.Cond.code x code maxLocals ret, Jvm.Cond.code ({ cls := "com/example/catalog_access_rules/catalogaccessrules/CatalogAccessIncludesPinLaw", name := "pick", desc := "(I)Lcom/example/catalog_access_rules/catalogaccessrules/CatalogAccess;" } : Jvm.MethodName) method_2_code (1 : Nat) (Option.some (Jvm.ClassFile.FieldType.object "com/example/catalog_access_rules/catalogaccessrules/CatalogAccess")), Jvm.Cond.code ({ cls := "com/example/catalog_access_rules/catalogaccessrules/CatalogAccess", name := "includes", desc := "(Lcom/example/catalog_access_rules/catalogaccessrules/CatalogAccess;)Z" } : Jvm.MethodName) prog_3_method_5_code (2 : Nat) (Option.some Jvm.ClassFile.FieldType.boolean), Jvm.Cond.code ({ cls := "java/lang/Enum", name := "compareTo", desc := "(Ljava/lang/Enum;)I" } : Jvm.MethodName) jdk_37_method_8_code (4 : Nat) (Option.some Jvm.ClassFile.FieldType.int)]
set_option maxRecDepth 65536 in
theorem codes_eq : words1.filter isCode = codes1 := rfl
theorem w_codes : ∀ c ∈ words1.filter isCode, c.before args0 about1 = true := by
  rw [codes_eq]
  intro c hc
  simp only [codes1, List.mem_cons, List.not_mem_nil, or_false] at hc
  rcases hc with rfl | rfl | rfl | rfl
  · exact w_c0
  · exact w_c1
  · exact w_c2
  · exact w_c3
set_option maxRecDepth 65536 in
theorem w_t1 : (words1.take 24).all (fun c => isCode c || c.before args0 about1) = true := by decide +kernel
set_option maxRecDepth 65536 in
theorem w_t2 : (words1.drop 24).all (fun c => isCode c || c.before args0 about1) = true := by decide +kernel
theorem w_tables : (allAtoms (Jvm.Cond.code x code maxLocals ret :: tables_1)).before args0 about1 = true := by
  rw [allAtoms_all]
  show words1.all (fun c => c.before args0 about1) = true
  refine all_split ?_ w_codes
  rw [← List.take_append_drop 24 words1, List.all_append, w_t1, w_t2]
  rfl
set_option maxRecDepth 65536 in
theorem w_case : (Jvm.Cond.and given_1 narrow_1).before args0 about1 = true := by decide +kernel
theorem w_applies : (headSpec (Jvm.Cond.code x code maxLocals ret :: tables_1) room_1).applies x e0.platform about1 = true :=
  (Spec.applies_iff w_frames).mpr ⟨w_running, w_runnable, w_alone, w_named, w_hears, w_ripe, w_room, w_tables⟩
theorem atStart : AtStart classFile x code maxLocals ret World_1 tables_1 room_1 Calls_1 rest_1 Pre_1 launch0 p0 e0 about1 theMethod args0 below0 :=
  ⟨lists_1, trivial, launch0.admits_env _ _ _, launch0.least_env, fairChoices_fair.cas, fairChoices_fair.clock, w_frames, w_args, w_heap, w_applies, ⟨⟨6, k6, 4, by decide +kernel, rfl, rfl, _, rfl, rfl⟩, trivial⟩, trivial, w_case⟩
end start1
theorem witness_1 : WitnessClaimed_1 := ⟨start1.p0, start1.e0, start1.about1, start1.theMethod, start1.args0, start1.below0, start1.atStart⟩
end Jvm.Pilot.@@N@@
