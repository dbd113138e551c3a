import JvmDerived
import JvmDerived.Pilot.@@N@@Statement
import JvmDerived.Pilot.@@N@@Code
set_option linter.unusedVariables false
set_option linter.unusedSimpArgs false
namespace Jvm.RoadKit
open Sem ClassFile Op Lib Jvm.Stand Jvm.Free Jvm.LawKit
section New
variable {p : Program} {l : Launch} {e : Env} {R : Room} {s : State} {m : MethodId} {args : Array Value} {below : List Frame} {meth : Method} {c : Code} {T : State} {locs : List Loc} {cells slots : Nat}
theorem retI (X : Stand p l e R s m args below meth c T locs cells slots) (hx : p.tables.exec = Jvm.exec) {pc : Nat} {Ls : Array Slot} {z : Int32} {rest : List Value} (hret : meth.sig.returnType = some .int) (hd : decode c.code pc = .ok (.ireturn, 1)) {fs : List Frame}
    (hl : ∀ (f : JFrame) (acts : List Action), f.method = m → f.locked = none → f.entered = [] → (doReturn e (T.setTop f) acts (some (.int z))).1 = T.setFrames fs) : Steps p.tables e below (T.setTop (mkF m pc Ls (.int z :: rest))) (T.setFrames fs) := by
  have hm' : T.vm.method? m = some meth := X.method'
  have hn : narrow .int (.int z) = .int z := rfl
  show Steps p.tables e below (T.setTop { method := m, pc := pc, locals := Ls, stack := _ :: rest, locked := none }) _
  jvm_step X.here [X.here.top, hx, hd, hm', hret, hn]
  first | (intro acts; rw [hl _ acts rfl rfl rfl]) | rw [hl _ _ rfl rfl rfl]
  exact Steps.refl _
theorem own_retJ (X : Stand p l e R s m args below meth c T locs cells slots) (hx : p.tables.exec = Jvm.exec) {pc : Nat} {Ls : Array Slot} {z : Int64} {rest : List Value} (hret : meth.sig.returnType = some .long) (hd : decode c.code pc = .ok (.lreturn, 1)) {fs : List Frame}
    (hl : ∀ (f : JFrame) (acts : List Action), f.method = m → f.locked = none → f.entered = [] → (doReturn e (T.setTop f) acts (some (.long z))).1 = T.setFrames fs) : Steps p.tables e below (T.setTop (mkF m pc Ls (.long z :: rest))) (T.setFrames fs) := by
  have hm' : T.vm.method? m = some meth := X.method'
  show Steps p.tables e below (T.setTop { method := m, pc := pc, locals := Ls, stack := _ :: rest, locked := none }) _
  jvm_step X.here [X.here.top, hx, hd, hm', hret, narrow]
  first | (intro acts; rw [hl _ acts rfl rfl rfl]) | rw [hl _ _ rfl rfl rfl]
  exact Steps.refl _
theorem own_retD (X : Stand p l e R s m args below meth c T locs cells slots) (hx : p.tables.exec = Jvm.exec) {pc : Nat} {Ls : Array Slot} {z : UInt64} {rest : List Value} (hret : meth.sig.returnType = some .double) (hd : decode c.code pc = .ok (.dreturn, 1)) {fs : List Frame}
    (hl : ∀ (f : JFrame) (acts : List Action), f.method = m → f.locked = none → f.entered = [] → (doReturn e (T.setTop f) acts (some (.double z))).1 = T.setFrames fs) : Steps p.tables e below (T.setTop (mkF m pc Ls (.double z :: rest))) (T.setFrames fs) := by
  have hm' : T.vm.method? m = some meth := X.method'
  show Steps p.tables e below (T.setTop { method := m, pc := pc, locals := Ls, stack := _ :: rest, locked := none }) _
  jvm_step X.here [X.here.top, hx, hd, hm', hret, narrow]
  first | (intro acts; rw [hl _ acts rfl rfl rfl]) | rw [hl _ _ rfl rfl rfl]
  exact Steps.refl _
/-- from T, with the frame g on top, the run comes to an end of the kind that Q tells; Fe: the frame of that end -/
def Goes (p : Program) (e : Env) (below : List Frame) (s : State) (Fe : State → Outcome → State → List Loc → Nat → Nat → Prop) (kc ks : Nat) (Q : Option Value → Heap → List Loc → Prop) (T : State) (g : JFrame) : Prop :=
  ∃ s₂ o, Steps p.tables e below (T.setTop g) s₂ ∧ s₂.status = .running ∧ Ended s₂ below o ∧ ∃ v L, o = .returned v ∧ Q v s₂.heap L ∧ Fe s o s₂ L kc ks
/-- a wide end that keeps the invariant of the held constants -/
def HeldEnd (Z : State) (EL : List (String × Nat)) (s : State) (o : Outcome) (t : State) (L : List Loc) (k n : Nat) : Prop := CHr Z EL s.vm s.heap t.vm t.heap ∧ ReturnedEndW s o t L k n
variable {kc ks : Nat} {Q : Option Value → Heap → List Loc → Prop} {T' : State} {Fe : State → Outcome → State → List Loc → Nat → Nat → Prop}
theorem Goes.go {g g' : JFrame} (h : ∀ t, Steps p.tables e below (T'.setTop g') t → Steps p.tables e below (T.setTop g) t) (k : Goes p e below s Fe kc ks Q T' g') : Goes p e below s Fe kc ks Q T g := by
  obtain ⟨s₂, o, h1, h2⟩ := k
  exact ⟨s₂, o, h _ h1, h2⟩
theorem Goes.to {g : JFrame} (g' : JFrame) (h : ∀ t, Steps p.tables e below (T'.setTop g') t → Steps p.tables e below (T.setTop g) t) (k : Goes p e below s Fe kc ks Q T' g') : Goes p e below s Fe kc ks Q T g := k.go h
theorem Goes.cast {g g' : JFrame} (q : g = g') (k : Goes p e below s Fe kc ks Q T g') : Goes p e below s Fe kc ks Q T g := q ▸ k
theorem Goes.retN (X : Stand p l e R s m args below meth c T locs cells slots) (hx : p.tables.exec = Jvm.exec) (hlk : meth.locks = false) {pc : Nat} {Ls : Array Slot} {z : Int32} {t : FieldType} {rest : List Value} (hret : meth.sig.returnType = some t) (ht : t = .boolean ∨ t = .byte ∨ t = .char ∨ t = .short) (hd : decode c.code pc = .ok (.ireturn, 1)) (hc : cells ≤ kc) (hs : slots ≤ ks) (hQ : Q (some (.int (nar t z))) T.heap locs) : Goes p e below s FrameEnd kc ks Q T (mkF m pc Ls (.int z :: rest)) := by
  obtain ⟨fs, hr, hrun, hended, hW, hsame⟩ := X.leave (v := some (.int (nar t z))) (fun h => by rw [hret] at h; cases h) hlk
  exact ⟨_, _, RoadKit.retN X hx hret ht hd hr, hrun, hended, _, _, rfl, hQ, ⟨_, rfl⟩, hW, hsame.mono hc hs⟩
theorem Goes.retNW {vm1 : Vm} {k0 : Nat} (X : Stand p l e R (s.setVm vm1) m args below meth c T locs cells slots) (hx : p.tables.exec = Jvm.exec) (hlk : meth.locks = false) (hS : s.Since vm1 k0) (hk : k0 ≤ T.heap.size) {pc : Nat} {Ls : Array Slot} {z : Int32} {t : FieldType} {rest : List Value} (hret : meth.sig.returnType = some t) (ht : t = .boolean ∨ t = .byte ∨ t = .char ∨ t = .short) (hd : decode c.code pc = .ok (.ireturn, 1)) (hc : cells ≤ kc) (hs : slots ≤ ks) (hQ : Q (some (.int (nar t z))) T.heap locs) : Goes p e below s ReturnedEndW kc ks Q T (mkF m pc Ls (.int z :: rest)) := by
  obtain ⟨fs, hr, hrun, hended, h1, h2, h3, hsame⟩ := X.leaveW hS hk (v := some (.int (nar t z))) (fun h => by rw [hret] at h; cases h) hlk
  exact ⟨_, _, RoadKit.retN X hx hret ht hd hr, hrun, hended, _, _, rfl, hQ, h1, h2, h3, hsame.mono hc hs⟩
theorem Goes.retI (X : Stand p l e R s m args below meth c T locs cells slots) (hx : p.tables.exec = Jvm.exec) (hlk : meth.locks = false) {pc : Nat} {Ls : Array Slot} {z : Int32} {rest : List Value} (hret : meth.sig.returnType = some .int) (hd : decode c.code pc = .ok (.ireturn, 1)) (hc : cells ≤ kc) (hs : slots ≤ ks) (hQ : Q (some (.int z)) T.heap locs) : Goes p e below s FrameEnd kc ks Q T (mkF m pc Ls (.int z :: rest)) := by
  obtain ⟨fs, hr, hrun, hended, hW, hsame⟩ := X.leave (v := some (.int z)) (fun h => by rw [hret] at h; cases h) hlk
  exact ⟨_, _, RoadKit.retI X hx hret hd hr, hrun, hended, _, _, rfl, hQ, ⟨_, rfl⟩, hW, hsame.mono hc hs⟩
theorem Goes.retIW {vm1 : Vm} {k0 : Nat} (X : Stand p l e R (s.setVm vm1) m args below meth c T locs cells slots) (hx : p.tables.exec = Jvm.exec) (hlk : meth.locks = false) (hS : s.Since vm1 k0) (hk : k0 ≤ T.heap.size) {pc : Nat} {Ls : Array Slot} {z : Int32} {rest : List Value} (hret : meth.sig.returnType = some .int) (hd : decode c.code pc = .ok (.ireturn, 1)) (hc : cells ≤ kc) (hs : slots ≤ ks) (hQ : Q (some (.int z)) T.heap locs) : Goes p e below s ReturnedEndW kc ks Q T (mkF m pc Ls (.int z :: rest)) := by
  obtain ⟨fs, hr, hrun, hended, h1, h2, h3, hsame⟩ := X.leaveW hS hk (v := some (.int z)) (fun h => by rw [hret] at h; cases h) hlk
  exact ⟨_, _, RoadKit.retI X hx hret hd hr, hrun, hended, _, _, rfl, hQ, h1, h2, h3, hsame.mono hc hs⟩
theorem Goes.retJ (X : Stand p l e R s m args below meth c T locs cells slots) (hx : p.tables.exec = Jvm.exec) (hlk : meth.locks = false) {pc : Nat} {Ls : Array Slot} {z : Int64} {rest : List Value} (hret : meth.sig.returnType = some .long) (hd : decode c.code pc = .ok (.lreturn, 1)) (hc : cells ≤ kc) (hs : slots ≤ ks) (hQ : Q (some (.long z)) T.heap locs) : Goes p e below s FrameEnd kc ks Q T (mkF m pc Ls (.long z :: rest)) := by
  obtain ⟨fs, hr, hrun, hended, hW, hsame⟩ := X.leave (v := some (.long z)) (fun h => by rw [hret] at h; cases h) hlk
  exact ⟨_, _, own_retJ X hx hret hd hr, hrun, hended, _, _, rfl, hQ, ⟨_, rfl⟩, hW, hsame.mono hc hs⟩
theorem Goes.retJW {vm1 : Vm} {k0 : Nat} (X : Stand p l e R (s.setVm vm1) m args below meth c T locs cells slots) (hx : p.tables.exec = Jvm.exec) (hlk : meth.locks = false) (hS : s.Since vm1 k0) (hk : k0 ≤ T.heap.size) {pc : Nat} {Ls : Array Slot} {z : Int64} {rest : List Value} (hret : meth.sig.returnType = some .long) (hd : decode c.code pc = .ok (.lreturn, 1)) (hc : cells ≤ kc) (hs : slots ≤ ks) (hQ : Q (some (.long z)) T.heap locs) : Goes p e below s ReturnedEndW kc ks Q T (mkF m pc Ls (.long z :: rest)) := by
  obtain ⟨fs, hr, hrun, hended, h1, h2, h3, hsame⟩ := X.leaveW hS hk (v := some (.long z)) (fun h => by rw [hret] at h; cases h) hlk
  exact ⟨_, _, own_retJ X hx hret hd hr, hrun, hended, _, _, rfl, hQ, h1, h2, h3, hsame.mono hc hs⟩
theorem Goes.retD (X : Stand p l e R s m args below meth c T locs cells slots) (hx : p.tables.exec = Jvm.exec) (hlk : meth.locks = false) {pc : Nat} {Ls : Array Slot} {z : UInt64} {rest : List Value} (hret : meth.sig.returnType = some .double) (hd : decode c.code pc = .ok (.dreturn, 1)) (hc : cells ≤ kc) (hs : slots ≤ ks) (hQ : Q (some (.double z)) T.heap locs) : Goes p e below s FrameEnd kc ks Q T (mkF m pc Ls (.double z :: rest)) := by
  obtain ⟨fs, hr, hrun, hended, hW, hsame⟩ := X.leave (v := some (.double z)) (fun h => by rw [hret] at h; cases h) hlk
  exact ⟨_, _, own_retD X hx hret hd hr, hrun, hended, _, _, rfl, hQ, ⟨_, rfl⟩, hW, hsame.mono hc hs⟩
theorem Goes.retDW {vm1 : Vm} {k0 : Nat} (X : Stand p l e R (s.setVm vm1) m args below meth c T locs cells slots) (hx : p.tables.exec = Jvm.exec) (hlk : meth.locks = false) (hS : s.Since vm1 k0) (hk : k0 ≤ T.heap.size) {pc : Nat} {Ls : Array Slot} {z : UInt64} {rest : List Value} (hret : meth.sig.returnType = some .double) (hd : decode c.code pc = .ok (.dreturn, 1)) (hc : cells ≤ kc) (hs : slots ≤ ks) (hQ : Q (some (.double z)) T.heap locs) : Goes p e below s ReturnedEndW kc ks Q T (mkF m pc Ls (.double z :: rest)) := by
  obtain ⟨fs, hr, hrun, hended, h1, h2, h3, hsame⟩ := X.leaveW hS hk (v := some (.double z)) (fun h => by rw [hret] at h; cases h) hlk
  exact ⟨_, _, own_retD X hx hret hd hr, hrun, hended, _, _, rfl, hQ, h1, h2, h3, hsame.mono hc hs⟩
theorem Goes.retA (X : Stand p l e R s m args below meth c T locs cells slots) (hx : p.tables.exec = Jvm.exec) (hlk : meth.locks = false) {pc : Nat} {Ls : Array Slot} {w : Value} {t : FieldType} (hw : w.isRef = true) (hret : meth.sig.returnType = some t) (ht : t.isReference = true) (hd : decode c.code pc = .ok (.areturn, 1)) (hc : cells ≤ kc) (hs : slots ≤ ks) (hQ : Q (some w) T.heap locs) : Goes p e below s FrameEnd kc ks Q T (mkF m pc Ls [w]) := by
  obtain ⟨fs, hr, hrun, hended, hW, hsame⟩ := X.leave (v := some w) (fun h => by rw [hret] at h; cases h) hlk
  exact ⟨_, _, X.areturnOut hx hw hret ht hd hr, hrun, hended, _, _, rfl, hQ, ⟨_, rfl⟩, hW, hsame.mono hc hs⟩
theorem Goes.retAW {vm1 : Vm} {k0 : Nat} (X : Stand p l e R (s.setVm vm1) m args below meth c T locs cells slots) (hx : p.tables.exec = Jvm.exec) (hlk : meth.locks = false) (hS : s.Since vm1 k0) (hk : k0 ≤ T.heap.size) {pc : Nat} {Ls : Array Slot} {w : Value} {t : FieldType} (hw : w.isRef = true) (hret : meth.sig.returnType = some t) (ht : t.isReference = true) (hd : decode c.code pc = .ok (.areturn, 1)) (hc : cells ≤ kc) (hs : slots ≤ ks) (hQ : Q (some w) T.heap locs) : Goes p e below s ReturnedEndW kc ks Q T (mkF m pc Ls [w]) := by
  obtain ⟨fs, hr, hrun, hended, h1, h2, h3, hsame⟩ := X.leaveW hS hk (v := some w) (fun h => by rw [hret] at h; cases h) hlk
  exact ⟨_, _, X.areturnOut hx hw hret ht hd hr, hrun, hended, _, _, rfl, hQ, h1, h2, h3, hsame.mono hc hs⟩
theorem Goes.retV (X : Stand p l e R s m args below meth c T locs cells slots) (hx : p.tables.exec = Jvm.exec) (hlk : meth.locks = false) {pc : Nat} {Ls : Array Slot} (hret : meth.sig.returnType = none) (hd : decode c.code pc = .ok (.return_, 1)) (hc : cells ≤ kc) (hs : slots ≤ ks) (hQ : Q (none) T.heap locs) : Goes p e below s FrameEnd kc ks Q T (mkF m pc Ls []) := by
  obtain ⟨fs, hr, hrun, hended, hW, hsame⟩ := X.leave (v := none) (fun _ => rfl) hlk
  exact ⟨_, _, X.returnOut hx hret hd hr, hrun, hended, _, _, rfl, hQ, ⟨_, rfl⟩, hW, hsame.mono hc hs⟩
theorem Goes.retVW {vm1 : Vm} {k0 : Nat} (X : Stand p l e R (s.setVm vm1) m args below meth c T locs cells slots) (hx : p.tables.exec = Jvm.exec) (hlk : meth.locks = false) (hS : s.Since vm1 k0) (hk : k0 ≤ T.heap.size) {pc : Nat} {Ls : Array Slot} (hret : meth.sig.returnType = none) (hd : decode c.code pc = .ok (.return_, 1)) (hc : cells ≤ kc) (hs : slots ≤ ks) (hQ : Q (none) T.heap locs) : Goes p e below s ReturnedEndW kc ks Q T (mkF m pc Ls []) := by
  obtain ⟨fs, hr, hrun, hended, h1, h2, h3, hsame⟩ := X.leaveW hS hk (v := none) (fun _ => rfl) hlk
  exact ⟨_, _, X.returnOut hx hret hd hr, hrun, hended, _, _, rfl, hQ, h1, h2, h3, hsame.mono hc hs⟩
theorem Goes.retNH {vm1 : Vm} {k0 : Nat} {Z : State} {a0 : Array Value} {EL : List (String × Nat)} (X : Stand p l e R (s.setVm vm1) m args below meth c T locs cells slots) (hx : p.tables.exec = Jvm.exec) (hlk : meth.locks = false) (hS : s.Since vm1 k0) (hk : k0 ≤ T.heap.size) (hZ : Z.Warmed39 vm1) (hEL : EW Z a0 EL) (C : CHr Z EL s.vm s.heap vm1 T.heap) {pc : Nat} {Ls : Array Slot} {z : Int32} {t : FieldType} {rest : List Value} (hret : meth.sig.returnType = some t) (ht : t = .boolean ∨ t = .byte ∨ t = .char ∨ t = .short) (hd : decode c.code pc = .ok (.ireturn, 1)) (hc : cells ≤ kc) (hs : slots ≤ ks) (hQ : Q (some (.int (nar t z))) T.heap locs) : Goes p e below s (HeldEnd Z EL) kc ks Q T (mkF m pc Ls (.int z :: rest)) := by
  obtain ⟨fs, hr, hrun, hended, h1, h2, h3, hsame⟩ := X.leaveW hS hk (v := some (.int (nar t z))) (fun h => by rw [hret] at h; cases h) hlk
  exact ⟨_, _, RoadKit.retN X hx hret ht hd hr, hrun, hended, _, _, rfl, hQ, C.trans (CHv.at (T := T) X hZ hEL C.1), h1, h2, h3, hsame.mono hc hs⟩
theorem Goes.retIH {vm1 : Vm} {k0 : Nat} {Z : State} {a0 : Array Value} {EL : List (String × Nat)} (X : Stand p l e R (s.setVm vm1) m args below meth c T locs cells slots) (hx : p.tables.exec = Jvm.exec) (hlk : meth.locks = false) (hS : s.Since vm1 k0) (hk : k0 ≤ T.heap.size) (hZ : Z.Warmed39 vm1) (hEL : EW Z a0 EL) (C : CHr Z EL s.vm s.heap vm1 T.heap) {pc : Nat} {Ls : Array Slot} {z : Int32} {rest : List Value} (hret : meth.sig.returnType = some .int) (hd : decode c.code pc = .ok (.ireturn, 1)) (hc : cells ≤ kc) (hs : slots ≤ ks) (hQ : Q (some (.int z)) T.heap locs) : Goes p e below s (HeldEnd Z EL) kc ks Q T (mkF m pc Ls (.int z :: rest)) := by
  obtain ⟨fs, hr, hrun, hended, h1, h2, h3, hsame⟩ := X.leaveW hS hk (v := some (.int z)) (fun h => by rw [hret] at h; cases h) hlk
  exact ⟨_, _, RoadKit.retI X hx hret hd hr, hrun, hended, _, _, rfl, hQ, C.trans (CHv.at (T := T) X hZ hEL C.1), h1, h2, h3, hsame.mono hc hs⟩
theorem Goes.retAH {vm1 : Vm} {k0 : Nat} {Z : State} {a0 : Array Value} {EL : List (String × Nat)} (X : Stand p l e R (s.setVm vm1) m args below meth c T locs cells slots) (hx : p.tables.exec = Jvm.exec) (hlk : meth.locks = false) (hS : s.Since vm1 k0) (hk : k0 ≤ T.heap.size) (hZ : Z.Warmed39 vm1) (hEL : EW Z a0 EL) (C : CHr Z EL s.vm s.heap vm1 T.heap) {pc : Nat} {Ls : Array Slot} {w : Value} {t : FieldType} (hw : w.isRef = true) (hret : meth.sig.returnType = some t) (ht : t.isReference = true) (hd : decode c.code pc = .ok (.areturn, 1)) (hc : cells ≤ kc) (hs : slots ≤ ks) (hQ : Q (some w) T.heap locs) : Goes p e below s (HeldEnd Z EL) kc ks Q T (mkF m pc Ls [w]) := by
  obtain ⟨fs, hr, hrun, hended, h1, h2, h3, hsame⟩ := X.leaveW hS hk (v := some w) (fun h => by rw [hret] at h; cases h) hlk
  exact ⟨_, _, X.areturnOut hx hw hret ht hd hr, hrun, hended, _, _, rfl, hQ, C.trans (CHv.at (T := T) X hZ hEL C.1), h1, h2, h3, hsame.mono hc hs⟩
theorem Goes.retVH {vm1 : Vm} {k0 : Nat} {Z : State} {a0 : Array Value} {EL : List (String × Nat)} (X : Stand p l e R (s.setVm vm1) m args below meth c T locs cells slots) (hx : p.tables.exec = Jvm.exec) (hlk : meth.locks = false) (hS : s.Since vm1 k0) (hk : k0 ≤ T.heap.size) (hZ : Z.Warmed39 vm1) (hEL : EW Z a0 EL) (C : CHr Z EL s.vm s.heap vm1 T.heap) {pc : Nat} {Ls : Array Slot} (hret : meth.sig.returnType = none) (hd : decode c.code pc = .ok (.return_, 1)) (hc : cells ≤ kc) (hs : slots ≤ ks) (hQ : Q (none) T.heap locs) : Goes p e below s (HeldEnd Z EL) kc ks Q T (mkF m pc Ls []) := by
  obtain ⟨fs, hr, hrun, hended, h1, h2, h3, hsame⟩ := X.leaveW hS hk (v := none) (fun _ => rfl) hlk
  exact ⟨_, _, X.returnOut hx hret hd hr, hrun, hended, _, _, rfl, hQ, C.trans (CHv.at (T := T) X hZ hEL C.1), h1, h2, h3, hsame.mono hc hs⟩
end New
/-- a boolean as the machine holds it -/
def bit (P : Prop) [Decidable P] : Int32 := if P then 1 else 0
theorem bit_t {P : Prop} [Decidable P] (h : P) : bit P = 1 := if_pos h
theorem bit_f {P : Prop} [Decidable P] (h : ¬ P) : bit P = 0 := if_neg h
theorem nar_bit (P : Prop) [Decidable P] : nar .boolean (bit P) = bit P := by unfold bit; split <;> rfl
theorem bit_ne {P : Prop} [Decidable P] : ¬ bit P = 0 ↔ P := by unfold bit; split <;> simp_all
theorem bit_eq {P R : Prop} [Decidable P] [Decidable R] : bit P = bit R ↔ (P ↔ R) := by unfold bit; split <;> split <;> simp_all
theorem own_selPriv {Z s : State} {a0 args : Array Value} {y : MethodName} {n : Nat} (hZ : Z.Warmed39 s.vm) (wi : (Cond.instantiable y.cls n).before a0 Z = true) (wp : (Cond.privateMethod y).before a0 Z = true) (wm : (Cond.instanceMethod y).before a0 Z = true) (hy : y.cls ≠ "java/lang/invoke/MethodHandle" ∧ y.cls ≠ "java/lang/invoke/VarHandle") : (Cond.selects y.cls y y).before args s = true := by
  obtain ⟨c, k, h1, h2, h3, h4, -⟩ := Cond.instantiable_spec (mv hZ wi : (Cond.instantiable y.cls n).before args s = true)
  exact selects_self_of_private h1 h2 (Bool.or_eq_false_iff.mp h4).1 (Cond.privateMethod_at (mvP hZ wp (args := args))) (mv hZ wm) hy
theorem own_fldI {s : State} {args : Array Value} {t : Term} {a : Addr} {C n d : String} {k : Int32} (ev : t.eval args s none [] s = some (.ref a)) (h : (Jvm.Cond.eq (Term.field t C n d) (Term.int k)).value args s none s [] = some true) : Fld s s.heap a C n d (.int k) := by
  obtain ⟨x, y, h1, h2, h3, h4⟩ := cmp_v (Or.inl h)
  obtain rfl : Value.int k = y := Option.some.inj h2
  obtain ⟨z, rfl⟩ := h4
  have q : z = k := by simpa [Cond.value, h1, h2] using h
  subst q
  exact Fld.start ((fld_at ev).symm.trans h1)
end Jvm.RoadKit
namespace Jvm.Pilot.@@N@@
open Jvm Jvm.ClassFile Sem Op Lib Jvm.Free Jvm.Stand Jvm.LawKit Jvm.RoadKit Bundle Jvm.Pilot.@@N@@.Jvm.D
theorem pn_com_example_eelgrass_eelgrass_sync_SyncErrorCode : plainName "com/example/eelgrass/eelgrass/sync/SyncErrorCode" = true := by first | (simp [plainName, overriddenIn]; done) | decide +kernel
theorem ef_rm_isError (m : MethodId) (x0 : Addr) : entryFrame m #[(.ref x0)] 1 = mkF m 0 #[.val (.ref x0)] [] := by first | (simp [entryFrame, mkF, argsToLocals, Value.category]; done) | rfl
def Q_rm_isError (Z : State) (a am : Addr) (h0 : Heap) (n0 : Nat) (v : Option Value) (h : Heap) (L : List Loc) : Prop := v = some (.int (bit (¬ a = am))) ∧ Fr n0 L ∧ h = h0
theorem d1_0 : decode prog_34_method_5_code 0 = .ok (.aload_n 0, 1) := by decide +kernel
theorem d1_1 : decode prog_34_method_5_code 1 = .ok (.getstatic 22, 3) := by decide +kernel
theorem d1_4 : decode prog_34_method_5_code 4 = .ok (.if_acmp .eq 7, 3) := by decide +kernel
theorem d1_11 : decode prog_34_method_5_code 11 = .ok (.iconst 0, 1) := by decide +kernel
theorem d1_12 : decode prog_34_method_5_code 12 = .ok (.ireturn, 1) := by decide +kernel
theorem d1_7 : decode prog_34_method_5_code 7 = .ok (.iconst 1, 1) := by decide +kernel
theorem d1_8 : decode prog_34_method_5_code 8 = .ok (.goto 4, 3) := by decide +kernel
set_option maxRecDepth 65536 in
set_option maxHeartbeats 40000000 in
theorem rm_isError (l : Launch) (Z : State) (a0 : Array Value) (hw : ∀ d ∈ tables_1, d.before a0 Z = true) (ws : List Jvm.Cond) (a am : Addr) (h0 : Heap) (n0 : Nat) (O : Old Z n0 h0) (S_MEM : Sta Z Z.heap "com/example/eelgrass/eelgrass/sync/SyncErrorCode" "MEM" "Lcom/example/eelgrass/eelgrass/sync/SyncErrorCode;" (.ref am)) :
    MetFree l (⟨"com/example/eelgrass/eelgrass/sync/SyncErrorCode", "isError", "()Z"⟩ : MethodName) (head1 (Jvm.Cond.code (⟨"com/example/eelgrass/eelgrass/sync/SyncErrorCode", "isError", "()Z"⟩ : MethodName) prog_34_method_5_code 1 (some .boolean) :: ws) ({ frames := 0, cells := 0, slots := 0, locals := 0 } : Room)) (fun aa U => aa = #[(.ref a)] ∧ Z.Warmed39 U.vm ∧ U.heap = h0) (fun _ _ _ _ _ => True) (fun _ U o U' => ∃ v L, o = .returned v ∧ Q_rm_isError Z a am h0 n0 v U'.heap L ∧ FrameEnd U o U' L ({ frames := 0, cells := 0, slots := 0, locals := 0 } : Room).cells ({ frames := 0, cells := 0, slots := 0, locals := 0 } : Room).slots) := by
  refine MetFree.of_bodySF (plainFor_of_name pn_com_example_eelgrass_eelgrass_sync_SyncErrorCode) hisR ?_
  intro p e s m args below meth c s₁ Bd hml0 hP hK
  obtain ⟨rfl, hZ, hh⟩ := hP
  have hx := Bd.exec
  have hby := Bd.bytes
  have hml : c.maxLocals = 1 := hml0
  have hown : s.vm.findClass "com/example/eelgrass/eelgrass/sync/SyncErrorCode" = some m.cls := findClass_of_methodNamed Bd.named
  have hnm := (name_of_methodNamed Bd.named Bd.method).1
  have X0 : Stand p l e ({ frames := 0, cells := 0, slots := 0, locals := 0 } : Room) s m #[(.ref a)] below meth c s₁ [] 0 0 := Stand.of_body Bd
  have e0 : s₁.heap = h0 := by rw [← hh, Bd.state]; rfl
  have N0 := Fr.nil n0
  show Goes p e below s FrameEnd ({ frames := 0, cells := 0, slots := 0, locals := 0 } : Room).cells ({ frames := 0, cells := 0, slots := 0, locals := 0 } : Room).slots (Q_rm_isError Z a am h0 n0) s₁ (entryFrame m #[(.ref a)] 1)
  refine Goes.cast (ef_rm_isError m a) ?_
  refine Goes.to (T' := s₁) (mkF m 1 #[.val (.ref a)] [(.ref a)]) (fun t k => XS.aloadN X0.here hx rfl (hb hby d1_0) rfl rfl k) ?_
  obtain ⟨T1, X1, e1, st1⟩ := getS2 X0 hx hZ hown (host := "") (Or.inl (hw _ (List.mem_of_getElem? (i := 25) rfl))) Via.refl e0 (S_MEM.ext O.2) (g := (mkF m 1 #[.val (.ref a)] [(.ref a)])) rfl (hb hby d1_1)
  refine Goes.to (T' := T1) (mkF m 4 #[.val (.ref a)] [(.ref am), (.ref a)]) st1 ?_
  by_cases ha4_2 : a = am
  · refine Goes.to (T' := T1) (mkF m 11 #[.val (.ref a)] []) (fun t k => Jvm.RoadKit.acmp (g := (mkF m 4 #[.val (.ref a)] [(.ref am), (.ref a)])) X1 hx rfl rfl rfl (pc0 := 4) (pc' := 11) (same := true) rfl (hb hby d1_4) rfl (decide_eq_true (congrArg Value.ref ha4_2)) (by decide) (by decide) k) ?_
    refine Goes.to (T' := T1) (mkF m 12 #[.val (.ref a)] [(.int (0 : Int32))]) (fun t k => XS.iconst X1.here hx rfl (hb hby d1_11) k) ?_
    refine Goes.retN X1 hx Bd.notSynchronized (t := .boolean) Bd.returns (by simp) (hb hby d1_12) (by decide) (by decide) ?_
    rw [e1]
    exact ⟨by rw [bit_f (fun q => q ha4_2)]; rfl, N0, rfl⟩
  · refine Goes.to (T' := T1) (mkF m 7 #[.val (.ref a)] []) (fun t k => Jvm.RoadKit.acmp (g := (mkF m 4 #[.val (.ref a)] [(.ref am), (.ref a)])) X1 hx rfl rfl rfl (pc0 := 4) (pc' := 7) (same := false) rfl (hb hby d1_4) rfl (decide_eq_false fun q => ha4_2 (Value.ref.inj q)) (by decide) (by decide) k) ?_
    refine Goes.to (T' := T1) (mkF m 8 #[.val (.ref a)] [(.int (1 : Int32))]) (fun t k => XS.iconst X1.here hx rfl (hb hby d1_7) k) ?_
    refine Goes.to (T' := T1) (mkF m 12 #[.val (.ref a)] [(.int (1 : Int32))]) (fun t k => XS.goto X1.here hx rfl (pc0 := 8) (pc' := 12) rfl (hb hby d1_8) (by decide) (by decide) k) ?_
    refine Goes.retN X1 hx Bd.notSynchronized (t := .boolean) Bd.returns (by simp) (hb hby d1_12) (by decide) (by decide) ?_
    rw [e1]
    exact ⟨by rw [bit_t ha4_2]; rfl, N0, rfl⟩
theorem own_mod7 (x : Int32) : (x &&& 2147483647) % 7 = 0 ∨ (x &&& 2147483647) % 7 = 1 ∨ (x &&& 2147483647) % 7 = 2 ∨ (x &&& 2147483647) % 7 = 3 ∨ (x &&& 2147483647) % 7 = 4 ∨ (x &&& 2147483647) % 7 = 5 ∨ (x &&& 2147483647) % 7 = 6 := by
  have h1 := c_and x 2147483647 (by decide)
  have h2 := (c_irem (x &&& 2147483647) 7 7 (by decide)).1 h1.1
  simp only [← Int32.toInt_inj, h2, show (0 : Int32).toInt = 0 from by decide, show (1 : Int32).toInt = 1 from by decide, show (2 : Int32).toInt = 2 from by decide, show (3 : Int32).toInt = 3 from by decide, show (4 : Int32).toInt = 4 from by decide, show (5 : Int32).toInt = 5 from by decide, show (6 : Int32).toInt = 6 from by decide]
  omega
theorem pn_com_example_eelgrass_eelgrass_sync_SyncErrorCodeIsErrorPinLaw : plainName "com/example/eelgrass/eelgrass/sync/SyncErrorCodeIsErrorPinLaw" = true := by first | (simp [plainName, overriddenIn]; done) | decide +kernel
theorem ef_rm_law (m : MethodId) (x0 : Int32) : entryFrame m #[(.int x0)] maxLocals = mkF m 0 #[.val (.int x0), .unset, .unset, .unset, .unset] [] := by first | (simp [entryFrame, mkF, argsToLocals, Value.category, maxLocals]; done) | rfl
def Q_rm_law (Z : State) (p1 : Int32) (a_ERR a_INV a_LEN a_REQ a_DNE a_MAT a_MEM : Addr) (h0 : Heap) (n0 : Nat) (v : Option Value) (h : Heap) (L : List Loc) : Prop := v = some (.int 1) ∧ Fr n0 L
theorem pd_0 : parseMethodDescriptor "()Z" = some ⟨[], some .boolean⟩ := by decide +kernel
set_option maxRecDepth 65536 in
set_option maxHeartbeats 40000000 in
theorem rm_law (l : Launch) (Z : State) (a0 : Array Value) (hw : ∀ d ∈ tables_1, d.before a0 Z = true) (ws : List Jvm.Cond) (p1 : Int32) (a_ERR a_INV a_LEN a_REQ a_DNE a_MAT a_MEM : Addr) (h0 : Heap) (n0 : Nat) (O : Old Z n0 h0) (S_ERR : Sta Z Z.heap "com/example/eelgrass/eelgrass/sync/SyncErrorCode" "ERR" "Lcom/example/eelgrass/eelgrass/sync/SyncErrorCode;" (.ref a_ERR)) (S_INV : Sta Z Z.heap "com/example/eelgrass/eelgrass/sync/SyncErrorCode" "INV" "Lcom/example/eelgrass/eelgrass/sync/SyncErrorCode;" (.ref a_INV)) (S_LEN : Sta Z Z.heap "com/example/eelgrass/eelgrass/sync/SyncErrorCode" "LEN" "Lcom/example/eelgrass/eelgrass/sync/SyncErrorCode;" (.ref a_LEN)) (S_REQ : Sta Z Z.heap "com/example/eelgrass/eelgrass/sync/SyncErrorCode" "REQ" "Lcom/example/eelgrass/eelgrass/sync/SyncErrorCode;" (.ref a_REQ)) (S_DNE : Sta Z Z.heap "com/example/eelgrass/eelgrass/sync/SyncErrorCode" "DNE" "Lcom/example/eelgrass/eelgrass/sync/SyncErrorCode;" (.ref a_DNE)) (S_MAT : Sta Z Z.heap "com/example/eelgrass/eelgrass/sync/SyncErrorCode" "MAT" "Lcom/example/eelgrass/eelgrass/sync/SyncErrorCode;" (.ref a_MAT)) (S_MEM : Sta Z Z.heap "com/example/eelgrass/eelgrass/sync/SyncErrorCode" "MEM" "Lcom/example/eelgrass/eelgrass/sync/SyncErrorCode;" (.ref a_MEM)) (E_ERR : Exa Z Z.heap a_ERR "com/example/eelgrass/eelgrass/sync/SyncErrorCode") (E_INV : Exa Z Z.heap a_INV "com/example/eelgrass/eelgrass/sync/SyncErrorCode") (E_LEN : Exa Z Z.heap a_LEN "com/example/eelgrass/eelgrass/sync/SyncErrorCode") (E_REQ : Exa Z Z.heap a_REQ "com/example/eelgrass/eelgrass/sync/SyncErrorCode") (E_DNE : Exa Z Z.heap a_DNE "com/example/eelgrass/eelgrass/sync/SyncErrorCode") (E_MAT : Exa Z Z.heap a_MAT "com/example/eelgrass/eelgrass/sync/SyncErrorCode") (E_MEM : Exa Z Z.heap a_MEM "com/example/eelgrass/eelgrass/sync/SyncErrorCode") (ne_ERR : ¬ a_ERR = a_MEM) (ne_INV : ¬ a_INV = a_MEM) (ne_LEN : ¬ a_LEN = a_MEM) (ne_REQ : ¬ a_REQ = a_MEM) (ne_DNE : ¬ a_DNE = a_MEM) (ne_MAT : ¬ a_MAT = a_MEM) :
    MetFree l x (head1 (Jvm.Cond.code x code maxLocals ret :: ws) room_1) (fun aa U => aa = #[(.int p1)] ∧ Z.Warmed39 U.vm ∧ U.heap = h0) (fun _ _ _ _ _ => True) (fun _ U o U' => ∃ v L, o = .returned v ∧ Q_rm_law Z p1 a_ERR a_INV a_LEN a_REQ a_DNE a_MAT a_MEM h0 n0 v U'.heap L ∧ FrameEnd U o U' L room_1.cells room_1.slots) := by
  refine MetFree.of_bodySF (plainFor_of_name pn_com_example_eelgrass_eelgrass_sync_SyncErrorCodeIsErrorPinLaw) hisR ?_
  intro p e s m args below meth c s₁ Bd hml0 hP hK
  obtain ⟨rfl, hZ, hh⟩ := hP
  have hx := Bd.exec
  have hby := Bd.bytes
  have hml : c.maxLocals = 5 := hml0
  have hown : s.vm.findClass "com/example/eelgrass/eelgrass/sync/SyncErrorCodeIsErrorPinLaw" = some m.cls := findClass_of_methodNamed Bd.named
  have hnm := (name_of_methodNamed Bd.named Bd.method).1
  have X0 : Stand p l e room_1 s m #[(.int p1)] below meth c s₁ [] 0 0 := Stand.of_body Bd
  have e0 : s₁.heap = h0 := by rw [← hh, Bd.state]; rfl
  have N0 := Fr.nil n0
  show Goes p e below s FrameEnd room_1.cells room_1.slots (Q_rm_law Z p1 a_ERR a_INV a_LEN a_REQ a_DNE a_MAT a_MEM h0 n0) s₁ (entryFrame m #[(.int p1)] maxLocals)
  refine Goes.cast (ef_rm_law m p1) ?_
  refine Goes.to (T' := s₁) (mkF m 2 #[.val (.int p1), .unset, .unset, .unset, .unset] [(.int (7 : Int32))]) (fun t k => XS.bipush X0.here hx rfl (hb hby at_0) k) ?_
  obtain ⟨T1, h1, k1, X1, e1, E1, A1, O1, st1⟩ := newR X0 hx hZ hown (hw _ (List.mem_of_getElem? (i := 0) rfl)) (hw _ (List.mem_of_getElem? (i := 1) rfl)) e0 (g := (mkF m 2 #[.val (.int p1), .unset, .unset, .unset, .unset] [(.int (7 : Int32))])) rfl (hb hby at_2) rfl (by decide) (cap := 7) (by decide) (by decide) (by decide) (by decide)
  obtain ⟨b1, g1⟩ : ∃ z, z = h0.size := ⟨_, rfl⟩
  rw [← g1] at A1 st1
  have g_b1 : n0 ≤ b1 := Nat.le_trans (O.1 ▸ O.2.1) (Nat.le_of_eq g1.symm)
  replace O := O.ext E1
  have V_b1 : Arv Z h1 b1 k1 (.object "com/example/eelgrass/eelgrass/sync/SyncErrorCode") (7 : Int32) [.null, .null, .null, .null, .null, .null, .null] .null := (Arv.new A1 (by decide)).pad (pad_rep [] .null 7)
  refine Goes.to (T' := T1) (mkF m 5 #[.val (.int p1), .unset, .unset, .unset, .unset] [(.ref b1)]) st1 ?_
  refine Goes.to (T' := T1) (mkF m 6 #[.val (.int p1), .unset, .unset, .unset, .unset] [(.ref b1), (.ref b1)]) (fun t k => XS.dup X1.here hx rfl (hb hby at_5) rfl rfl k) ?_
  refine Goes.to (T' := T1) (mkF m 7 #[.val (.int p1), .unset, .unset, .unset, .unset] [(.int (0 : Int32)), (.ref b1), (.ref b1)]) (fun t k => XS.iconst X1.here hx rfl (hb hby at_6) k) ?_
  obtain ⟨T2, X2, e2, st2⟩ := getS2 X1 hx hZ hown (host := "") (Or.inl (hw _ (List.mem_of_getElem? (i := 2) rfl))) Via.refl e1 (S_ERR.ext O.2) (g := (mkF m 7 #[.val (.int p1), .unset, .unset, .unset, .unset] [(.int (0 : Int32)), (.ref b1), (.ref b1)])) rfl (hb hby at_7)
  refine Goes.to (T' := T2) (mkF m 10 #[.val (.int p1), .unset, .unset, .unset, .unset] [(.ref a_ERR), (.int (0 : Int32)), (.ref b1), (.ref b1)]) st2 ?_
  obtain ⟨cl3, Ar3, q3, S3, M3, H3, G3⟩ := V_b1
  have hin3 : ¬ ((0 : Int32) < 0 ∨ cl3.slots.size ≤ ((0 : Int32)).toNatClampNeg) := inb_of S3 ⟨by decide, by decide⟩
  obtain ⟨T4, h4, X4, e4, W4, st4⟩ := stR X2 hx hZ e2 Ar3 (j := (0 : Int32)) hin3 rfl (Sto.ofV Ar3 q3 O1 (Ins.self (E_ERR.ext O.2))) (g := (mkF m 10 #[.val (.int p1), .unset, .unset, .unset, .unset] [(.ref a_ERR), (.int (0 : Int32)), (.ref b1), (.ref b1)])) rfl rfl (hb hby at_10)
  have V_b1 : Arv Z h4 b1 k1 (.object "com/example/eelgrass/eelgrass/sync/SyncErrorCode") (7 : Int32) [(.ref a_ERR), .null, .null, .null, .null, .null, .null] .null := Arv.set Ar3 q3 S3 M3 H3 G3 rfl W4 0 rfl (Nat.le_of_ble_eq_true rfl)
  replace O := O.wr W4 g_b1
  have N4 := Fr.snoc X4 N0 g_b1
  refine Goes.to (T' := T4) (mkF m 11 #[.val (.int p1), .unset, .unset, .unset, .unset] [(.ref b1)]) st4 ?_
  refine Goes.to (T' := T4) (mkF m 12 #[.val (.int p1), .unset, .unset, .unset, .unset] [(.ref b1), (.ref b1)]) (fun t k => XS.dup X4.here hx rfl (hb hby at_11) rfl rfl k) ?_
  refine Goes.to (T' := T4) (mkF m 13 #[.val (.int p1), .unset, .unset, .unset, .unset] [(.int (1 : Int32)), (.ref b1), (.ref b1)]) (fun t k => XS.iconst X4.here hx rfl (hb hby at_12) k) ?_
  obtain ⟨T5, X5, e5, st5⟩ := getS2 X4 hx hZ hown (host := "") (Or.inl (hw _ (List.mem_of_getElem? (i := 6) rfl))) Via.refl e4 (S_INV.ext O.2) (g := (mkF m 13 #[.val (.int p1), .unset, .unset, .unset, .unset] [(.int (1 : Int32)), (.ref b1), (.ref b1)])) rfl (hb hby at_13)
  refine Goes.to (T' := T5) (mkF m 16 #[.val (.int p1), .unset, .unset, .unset, .unset] [(.ref a_INV), (.int (1 : Int32)), (.ref b1), (.ref b1)]) st5 ?_
  obtain ⟨cl6, Ar6, q6, S6, M6, H6, G6⟩ := V_b1
  have hin6 : ¬ ((1 : Int32) < 0 ∨ cl6.slots.size ≤ ((1 : Int32)).toNatClampNeg) := inb_of S6 ⟨by decide, by decide⟩
  obtain ⟨T7, h7, X7, e7, W7, st7⟩ := stR X5 hx hZ e5 Ar6 (j := (1 : Int32)) hin6 rfl (Sto.ofV Ar6 q6 O1 (Ins.self (E_INV.ext O.2))) (g := (mkF m 16 #[.val (.int p1), .unset, .unset, .unset, .unset] [(.ref a_INV), (.int (1 : Int32)), (.ref b1), (.ref b1)])) rfl rfl (hb hby at_16)
  have V_b1 : Arv Z h7 b1 k1 (.object "com/example/eelgrass/eelgrass/sync/SyncErrorCode") (7 : Int32) [(.ref a_ERR), (.ref a_INV), .null, .null, .null, .null, .null] .null := Arv.set Ar6 q6 S6 M6 H6 G6 rfl W7 1 rfl (Nat.le_of_ble_eq_true rfl)
  replace O := O.wr W7 g_b1
  have N7 := Fr.snoc X7 N4 g_b1
  refine Goes.to (T' := T7) (mkF m 17 #[.val (.int p1), .unset, .unset, .unset, .unset] [(.ref b1)]) st7 ?_
  refine Goes.to (T' := T7) (mkF m 18 #[.val (.int p1), .unset, .unset, .unset, .unset] [(.ref b1), (.ref b1)]) (fun t k => XS.dup X7.here hx rfl (hb hby at_17) rfl rfl k) ?_
  refine Goes.to (T' := T7) (mkF m 19 #[.val (.int p1), .unset, .unset, .unset, .unset] [(.int (2 : Int32)), (.ref b1), (.ref b1)]) (fun t k => XS.iconst X7.here hx rfl (hb hby at_18) k) ?_
  obtain ⟨T8, X8, e8, st8⟩ := getS2 X7 hx hZ hown (host := "") (Or.inl (hw _ (List.mem_of_getElem? (i := 8) rfl))) Via.refl e7 (S_LEN.ext O.2) (g := (mkF m 19 #[.val (.int p1), .unset, .unset, .unset, .unset] [(.int (2 : Int32)), (.ref b1), (.ref b1)])) rfl (hb hby at_19)
  refine Goes.to (T' := T8) (mkF m 22 #[.val (.int p1), .unset, .unset, .unset, .unset] [(.ref a_LEN), (.int (2 : Int32)), (.ref b1), (.ref b1)]) st8 ?_
  obtain ⟨cl9, Ar9, q9, S9, M9, H9, G9⟩ := V_b1
  have hin9 : ¬ ((2 : Int32) < 0 ∨ cl9.slots.size ≤ ((2 : Int32)).toNatClampNeg) := inb_of S9 ⟨by decide, by decide⟩
  obtain ⟨T10, h10, X10, e10, W10, st10⟩ := stR X8 hx hZ e8 Ar9 (j := (2 : Int32)) hin9 rfl (Sto.ofV Ar9 q9 O1 (Ins.self (E_LEN.ext O.2))) (g := (mkF m 22 #[.val (.int p1), .unset, .unset, .unset, .unset] [(.ref a_LEN), (.int (2 : Int32)), (.ref b1), (.ref b1)])) rfl rfl (hb hby at_22)
  have V_b1 : Arv Z h10 b1 k1 (.object "com/example/eelgrass/eelgrass/sync/SyncErrorCode") (7 : Int32) [(.ref a_ERR), (.ref a_INV), (.ref a_LEN), .null, .null, .null, .null] .null := Arv.set Ar9 q9 S9 M9 H9 G9 rfl W10 2 rfl (Nat.le_of_ble_eq_true rfl)
  replace O := O.wr W10 g_b1
  have N10 := Fr.snoc X10 N7 g_b1
  refine Goes.to (T' := T10) (mkF m 23 #[.val (.int p1), .unset, .unset, .unset, .unset] [(.ref b1)]) st10 ?_
  refine Goes.to (T' := T10) (mkF m 24 #[.val (.int p1), .unset, .unset, .unset, .unset] [(.ref b1), (.ref b1)]) (fun t k => XS.dup X10.here hx rfl (hb hby at_23) rfl rfl k) ?_
  refine Goes.to (T' := T10) (mkF m 25 #[.val (.int p1), .unset, .unset, .unset, .unset] [(.int (3 : Int32)), (.ref b1), (.ref b1)]) (fun t k => XS.iconst X10.here hx rfl (hb hby at_24) k) ?_
  obtain ⟨T11, X11, e11, st11⟩ := getS2 X10 hx hZ hown (host := "") (Or.inl (hw _ (List.mem_of_getElem? (i := 10) rfl))) Via.refl e10 (S_REQ.ext O.2) (g := (mkF m 25 #[.val (.int p1), .unset, .unset, .unset, .unset] [(.int (3 : Int32)), (.ref b1), (.ref b1)])) rfl (hb hby at_25)
  refine Goes.to (T' := T11) (mkF m 28 #[.val (.int p1), .unset, .unset, .unset, .unset] [(.ref a_REQ), (.int (3 : Int32)), (.ref b1), (.ref b1)]) st11 ?_
  obtain ⟨cl12, Ar12, q12, S12, M12, H12, G12⟩ := V_b1
  have hin12 : ¬ ((3 : Int32) < 0 ∨ cl12.slots.size ≤ ((3 : Int32)).toNatClampNeg) := inb_of S12 ⟨by decide, by decide⟩
  obtain ⟨T13, h13, X13, e13, W13, st13⟩ := stR X11 hx hZ e11 Ar12 (j := (3 : Int32)) hin12 rfl (Sto.ofV Ar12 q12 O1 (Ins.self (E_REQ.ext O.2))) (g := (mkF m 28 #[.val (.int p1), .unset, .unset, .unset, .unset] [(.ref a_REQ), (.int (3 : Int32)), (.ref b1), (.ref b1)])) rfl rfl (hb hby at_28)
  have V_b1 : Arv Z h13 b1 k1 (.object "com/example/eelgrass/eelgrass/sync/SyncErrorCode") (7 : Int32) [(.ref a_ERR), (.ref a_INV), (.ref a_LEN), (.ref a_REQ), .null, .null, .null] .null := Arv.set Ar12 q12 S12 M12 H12 G12 rfl W13 3 rfl (Nat.le_of_ble_eq_true rfl)
  replace O := O.wr W13 g_b1
  have N13 := Fr.snoc X13 N10 g_b1
  refine Goes.to (T' := T13) (mkF m 29 #[.val (.int p1), .unset, .unset, .unset, .unset] [(.ref b1)]) st13 ?_
  refine Goes.to (T' := T13) (mkF m 30 #[.val (.int p1), .unset, .unset, .unset, .unset] [(.ref b1), (.ref b1)]) (fun t k => XS.dup X13.here hx rfl (hb hby at_29) rfl rfl k) ?_
  refine Goes.to (T' := T13) (mkF m 31 #[.val (.int p1), .unset, .unset, .unset, .unset] [(.int (4 : Int32)), (.ref b1), (.ref b1)]) (fun t k => XS.iconst X13.here hx rfl (hb hby at_30) k) ?_
  obtain ⟨T14, X14, e14, st14⟩ := getS2 X13 hx hZ hown (host := "") (Or.inl (hw _ (List.mem_of_getElem? (i := 12) rfl))) Via.refl e13 (S_DNE.ext O.2) (g := (mkF m 31 #[.val (.int p1), .unset, .unset, .unset, .unset] [(.int (4 : Int32)), (.ref b1), (.ref b1)])) rfl (hb hby at_31)
  refine Goes.to (T' := T14) (mkF m 34 #[.val (.int p1), .unset, .unset, .unset, .unset] [(.ref a_DNE), (.int (4 : Int32)), (.ref b1), (.ref b1)]) st14 ?_
  obtain ⟨cl15, Ar15, q15, S15, M15, H15, G15⟩ := V_b1
  have hin15 : ¬ ((4 : Int32) < 0 ∨ cl15.slots.size ≤ ((4 : Int32)).toNatClampNeg) := inb_of S15 ⟨by decide, by decide⟩
  obtain ⟨T16, h16, X16, e16, W16, st16⟩ := stR X14 hx hZ e14 Ar15 (j := (4 : Int32)) hin15 rfl (Sto.ofV Ar15 q15 O1 (Ins.self (E_DNE.ext O.2))) (g := (mkF m 34 #[.val (.int p1), .unset, .unset, .unset, .unset] [(.ref a_DNE), (.int (4 : Int32)), (.ref b1), (.ref b1)])) rfl rfl (hb hby at_34)
  have V_b1 : Arv Z h16 b1 k1 (.object "com/example/eelgrass/eelgrass/sync/SyncErrorCode") (7 : Int32) [(.ref a_ERR), (.ref a_INV), (.ref a_LEN), (.ref a_REQ), (.ref a_DNE), .null, .null] .null := Arv.set Ar15 q15 S15 M15 H15 G15 rfl W16 4 rfl (Nat.le_of_ble_eq_true rfl)
  replace O := O.wr W16 g_b1
  have N16 := Fr.snoc X16 N13 g_b1
  refine Goes.to (T' := T16) (mkF m 35 #[.val (.int p1), .unset, .unset, .unset, .unset] [(.ref b1)]) st16 ?_
  refine Goes.to (T' := T16) (mkF m 36 #[.val (.int p1), .unset, .unset, .unset, .unset] [(.ref b1), (.ref b1)]) (fun t k => XS.dup X16.here hx rfl (hb hby at_35) rfl rfl k) ?_
  refine Goes.to (T' := T16) (mkF m 37 #[.val (.int p1), .unset, .unset, .unset, .unset] [(.int (5 : Int32)), (.ref b1), (.ref b1)]) (fun t k => XS.iconst X16.here hx rfl (hb hby at_36) k) ?_
  obtain ⟨T17, X17, e17, st17⟩ := getS2 X16 hx hZ hown (host := "") (Or.inl (hw _ (List.mem_of_getElem? (i := 14) rfl))) Via.refl e16 (S_MAT.ext O.2) (g := (mkF m 37 #[.val (.int p1), .unset, .unset, .unset, .unset] [(.int (5 : Int32)), (.ref b1), (.ref b1)])) rfl (hb hby at_37)
  refine Goes.to (T' := T17) (mkF m 40 #[.val (.int p1), .unset, .unset, .unset, .unset] [(.ref a_MAT), (.int (5 : Int32)), (.ref b1), (.ref b1)]) st17 ?_
  obtain ⟨cl18, Ar18, q18, S18, M18, H18, G18⟩ := V_b1
  have hin18 : ¬ ((5 : Int32) < 0 ∨ cl18.slots.size ≤ ((5 : Int32)).toNatClampNeg) := inb_of S18 ⟨by decide, by decide⟩
  obtain ⟨T19, h19, X19, e19, W19, st19⟩ := stR X17 hx hZ e17 Ar18 (j := (5 : Int32)) hin18 rfl (Sto.ofV Ar18 q18 O1 (Ins.self (E_MAT.ext O.2))) (g := (mkF m 40 #[.val (.int p1), .unset, .unset, .unset, .unset] [(.ref a_MAT), (.int (5 : Int32)), (.ref b1), (.ref b1)])) rfl rfl (hb hby at_40)
  have V_b1 : Arv Z h19 b1 k1 (.object "com/example/eelgrass/eelgrass/sync/SyncErrorCode") (7 : Int32) [(.ref a_ERR), (.ref a_INV), (.ref a_LEN), (.ref a_REQ), (.ref a_DNE), (.ref a_MAT), .null] .null := Arv.set Ar18 q18 S18 M18 H18 G18 rfl W19 5 rfl (Nat.le_of_ble_eq_true rfl)
  replace O := O.wr W19 g_b1
  have N19 := Fr.snoc X19 N16 g_b1
  refine Goes.to (T' := T19) (mkF m 41 #[.val (.int p1), .unset, .unset, .unset, .unset] [(.ref b1)]) st19 ?_
  refine Goes.to (T' := T19) (mkF m 42 #[.val (.int p1), .unset, .unset, .unset, .unset] [(.ref b1), (.ref b1)]) (fun t k => XS.dup X19.here hx rfl (hb hby at_41) rfl rfl k) ?_
  refine Goes.to (T' := T19) (mkF m 44 #[.val (.int p1), .unset, .unset, .unset, .unset] [(.int (6 : Int32)), (.ref b1), (.ref b1)]) (fun t k => XS.bipush X19.here hx rfl (hb hby at_42) k) ?_
  obtain ⟨T20, X20, e20, st20⟩ := getS2 X19 hx hZ hown (host := "") (Or.inl (hw _ (List.mem_of_getElem? (i := 16) rfl))) Via.refl e19 (S_MEM.ext O.2) (g := (mkF m 44 #[.val (.int p1), .unset, .unset, .unset, .unset] [(.int (6 : Int32)), (.ref b1), (.ref b1)])) rfl (hb hby at_44)
  refine Goes.to (T' := T20) (mkF m 47 #[.val (.int p1), .unset, .unset, .unset, .unset] [(.ref a_MEM), (.int (6 : Int32)), (.ref b1), (.ref b1)]) st20 ?_
  obtain ⟨cl21, Ar21, q21, S21, M21, H21, G21⟩ := V_b1
  have hin21 : ¬ ((6 : Int32) < 0 ∨ cl21.slots.size ≤ ((6 : Int32)).toNatClampNeg) := inb_of S21 ⟨by decide, by decide⟩
  obtain ⟨T22, h22, X22, e22, W22, st22⟩ := stR X20 hx hZ e20 Ar21 (j := (6 : Int32)) hin21 rfl (Sto.ofV Ar21 q21 O1 (Ins.self (E_MEM.ext O.2))) (g := (mkF m 47 #[.val (.int p1), .unset, .unset, .unset, .unset] [(.ref a_MEM), (.int (6 : Int32)), (.ref b1), (.ref b1)])) rfl rfl (hb hby at_47)
  have V_b1 : Arv Z h22 b1 k1 (.object "com/example/eelgrass/eelgrass/sync/SyncErrorCode") (7 : Int32) [(.ref a_ERR), (.ref a_INV), (.ref a_LEN), (.ref a_REQ), (.ref a_DNE), (.ref a_MAT), (.ref a_MEM)] .null := Arv.set Ar21 q21 S21 M21 H21 G21 rfl W22 6 rfl (Nat.le_of_ble_eq_true rfl)
  replace O := O.wr W22 g_b1
  have N22 := Fr.snoc X22 N19 g_b1
  refine Goes.to (T' := T22) (mkF m 48 #[.val (.int p1), .unset, .unset, .unset, .unset] [(.ref b1)]) st22 ?_
  refine Goes.to (T' := T22) (mkF m 49 #[.val (.int p1), .val (.ref b1), .unset, .unset, .unset] []) (fun t k => XS.astoreN X22.here hx rfl (hb hby at_48) rfl rfl (l' := #[.val (.int p1), .val (.ref b1), .unset, .unset, .unset]) rfl k) ?_
  refine Goes.to (T' := T22) (mkF m 51 #[.val (.int p1), .val (.ref b1), .unset, .unset, .unset] [(.int (7 : Int32))]) (fun t k => XS.bipush X22.here hx rfl (hb hby at_49) k) ?_
  obtain ⟨T23, h23, k23, X23, e23, E23, A23, st23⟩ := newP X22 hx hZ (hw _ (List.mem_of_getElem? (i := 18) rfl)) e22 (g := (mkF m 51 #[.val (.int p1), .val (.ref b1), .unset, .unset, .unset] [(.int (7 : Int32))])) rfl (hb hby at_51) rfl (by decide) (cap := 7) (by decide) (by decide) (by decide) (by decide)
  obtain ⟨b23, g23⟩ : ∃ z, z = h22.size := ⟨_, rfl⟩
  rw [← g23] at A23 st23
  have g_b23 : n0 ≤ b23 := Nat.le_trans (O.1 ▸ O.2.1) (Nat.le_of_eq g23.symm)
  have ne_b1_b23 : b1 ≠ b23 := Nat.ne_of_lt (Nat.lt_of_lt_of_le V_b1.lt (Nat.le_of_eq g23.symm))
  replace O := O.ext E23
  replace V_b1 := V_b1.ext E23
  have V_b23 : Arv Z h23 b23 k23 .boolean (7 : Int32) [(.int (0 : Int32)), (.int (0 : Int32)), (.int (0 : Int32)), (.int (0 : Int32)), (.int (0 : Int32)), (.int (0 : Int32)), (.int (0 : Int32))] (.int (0 : Int32)) := (Arv.new A23 (by decide)).pad (pad_rep [] (.int (0 : Int32)) 7)
  refine Goes.to (T' := T23) (mkF m 53 #[.val (.int p1), .val (.ref b1), .unset, .unset, .unset] [(.ref b23)]) st23 ?_
  refine Goes.to (T' := T23) (mkF m 54 #[.val (.int p1), .val (.ref b1), .unset, .unset, .unset] [(.ref b23), (.ref b23)]) (fun t k => XS.dup X23.here hx rfl (hb hby at_53) rfl rfl k) ?_
  refine Goes.to (T' := T23) (mkF m 55 #[.val (.int p1), .val (.ref b1), .unset, .unset, .unset] [(.int (0 : Int32)), (.ref b23), (.ref b23)]) (fun t k => XS.iconst X23.here hx rfl (hb hby at_54) k) ?_
  refine Goes.to (T' := T23) (mkF m 56 #[.val (.int p1), .val (.ref b1), .unset, .unset, .unset] [(.int (1 : Int32)), (.int (0 : Int32)), (.ref b23), (.ref b23)]) (fun t k => XS.iconst X23.here hx rfl (hb hby at_55) k) ?_
  obtain ⟨cl24, Ar24, q24, S24, M24, H24, G24⟩ := V_b23
  have hin24 : ¬ ((0 : Int32) < 0 ∨ cl24.slots.size ≤ ((0 : Int32)).toNatClampNeg) := inb_of S24 ⟨by decide, by decide⟩
  obtain ⟨T25, h25, X25, e25, W25, st25⟩ := stZ X23 hx hZ e23 Ar24 (j := (0 : Int32)) hin24 (g := (mkF m 56 #[.val (.int p1), .val (.ref b1), .unset, .unset, .unset] [(.int (1 : Int32)), (.int (0 : Int32)), (.ref b23), (.ref b23)])) rfl rfl (hb hby at_56)
  have V_b23 : Arv Z h25 b23 k23 .boolean (7 : Int32) [(.int (nar .boolean (1 : Int32))), (.int (0 : Int32)), (.int (0 : Int32)), (.int (0 : Int32)), (.int (0 : Int32)), (.int (0 : Int32)), (.int (0 : Int32))] (.int (0 : Int32)) := Arv.set Ar24 q24 S24 M24 H24 G24 (fits_nar_bool _) W25 0 rfl (Nat.le_of_ble_eq_true rfl)
  replace V_b1 := V_b1.other W25 ne_b1_b23
  replace O := O.wr W25 g_b23
  have N25 := Fr.snoc X25 N22 g_b23
  refine Goes.to (T' := T25) (mkF m 57 #[.val (.int p1), .val (.ref b1), .unset, .unset, .unset] [(.ref b23)]) st25 ?_
  refine Goes.to (T' := T25) (mkF m 58 #[.val (.int p1), .val (.ref b1), .unset, .unset, .unset] [(.ref b23), (.ref b23)]) (fun t k => XS.dup X25.here hx rfl (hb hby at_57) rfl rfl k) ?_
  refine Goes.to (T' := T25) (mkF m 59 #[.val (.int p1), .val (.ref b1), .unset, .unset, .unset] [(.int (1 : Int32)), (.ref b23), (.ref b23)]) (fun t k => XS.iconst X25.here hx rfl (hb hby at_58) k) ?_
  refine Goes.to (T' := T25) (mkF m 60 #[.val (.int p1), .val (.ref b1), .unset, .unset, .unset] [(.int (1 : Int32)), (.int (1 : Int32)), (.ref b23), (.ref b23)]) (fun t k => XS.iconst X25.here hx rfl (hb hby at_59) k) ?_
  obtain ⟨cl26, Ar26, q26, S26, M26, H26, G26⟩ := V_b23
  have hin26 : ¬ ((1 : Int32) < 0 ∨ cl26.slots.size ≤ ((1 : Int32)).toNatClampNeg) := inb_of S26 ⟨by decide, by decide⟩
  obtain ⟨T27, h27, X27, e27, W27, st27⟩ := stZ X25 hx hZ e25 Ar26 (j := (1 : Int32)) hin26 (g := (mkF m 60 #[.val (.int p1), .val (.ref b1), .unset, .unset, .unset] [(.int (1 : Int32)), (.int (1 : Int32)), (.ref b23), (.ref b23)])) rfl rfl (hb hby at_60)
  have V_b23 : Arv Z h27 b23 k23 .boolean (7 : Int32) [(.int (nar .boolean (1 : Int32))), (.int (nar .boolean (1 : Int32))), (.int (0 : Int32)), (.int (0 : Int32)), (.int (0 : Int32)), (.int (0 : Int32)), (.int (0 : Int32))] (.int (0 : Int32)) := Arv.set Ar26 q26 S26 M26 H26 G26 (fits_nar_bool _) W27 1 rfl (Nat.le_of_ble_eq_true rfl)
  replace V_b1 := V_b1.other W27 ne_b1_b23
  replace O := O.wr W27 g_b23
  have N27 := Fr.snoc X27 N25 g_b23
  refine Goes.to (T' := T27) (mkF m 61 #[.val (.int p1), .val (.ref b1), .unset, .unset, .unset] [(.ref b23)]) st27 ?_
  refine Goes.to (T' := T27) (mkF m 62 #[.val (.int p1), .val (.ref b1), .unset, .unset, .unset] [(.ref b23), (.ref b23)]) (fun t k => XS.dup X27.here hx rfl (hb hby at_61) rfl rfl k) ?_
  refine Goes.to (T' := T27) (mkF m 63 #[.val (.int p1), .val (.ref b1), .unset, .unset, .unset] [(.int (2 : Int32)), (.ref b23), (.ref b23)]) (fun t k => XS.iconst X27.here hx rfl (hb hby at_62) k) ?_
  refine Goes.to (T' := T27) (mkF m 64 #[.val (.int p1), .val (.ref b1), .unset, .unset, .unset] [(.int (1 : Int32)), (.int (2 : Int32)), (.ref b23), (.ref b23)]) (fun t k => XS.iconst X27.here hx rfl (hb hby at_63) k) ?_
  obtain ⟨cl28, Ar28, q28, S28, M28, H28, G28⟩ := V_b23
  have hin28 : ¬ ((2 : Int32) < 0 ∨ cl28.slots.size ≤ ((2 : Int32)).toNatClampNeg) := inb_of S28 ⟨by decide, by decide⟩
  obtain ⟨T29, h29, X29, e29, W29, st29⟩ := stZ X27 hx hZ e27 Ar28 (j := (2 : Int32)) hin28 (g := (mkF m 64 #[.val (.int p1), .val (.ref b1), .unset, .unset, .unset] [(.int (1 : Int32)), (.int (2 : Int32)), (.ref b23), (.ref b23)])) rfl rfl (hb hby at_64)
  have V_b23 : Arv Z h29 b23 k23 .boolean (7 : Int32) [(.int (nar .boolean (1 : Int32))), (.int (nar .boolean (1 : Int32))), (.int (nar .boolean (1 : Int32))), (.int (0 : Int32)), (.int (0 : Int32)), (.int (0 : Int32)), (.int (0 : Int32))] (.int (0 : Int32)) := Arv.set Ar28 q28 S28 M28 H28 G28 (fits_nar_bool _) W29 2 rfl (Nat.le_of_ble_eq_true rfl)
  replace V_b1 := V_b1.other W29 ne_b1_b23
  replace O := O.wr W29 g_b23
  have N29 := Fr.snoc X29 N27 g_b23
  refine Goes.to (T' := T29) (mkF m 65 #[.val (.int p1), .val (.ref b1), .unset, .unset, .unset] [(.ref b23)]) st29 ?_
  refine Goes.to (T' := T29) (mkF m 66 #[.val (.int p1), .val (.ref b1), .unset, .unset, .unset] [(.ref b23), (.ref b23)]) (fun t k => XS.dup X29.here hx rfl (hb hby at_65) rfl rfl k) ?_
  refine Goes.to (T' := T29) (mkF m 67 #[.val (.int p1), .val (.ref b1), .unset, .unset, .unset] [(.int (3 : Int32)), (.ref b23), (.ref b23)]) (fun t k => XS.iconst X29.here hx rfl (hb hby at_66) k) ?_
  refine Goes.to (T' := T29) (mkF m 68 #[.val (.int p1), .val (.ref b1), .unset, .unset, .unset] [(.int (1 : Int32)), (.int (3 : Int32)), (.ref b23), (.ref b23)]) (fun t k => XS.iconst X29.here hx rfl (hb hby at_67) k) ?_
  obtain ⟨cl30, Ar30, q30, S30, M30, H30, G30⟩ := V_b23
  have hin30 : ¬ ((3 : Int32) < 0 ∨ cl30.slots.size ≤ ((3 : Int32)).toNatClampNeg) := inb_of S30 ⟨by decide, by decide⟩
  obtain ⟨T31, h31, X31, e31, W31, st31⟩ := stZ X29 hx hZ e29 Ar30 (j := (3 : Int32)) hin30 (g := (mkF m 68 #[.val (.int p1), .val (.ref b1), .unset, .unset, .unset] [(.int (1 : Int32)), (.int (3 : Int32)), (.ref b23), (.ref b23)])) rfl rfl (hb hby at_68)
  have V_b23 : Arv Z h31 b23 k23 .boolean (7 : Int32) [(.int (nar .boolean (1 : Int32))), (.int (nar .boolean (1 : Int32))), (.int (nar .boolean (1 : Int32))), (.int (nar .boolean (1 : Int32))), (.int (0 : Int32)), (.int (0 : Int32)), (.int (0 : Int32))] (.int (0 : Int32)) := Arv.set Ar30 q30 S30 M30 H30 G30 (fits_nar_bool _) W31 3 rfl (Nat.le_of_ble_eq_true rfl)
  replace V_b1 := V_b1.other W31 ne_b1_b23
  replace O := O.wr W31 g_b23
  have N31 := Fr.snoc X31 N29 g_b23
  refine Goes.to (T' := T31) (mkF m 69 #[.val (.int p1), .val (.ref b1), .unset, .unset, .unset] [(.ref b23)]) st31 ?_
  refine Goes.to (T' := T31) (mkF m 70 #[.val (.int p1), .val (.ref b1), .unset, .unset, .unset] [(.ref b23), (.ref b23)]) (fun t k => XS.dup X31.here hx rfl (hb hby at_69) rfl rfl k) ?_
  refine Goes.to (T' := T31) (mkF m 71 #[.val (.int p1), .val (.ref b1), .unset, .unset, .unset] [(.int (4 : Int32)), (.ref b23), (.ref b23)]) (fun t k => XS.iconst X31.here hx rfl (hb hby at_70) k) ?_
  refine Goes.to (T' := T31) (mkF m 72 #[.val (.int p1), .val (.ref b1), .unset, .unset, .unset] [(.int (1 : Int32)), (.int (4 : Int32)), (.ref b23), (.ref b23)]) (fun t k => XS.iconst X31.here hx rfl (hb hby at_71) k) ?_
  obtain ⟨cl32, Ar32, q32, S32, M32, H32, G32⟩ := V_b23
  have hin32 : ¬ ((4 : Int32) < 0 ∨ cl32.slots.size ≤ ((4 : Int32)).toNatClampNeg) := inb_of S32 ⟨by decide, by decide⟩
  obtain ⟨T33, h33, X33, e33, W33, st33⟩ := stZ X31 hx hZ e31 Ar32 (j := (4 : Int32)) hin32 (g := (mkF m 72 #[.val (.int p1), .val (.ref b1), .unset, .unset, .unset] [(.int (1 : Int32)), (.int (4 : Int32)), (.ref b23), (.ref b23)])) rfl rfl (hb hby at_72)
  have V_b23 : Arv Z h33 b23 k23 .boolean (7 : Int32) [(.int (nar .boolean (1 : Int32))), (.int (nar .boolean (1 : Int32))), (.int (nar .boolean (1 : Int32))), (.int (nar .boolean (1 : Int32))), (.int (nar .boolean (1 : Int32))), (.int (0 : Int32)), (.int (0 : Int32))] (.int (0 : Int32)) := Arv.set Ar32 q32 S32 M32 H32 G32 (fits_nar_bool _) W33 4 rfl (Nat.le_of_ble_eq_true rfl)
  replace V_b1 := V_b1.other W33 ne_b1_b23
  replace O := O.wr W33 g_b23
  have N33 := Fr.snoc X33 N31 g_b23
  refine Goes.to (T' := T33) (mkF m 73 #[.val (.int p1), .val (.ref b1), .unset, .unset, .unset] [(.ref b23)]) st33 ?_
  refine Goes.to (T' := T33) (mkF m 74 #[.val (.int p1), .val (.ref b1), .unset, .unset, .unset] [(.ref b23), (.ref b23)]) (fun t k => XS.dup X33.here hx rfl (hb hby at_73) rfl rfl k) ?_
  refine Goes.to (T' := T33) (mkF m 75 #[.val (.int p1), .val (.ref b1), .unset, .unset, .unset] [(.int (5 : Int32)), (.ref b23), (.ref b23)]) (fun t k => XS.iconst X33.here hx rfl (hb hby at_74) k) ?_
  refine Goes.to (T' := T33) (mkF m 76 #[.val (.int p1), .val (.ref b1), .unset, .unset, .unset] [(.int (1 : Int32)), (.int (5 : Int32)), (.ref b23), (.ref b23)]) (fun t k => XS.iconst X33.here hx rfl (hb hby at_75) k) ?_
  obtain ⟨cl34, Ar34, q34, S34, M34, H34, G34⟩ := V_b23
  have hin34 : ¬ ((5 : Int32) < 0 ∨ cl34.slots.size ≤ ((5 : Int32)).toNatClampNeg) := inb_of S34 ⟨by decide, by decide⟩
  obtain ⟨T35, h35, X35, e35, W35, st35⟩ := stZ X33 hx hZ e33 Ar34 (j := (5 : Int32)) hin34 (g := (mkF m 76 #[.val (.int p1), .val (.ref b1), .unset, .unset, .unset] [(.int (1 : Int32)), (.int (5 : Int32)), (.ref b23), (.ref b23)])) rfl rfl (hb hby at_76)
  have V_b23 : Arv Z h35 b23 k23 .boolean (7 : Int32) [(.int (nar .boolean (1 : Int32))), (.int (nar .boolean (1 : Int32))), (.int (nar .boolean (1 : Int32))), (.int (nar .boolean (1 : Int32))), (.int (nar .boolean (1 : Int32))), (.int (nar .boolean (1 : Int32))), (.int (0 : Int32))] (.int (0 : Int32)) := Arv.set Ar34 q34 S34 M34 H34 G34 (fits_nar_bool _) W35 5 rfl (Nat.le_of_ble_eq_true rfl)
  replace V_b1 := V_b1.other W35 ne_b1_b23
  replace O := O.wr W35 g_b23
  have N35 := Fr.snoc X35 N33 g_b23
  refine Goes.to (T' := T35) (mkF m 77 #[.val (.int p1), .val (.ref b1), .unset, .unset, .unset] [(.ref b23)]) st35 ?_
  refine Goes.to (T' := T35) (mkF m 78 #[.val (.int p1), .val (.ref b1), .unset, .unset, .unset] [(.ref b23), (.ref b23)]) (fun t k => XS.dup X35.here hx rfl (hb hby at_77) rfl rfl k) ?_
  refine Goes.to (T' := T35) (mkF m 80 #[.val (.int p1), .val (.ref b1), .unset, .unset, .unset] [(.int (6 : Int32)), (.ref b23), (.ref b23)]) (fun t k => XS.bipush X35.here hx rfl (hb hby at_78) k) ?_
  refine Goes.to (T' := T35) (mkF m 81 #[.val (.int p1), .val (.ref b1), .unset, .unset, .unset] [(.int (0 : Int32)), (.int (6 : Int32)), (.ref b23), (.ref b23)]) (fun t k => XS.iconst X35.here hx rfl (hb hby at_80) k) ?_
  obtain ⟨cl36, Ar36, q36, S36, M36, H36, G36⟩ := V_b23
  have hin36 : ¬ ((6 : Int32) < 0 ∨ cl36.slots.size ≤ ((6 : Int32)).toNatClampNeg) := inb_of S36 ⟨by decide, by decide⟩
  obtain ⟨T37, h37, X37, e37, W37, st37⟩ := stZ X35 hx hZ e35 Ar36 (j := (6 : Int32)) hin36 (g := (mkF m 81 #[.val (.int p1), .val (.ref b1), .unset, .unset, .unset] [(.int (0 : Int32)), (.int (6 : Int32)), (.ref b23), (.ref b23)])) rfl rfl (hb hby at_81)
  have V_b23 : Arv Z h37 b23 k23 .boolean (7 : Int32) [(.int (nar .boolean (1 : Int32))), (.int (nar .boolean (1 : Int32))), (.int (nar .boolean (1 : Int32))), (.int (nar .boolean (1 : Int32))), (.int (nar .boolean (1 : Int32))), (.int (nar .boolean (1 : Int32))), (.int (nar .boolean (0 : Int32)))] (.int (0 : Int32)) := Arv.set Ar36 q36 S36 M36 H36 G36 (fits_nar_bool _) W37 6 rfl (Nat.le_of_ble_eq_true rfl)
  replace V_b1 := V_b1.other W37 ne_b1_b23
  replace O := O.wr W37 g_b23
  have N37 := Fr.snoc X37 N35 g_b23
  refine Goes.to (T' := T37) (mkF m 82 #[.val (.int p1), .val (.ref b1), .unset, .unset, .unset] [(.ref b23)]) st37 ?_
  refine Goes.to (T' := T37) (mkF m 83 #[.val (.int p1), .val (.ref b1), .val (.ref b23), .unset, .unset] []) (fun t k => XS.astoreN X37.here hx rfl (hb hby at_82) rfl rfl (l' := #[.val (.int p1), .val (.ref b1), .val (.ref b23), .unset, .unset]) rfl k) ?_
  refine Goes.to (T' := T37) (mkF m 84 #[.val (.int p1), .val (.ref b1), .val (.ref b23), .unset, .unset] [(.int p1)]) (fun t k => XS.iloadN X37.here hx rfl (hb hby at_83) rfl k) ?_
  refine Goes.to (T' := T37) (mkF m 86 #[.val (.int p1), .val (.ref b1), .val (.ref b23), .unset, .unset] [(.int (2147483647 : Int32)), (.int p1)]) (fun t k => X37.ldcInt hx hown (mvT hZ (hw _ (List.mem_of_getElem? (i := 19) rfl))) (g := (mkF m 84 #[.val (.int p1), .val (.ref b1), .val (.ref b23), .unset, .unset] [(.int p1)])) rfl (hb hby at_84) _ k) ?_
  refine Goes.to (T' := T37) (mkF m 87 #[.val (.int p1), .val (.ref b1), .val (.ref b23), .unset, .unset] [(.int (p1 &&& (2147483647 : Int32)))]) (fun t k => XS.iand X37.here hx rfl (hb hby at_86) rfl k) ?_
  refine Goes.to (T' := T37) (mkF m 89 #[.val (.int p1), .val (.ref b1), .val (.ref b23), .unset, .unset] [(.int (7 : Int32)), (.int (p1 &&& (2147483647 : Int32)))]) (fun t k => XS.bipush X37.here hx rfl (hb hby at_87) k) ?_
  refine Goes.to (T' := T37) (mkF m 90 #[.val (.int p1), .val (.ref b1), .val (.ref b23), .unset, .unset] [(.int ((p1 &&& (2147483647 : Int32)) - ((p1 &&& (2147483647 : Int32)) / (7 : Int32)) * (7 : Int32)))]) (fun t k => XS.irem X37.here hx rfl (hb hby at_89) rfl (by decide) k) ?_
  refine Goes.to (T' := T37) (mkF m 91 #[.val (.int p1), .val (.ref b1), .val (.ref b23), .val (.int ((p1 &&& (2147483647 : Int32)) - ((p1 &&& (2147483647 : Int32)) / (7 : Int32)) * (7 : Int32))), .unset] []) (fun t k => XS.istoreN X37.here hx rfl (hb hby at_90) rfl (l' := #[.val (.int p1), .val (.ref b1), .val (.ref b23), .val (.int ((p1 &&& (2147483647 : Int32)) - ((p1 &&& (2147483647 : Int32)) / (7 : Int32)) * (7 : Int32))), .unset]) rfl k) ?_
  rw [irem_eq_mod]
  rcases own_mod7 p1 with hk | hk | hk | hk | hk | hk | hk
  · rw [hk]
    refine Goes.to (T' := T37) (mkF m 92 #[.val (.int p1), .val (.ref b1), .val (.ref b23), .val (.int (0 : Int32)), .unset] [(.ref b1)]) (fun t k => XS.aloadN X37.here hx rfl (hb hby at_91) rfl rfl k) ?_
    refine Goes.to (T' := T37) (mkF m 93 #[.val (.int p1), .val (.ref b1), .val (.ref b23), .val (.int (0 : Int32)), .unset] [(.int (0 : Int32)), (.ref b1)]) (fun t k => XS.iloadN X37.here hx rfl (hb hby at_92) rfl k) ?_
    have V'_b1 := V_b1
    obtain ⟨cl38, Ar38, -, S38, M38, H38, -⟩ := V'_b1
    have hin38 : ¬ ((0 : Int32) < 0 ∨ cl38.slots.size ≤ ((0 : Int32)).toNatClampNeg) := inb_of S38 ⟨by decide, by decide⟩
    have hat38 : cl38.slots[((0 : Int32)).toNatClampNeg]? = some (.ref a_ERR) := H38.at hin38 rfl
    refine Goes.to (T' := T37) (mkF m 94 #[.val (.int p1), .val (.ref b1), .val (.ref b23), .val (.int (0 : Int32)), .unset] [(.ref a_ERR)]) (fun t k => X37.aaload hx (j := (0 : Int32)) (v := (.ref a_ERR)) (by rw [e37]; exact Ar38.1) (State.isArrayOf_alike hZ.alike Ar38.2.1) rfl Ar38.2.2 hin38 hat38 (g := (mkF m 93 #[.val (.int p1), .val (.ref b1), .val (.ref b23), .val (.int (0 : Int32)), .unset] [(.int (0 : Int32)), (.ref b1)])) rfl rfl (hb hby at_93) _ k) ?_
    refine Goes.to (T' := T37) (mkF m 96 #[.val (.int p1), .val (.ref b1), .val (.ref b23), .val (.int (0 : Int32)), .val (.ref a_ERR)] []) (fun t k => XS.astore X37.here hx rfl (hb hby at_94) rfl rfl (l' := #[.val (.int p1), .val (.ref b1), .val (.ref b23), .val (.int (0 : Int32)), .val (.ref a_ERR)]) rfl k) ?_
    refine Goes.to (T' := T37) (mkF m 98 #[.val (.int p1), .val (.ref b1), .val (.ref b23), .val (.int (0 : Int32)), .val (.ref a_ERR)] [(.ref a_ERR)]) (fun t k => XS.aload X37.here hx rfl (hb hby at_96) rfl rfl k) ?_
    obtain ⟨cq39, kq39, q39a, q39b, q39c⟩ := isOf hZ e37 (E_ERR.ext O.2)
    obtain ⟨_, _, ⟨T39, L39, k39, n39⟩, -, X39, ⟨Lc39, hQ39, l39, y39, z39⟩, st39⟩ := X37.virtualBack hx (y := (⟨"com/example/eelgrass/eelgrass/sync/SyncErrorCode", "isError", "()Z"⟩ : MethodName)) (z := (⟨"com/example/eelgrass/eelgrass/sync/SyncErrorCode", "isError", "()Z"⟩ : MethodName)) hown (mvT hZ (hw _ (List.mem_of_getElem? (i := 20) rfl))) (mvT hZ (hw _ (List.mem_of_getElem? (i := 21) rfl))) (notFace_of_selects (args := #[]) (mvT hZ (hw _ (List.mem_of_getElem? (i := 23) rfl)))) (mvT hZ (hw _ (List.mem_of_getElem? (i := 23) rfl))) (mvT hZ (hw _ (List.mem_of_getElem? (i := 22) rfl))) (by decide) (backOf (W := 0) (rm_isError l Z a0 hw [] a_ERR a_MEM h37 n0 O S_MEM) hZ (hw _ (List.mem_of_getElem? (i := 24) rfl)) (hw _ (List.mem_of_getElem? (i := 3) rfl)) (by decide) (by decide)) q39a q39c (g := (mkF m 98 #[.val (.int p1), .val (.ref b1), .val (.ref b23), .val (.int (0 : Int32)), .val (.ref a_ERR)] [(.ref a_ERR)])) rfl (by rw [hml]; rfl) (Steps.refl _) (argsL := []) (rest := []) (lenOf pd_0 rfl) rfl (by show 2 * 0 + _ ≤ _; exact Nat.le_of_eq rfl) (hb hby at_98) (fun _ _ => ⟨rfl, e37, (by decide : 2 + 0 ≤ _), (by decide : 14 + 0 ≤ _)⟩)
    dsimp only [Pt.U, Pt.locs, Pt.cells, Pt.slots] at X39 l39 y39 z39 st39 hQ39
    subst l39 y39 z39
    obtain ⟨rfl, N39, hs39⟩ := hQ39
    have N39' := Fr.app N37 N39
    refine Goes.to (T' := T39) (mkF m 101 #[.val (.int p1), .val (.ref b1), .val (.ref b23), .val (.int (0 : Int32)), .val (.ref a_ERR)] [(.int (bit (¬ a_ERR = a_MEM)))]) (fun t k => st39.trans k) ?_
    refine Goes.to (T' := T39) (mkF m 102 #[.val (.int p1), .val (.ref b1), .val (.ref b23), .val (.int (0 : Int32)), .val (.ref a_ERR)] [(.ref b23), (.int (bit (¬ a_ERR = a_MEM)))]) (fun t k => XS.aloadN X39.here hx rfl (hb hby at_101) rfl rfl k) ?_
    refine Goes.to (T' := T39) (mkF m 103 #[.val (.int p1), .val (.ref b1), .val (.ref b23), .val (.int (0 : Int32)), .val (.ref a_ERR)] [(.int (0 : Int32)), (.ref b23), (.int (bit (¬ a_ERR = a_MEM)))]) (fun t k => XS.iloadN X39.here hx rfl (hb hby at_102) rfl k) ?_
    have V'_b23 := V_b23
    obtain ⟨cl40, Ar40, -, S40, M40, H40, -⟩ := V'_b23
    have hin40 : ¬ ((0 : Int32) < 0 ∨ cl40.slots.size ≤ ((0 : Int32)).toNatClampNeg) := inb_of S40 ⟨by decide, by decide⟩
    have hat40 : cl40.slots[((0 : Int32)).toNatClampNeg]? = some (.int (nar .boolean (1 : Int32))) := H40.at hin40 rfl
    refine Goes.to (T' := T39) (mkF m 104 #[.val (.int p1), .val (.ref b1), .val (.ref b23), .val (.int (0 : Int32)), .val (.ref a_ERR)] [(.int (nar .boolean (1 : Int32))), (.int (bit (¬ a_ERR = a_MEM)))]) (fun t k => X39.baloadBooleans hx (j := (0 : Int32)) (v := (.int (nar .boolean (1 : Int32)))) (by rw [hs39]; exact Ar40.1) (State.isArrayOf_alike hZ.alike Ar40.2.1) Ar40.2.2 hin40 hat40 (g := (mkF m 103 #[.val (.int p1), .val (.ref b1), .val (.ref b23), .val (.int (0 : Int32)), .val (.ref a_ERR)] [(.int (0 : Int32)), (.ref b23), (.int (bit (¬ a_ERR = a_MEM)))])) rfl rfl (hb hby at_103) _ k) ?_
    refine Goes.to (T' := T39) (mkF m 107 #[.val (.int p1), .val (.ref b1), .val (.ref b23), .val (.int (0 : Int32)), .val (.ref a_ERR)] []) (fun t k => XS.icmpNo X39.here hx rfl (hb hby at_104) rfl (teq ((bit_t ne_ERR).trans (by decide) : (bit (¬ a_ERR = a_MEM)) = (nar .boolean (1 : Int32)))).2 k) ?_
    refine Goes.to (T' := T39) (mkF m 108 #[.val (.int p1), .val (.ref b1), .val (.ref b23), .val (.int (0 : Int32)), .val (.ref a_ERR)] [(.int (1 : Int32))]) (fun t k => XS.iconst X39.here hx rfl (hb hby at_107) k) ?_
    refine Goes.to (T' := T39) (mkF m 112 #[.val (.int p1), .val (.ref b1), .val (.ref b23), .val (.int (0 : Int32)), .val (.ref a_ERR)] [(.int (1 : Int32))]) (fun t k => XS.goto X39.here hx rfl (pc0 := 108) (pc' := 112) rfl (hb hby at_108) (by decide) (by decide) k) ?_
    refine Goes.retN X39 hx Bd.notSynchronized (t := .boolean) Bd.returns (by simp) (hb hby at_112) (by decide) (by decide) ?_
    rw [hs39]
    exact ⟨rfl, N39'⟩
  · rw [hk]
    refine Goes.to (T' := T37) (mkF m 92 #[.val (.int p1), .val (.ref b1), .val (.ref b23), .val (.int (1 : Int32)), .unset] [(.ref b1)]) (fun t k => XS.aloadN X37.here hx rfl (hb hby at_91) rfl rfl k) ?_
    refine Goes.to (T' := T37) (mkF m 93 #[.val (.int p1), .val (.ref b1), .val (.ref b23), .val (.int (1 : Int32)), .unset] [(.int (1 : Int32)), (.ref b1)]) (fun t k => XS.iloadN X37.here hx rfl (hb hby at_92) rfl k) ?_
    have V'_b1 := V_b1
    obtain ⟨cl41, Ar41, -, S41, M41, H41, -⟩ := V'_b1
    have hin41 : ¬ ((1 : Int32) < 0 ∨ cl41.slots.size ≤ ((1 : Int32)).toNatClampNeg) := inb_of S41 ⟨by decide, by decide⟩
    have hat41 : cl41.slots[((1 : Int32)).toNatClampNeg]? = some (.ref a_INV) := H41.at hin41 rfl
    refine Goes.to (T' := T37) (mkF m 94 #[.val (.int p1), .val (.ref b1), .val (.ref b23), .val (.int (1 : Int32)), .unset] [(.ref a_INV)]) (fun t k => X37.aaload hx (j := (1 : Int32)) (v := (.ref a_INV)) (by rw [e37]; exact Ar41.1) (State.isArrayOf_alike hZ.alike Ar41.2.1) rfl Ar41.2.2 hin41 hat41 (g := (mkF m 93 #[.val (.int p1), .val (.ref b1), .val (.ref b23), .val (.int (1 : Int32)), .unset] [(.int (1 : Int32)), (.ref b1)])) rfl rfl (hb hby at_93) _ k) ?_
    refine Goes.to (T' := T37) (mkF m 96 #[.val (.int p1), .val (.ref b1), .val (.ref b23), .val (.int (1 : Int32)), .val (.ref a_INV)] []) (fun t k => XS.astore X37.here hx rfl (hb hby at_94) rfl rfl (l' := #[.val (.int p1), .val (.ref b1), .val (.ref b23), .val (.int (1 : Int32)), .val (.ref a_INV)]) rfl k) ?_
    refine Goes.to (T' := T37) (mkF m 98 #[.val (.int p1), .val (.ref b1), .val (.ref b23), .val (.int (1 : Int32)), .val (.ref a_INV)] [(.ref a_INV)]) (fun t k => XS.aload X37.here hx rfl (hb hby at_96) rfl rfl k) ?_
    obtain ⟨cq42, kq42, q42a, q42b, q42c⟩ := isOf hZ e37 (E_INV.ext O.2)
    obtain ⟨_, _, ⟨T42, L42, k42, n42⟩, -, X42, ⟨Lc42, hQ42, l42, y42, z42⟩, st42⟩ := X37.virtualBack hx (y := (⟨"com/example/eelgrass/eelgrass/sync/SyncErrorCode", "isError", "()Z"⟩ : MethodName)) (z := (⟨"com/example/eelgrass/eelgrass/sync/SyncErrorCode", "isError", "()Z"⟩ : MethodName)) hown (mvT hZ (hw _ (List.mem_of_getElem? (i := 20) rfl))) (mvT hZ (hw _ (List.mem_of_getElem? (i := 21) rfl))) (notFace_of_selects (args := #[]) (mvT hZ (hw _ (List.mem_of_getElem? (i := 23) rfl)))) (mvT hZ (hw _ (List.mem_of_getElem? (i := 23) rfl))) (mvT hZ (hw _ (List.mem_of_getElem? (i := 22) rfl))) (by decide) (backOf (W := 0) (rm_isError l Z a0 hw [] a_INV a_MEM h37 n0 O S_MEM) hZ (hw _ (List.mem_of_getElem? (i := 24) rfl)) (hw _ (List.mem_of_getElem? (i := 3) rfl)) (by decide) (by decide)) q42a q42c (g := (mkF m 98 #[.val (.int p1), .val (.ref b1), .val (.ref b23), .val (.int (1 : Int32)), .val (.ref a_INV)] [(.ref a_INV)])) rfl (by rw [hml]; rfl) (Steps.refl _) (argsL := []) (rest := []) (lenOf pd_0 rfl) rfl (by show 2 * 0 + _ ≤ _; exact Nat.le_of_eq rfl) (hb hby at_98) (fun _ _ => ⟨rfl, e37, (by decide : 2 + 0 ≤ _), (by decide : 14 + 0 ≤ _)⟩)
    dsimp only [Pt.U, Pt.locs, Pt.cells, Pt.slots] at X42 l42 y42 z42 st42 hQ42
    subst l42 y42 z42
    obtain ⟨rfl, N42, hs42⟩ := hQ42
    have N42' := Fr.app N37 N42
    refine Goes.to (T' := T42) (mkF m 101 #[.val (.int p1), .val (.ref b1), .val (.ref b23), .val (.int (1 : Int32)), .val (.ref a_INV)] [(.int (bit (¬ a_INV = a_MEM)))]) (fun t k => st42.trans k) ?_
    refine Goes.to (T' := T42) (mkF m 102 #[.val (.int p1), .val (.ref b1), .val (.ref b23), .val (.int (1 : Int32)), .val (.ref a_INV)] [(.ref b23), (.int (bit (¬ a_INV = a_MEM)))]) (fun t k => XS.aloadN X42.here hx rfl (hb hby at_101) rfl rfl k) ?_
    refine Goes.to (T' := T42) (mkF m 103 #[.val (.int p1), .val (.ref b1), .val (.ref b23), .val (.int (1 : Int32)), .val (.ref a_INV)] [(.int (1 : Int32)), (.ref b23), (.int (bit (¬ a_INV = a_MEM)))]) (fun t k => XS.iloadN X42.here hx rfl (hb hby at_102) rfl k) ?_
    have V'_b23 := V_b23
    obtain ⟨cl43, Ar43, -, S43, M43, H43, -⟩ := V'_b23
    have hin43 : ¬ ((1 : Int32) < 0 ∨ cl43.slots.size ≤ ((1 : Int32)).toNatClampNeg) := inb_of S43 ⟨by decide, by decide⟩
    have hat43 : cl43.slots[((1 : Int32)).toNatClampNeg]? = some (.int (nar .boolean (1 : Int32))) := H43.at hin43 rfl
    refine Goes.to (T' := T42) (mkF m 104 #[.val (.int p1), .val (.ref b1), .val (.ref b23), .val (.int (1 : Int32)), .val (.ref a_INV)] [(.int (nar .boolean (1 : Int32))), (.int (bit (¬ a_INV = a_MEM)))]) (fun t k => X42.baloadBooleans hx (j := (1 : Int32)) (v := (.int (nar .boolean (1 : Int32)))) (by rw [hs42]; exact Ar43.1) (State.isArrayOf_alike hZ.alike Ar43.2.1) Ar43.2.2 hin43 hat43 (g := (mkF m 103 #[.val (.int p1), .val (.ref b1), .val (.ref b23), .val (.int (1 : Int32)), .val (.ref a_INV)] [(.int (1 : Int32)), (.ref b23), (.int (bit (¬ a_INV = a_MEM)))])) rfl rfl (hb hby at_103) _ k) ?_
    refine Goes.to (T' := T42) (mkF m 107 #[.val (.int p1), .val (.ref b1), .val (.ref b23), .val (.int (1 : Int32)), .val (.ref a_INV)] []) (fun t k => XS.icmpNo X42.here hx rfl (hb hby at_104) rfl (teq ((bit_t ne_INV).trans (by decide) : (bit (¬ a_INV = a_MEM)) = (nar .boolean (1 : Int32)))).2 k) ?_
    refine Goes.to (T' := T42) (mkF m 108 #[.val (.int p1), .val (.ref b1), .val (.ref b23), .val (.int (1 : Int32)), .val (.ref a_INV)] [(.int (1 : Int32))]) (fun t k => XS.iconst X42.here hx rfl (hb hby at_107) k) ?_
    refine Goes.to (T' := T42) (mkF m 112 #[.val (.int p1), .val (.ref b1), .val (.ref b23), .val (.int (1 : Int32)), .val (.ref a_INV)] [(.int (1 : Int32))]) (fun t k => XS.goto X42.here hx rfl (pc0 := 108) (pc' := 112) rfl (hb hby at_108) (by decide) (by decide) k) ?_
    refine Goes.retN X42 hx Bd.notSynchronized (t := .boolean) Bd.returns (by simp) (hb hby at_112) (by decide) (by decide) ?_
    rw [hs42]
    exact ⟨rfl, N42'⟩
  · rw [hk]
    refine Goes.to (T' := T37) (mkF m 92 #[.val (.int p1), .val (.ref b1), .val (.ref b23), .val (.int (2 : Int32)), .unset] [(.ref b1)]) (fun t k => XS.aloadN X37.here hx rfl (hb hby at_91) rfl rfl k) ?_
    refine Goes.to (T' := T37) (mkF m 93 #[.val (.int p1), .val (.ref b1), .val (.ref b23), .val (.int (2 : Int32)), .unset] [(.int (2 : Int32)), (.ref b1)]) (fun t k => XS.iloadN X37.here hx rfl (hb hby at_92) rfl k) ?_
    have V'_b1 := V_b1
    obtain ⟨cl44, Ar44, -, S44, M44, H44, -⟩ := V'_b1
    have hin44 : ¬ ((2 : Int32) < 0 ∨ cl44.slots.size ≤ ((2 : Int32)).toNatClampNeg) := inb_of S44 ⟨by decide, by decide⟩
    have hat44 : cl44.slots[((2 : Int32)).toNatClampNeg]? = some (.ref a_LEN) := H44.at hin44 rfl
    refine Goes.to (T' := T37) (mkF m 94 #[.val (.int p1), .val (.ref b1), .val (.ref b23), .val (.int (2 : Int32)), .unset] [(.ref a_LEN)]) (fun t k => X37.aaload hx (j := (2 : Int32)) (v := (.ref a_LEN)) (by rw [e37]; exact Ar44.1) (State.isArrayOf_alike hZ.alike Ar44.2.1) rfl Ar44.2.2 hin44 hat44 (g := (mkF m 93 #[.val (.int p1), .val (.ref b1), .val (.ref b23), .val (.int (2 : Int32)), .unset] [(.int (2 : Int32)), (.ref b1)])) rfl rfl (hb hby at_93) _ k) ?_
    refine Goes.to (T' := T37) (mkF m 96 #[.val (.int p1), .val (.ref b1), .val (.ref b23), .val (.int (2 : Int32)), .val (.ref a_LEN)] []) (fun t k => XS.astore X37.here hx rfl (hb hby at_94) rfl rfl (l' := #[.val (.int p1), .val (.ref b1), .val (.ref b23), .val (.int (2 : Int32)), .val (.ref a_LEN)]) rfl k) ?_
    refine Goes.to (T' := T37) (mkF m 98 #[.val (.int p1), .val (.ref b1), .val (.ref b23), .val (.int (2 : Int32)), .val (.ref a_LEN)] [(.ref a_LEN)]) (fun t k => XS.aload X37.here hx rfl (hb hby at_96) rfl rfl k) ?_
    obtain ⟨cq45, kq45, q45a, q45b, q45c⟩ := isOf hZ e37 (E_LEN.ext O.2)
    obtain ⟨_, _, ⟨T45, L45, k45, n45⟩, -, X45, ⟨Lc45, hQ45, l45, y45, z45⟩, st45⟩ := X37.virtualBack hx (y := (⟨"com/example/eelgrass/eelgrass/sync/SyncErrorCode", "isError", "()Z"⟩ : MethodName)) (z := (⟨"com/example/eelgrass/eelgrass/sync/SyncErrorCode", "isError", "()Z"⟩ : MethodName)) hown (mvT hZ (hw _ (List.mem_of_getElem? (i := 20) rfl))) (mvT hZ (hw _ (List.mem_of_getElem? (i := 21) rfl))) (notFace_of_selects (args := #[]) (mvT hZ (hw _ (List.mem_of_getElem? (i := 23) rfl)))) (mvT hZ (hw _ (List.mem_of_getElem? (i := 23) rfl))) (mvT hZ (hw _ (List.mem_of_getElem? (i := 22) rfl))) (by decide) (backOf (W := 0) (rm_isError l Z a0 hw [] a_LEN a_MEM h37 n0 O S_MEM) hZ (hw _ (List.mem_of_getElem? (i := 24) rfl)) (hw _ (List.mem_of_getElem? (i := 3) rfl)) (by decide) (by decide)) q45a q45c (g := (mkF m 98 #[.val (.int p1), .val (.ref b1), .val (.ref b23), .val (.int (2 : Int32)), .val (.ref a_LEN)] [(.ref a_LEN)])) rfl (by rw [hml]; rfl) (Steps.refl _) (argsL := []) (rest := []) (lenOf pd_0 rfl) rfl (by show 2 * 0 + _ ≤ _; exact Nat.le_of_eq rfl) (hb hby at_98) (fun _ _ => ⟨rfl, e37, (by decide : 2 + 0 ≤ _), (by decide : 14 + 0 ≤ _)⟩)
    dsimp only [Pt.U, Pt.locs, Pt.cells, Pt.slots] at X45 l45 y45 z45 st45 hQ45
    subst l45 y45 z45
    obtain ⟨rfl, N45, hs45⟩ := hQ45
    have N45' := Fr.app N37 N45
    refine Goes.to (T' := T45) (mkF m 101 #[.val (.int p1), .val (.ref b1), .val (.ref b23), .val (.int (2 : Int32)), .val (.ref a_LEN)] [(.int (bit (¬ a_LEN = a_MEM)))]) (fun t k => st45.trans k) ?_
    refine Goes.to (T' := T45) (mkF m 102 #[.val (.int p1), .val (.ref b1), .val (.ref b23), .val (.int (2 : Int32)), .val (.ref a_LEN)] [(.ref b23), (.int (bit (¬ a_LEN = a_MEM)))]) (fun t k => XS.aloadN X45.here hx rfl (hb hby at_101) rfl rfl k) ?_
    refine Goes.to (T' := T45) (mkF m 103 #[.val (.int p1), .val (.ref b1), .val (.ref b23), .val (.int (2 : Int32)), .val (.ref a_LEN)] [(.int (2 : Int32)), (.ref b23), (.int (bit (¬ a_LEN = a_MEM)))]) (fun t k => XS.iloadN X45.here hx rfl (hb hby at_102) rfl k) ?_
    have V'_b23 := V_b23
    obtain ⟨cl46, Ar46, -, S46, M46, H46, -⟩ := V'_b23
    have hin46 : ¬ ((2 : Int32) < 0 ∨ cl46.slots.size ≤ ((2 : Int32)).toNatClampNeg) := inb_of S46 ⟨by decide, by decide⟩
    have hat46 : cl46.slots[((2 : Int32)).toNatClampNeg]? = some (.int (nar .boolean (1 : Int32))) := H46.at hin46 rfl
    refine Goes.to (T' := T45) (mkF m 104 #[.val (.int p1), .val (.ref b1), .val (.ref b23), .val (.int (2 : Int32)), .val (.ref a_LEN)] [(.int (nar .boolean (1 : Int32))), (.int (bit (¬ a_LEN = a_MEM)))]) (fun t k => X45.baloadBooleans hx (j := (2 : Int32)) (v := (.int (nar .boolean (1 : Int32)))) (by rw [hs45]; exact Ar46.1) (State.isArrayOf_alike hZ.alike Ar46.2.1) Ar46.2.2 hin46 hat46 (g := (mkF m 103 #[.val (.int p1), .val (.ref b1), .val (.ref b23), .val (.int (2 : Int32)), .val (.ref a_LEN)] [(.int (2 : Int32)), (.ref b23), (.int (bit (¬ a_LEN = a_MEM)))])) rfl rfl (hb hby at_103) _ k) ?_
    refine Goes.to (T' := T45) (mkF m 107 #[.val (.int p1), .val (.ref b1), .val (.ref b23), .val (.int (2 : Int32)), .val (.ref a_LEN)] []) (fun t k => XS.icmpNo X45.here hx rfl (hb hby at_104) rfl (teq ((bit_t ne_LEN).trans (by decide) : (bit (¬ a_LEN = a_MEM)) = (nar .boolean (1 : Int32)))).2 k) ?_
    refine Goes.to (T' := T45) (mkF m 108 #[.val (.int p1), .val (.ref b1), .val (.ref b23), .val (.int (2 : Int32)), .val (.ref a_LEN)] [(.int (1 : Int32))]) (fun t k => XS.iconst X45.here hx rfl (hb hby at_107) k) ?_
    refine Goes.to (T' := T45) (mkF m 112 #[.val (.int p1), .val (.ref b1), .val (.ref b23), .val (.int (2 : Int32)), .val (.ref a_LEN)] [(.int (1 : Int32))]) (fun t k => XS.goto X45.here hx rfl (pc0 := 108) (pc' := 112) rfl (hb hby at_108) (by decide) (by decide) k) ?_
    refine Goes.retN X45 hx Bd.notSynchronized (t := .boolean) Bd.returns (by simp) (hb hby at_112) (by decide) (by decide) ?_
    rw [hs45]
    exact ⟨rfl, N45'⟩
  · rw [hk]
    refine Goes.to (T' := T37) (mkF m 92 #[.val (.int p1), .val (.ref b1), .val (.ref b23), .val (.int (3 : Int32)), .unset] [(.ref b1)]) (fun t k => XS.aloadN X37.here hx rfl (hb hby at_91) rfl rfl k) ?_
    refine Goes.to (T' := T37) (mkF m 93 #[.val (.int p1), .val (.ref b1), .val (.ref b23), .val (.int (3 : Int32)), .unset] [(.int (3 : Int32)), (.ref b1)]) (fun t k => XS.iloadN X37.here hx rfl (hb hby at_92) rfl k) ?_
    have V'_b1 := V_b1
    obtain ⟨cl47, Ar47, -, S47, M47, H47, -⟩ := V'_b1
    have hin47 : ¬ ((3 : Int32) < 0 ∨ cl47.slots.size ≤ ((3 : Int32)).toNatClampNeg) := inb_of S47 ⟨by decide, by decide⟩
    have hat47 : cl47.slots[((3 : Int32)).toNatClampNeg]? = some (.ref a_REQ) := H47.at hin47 rfl
    refine Goes.to (T' := T37) (mkF m 94 #[.val (.int p1), .val (.ref b1), .val (.ref b23), .val (.int (3 : Int32)), .unset] [(.ref a_REQ)]) (fun t k => X37.aaload hx (j := (3 : Int32)) (v := (.ref a_REQ)) (by rw [e37]; exact Ar47.1) (State.isArrayOf_alike hZ.alike Ar47.2.1) rfl Ar47.2.2 hin47 hat47 (g := (mkF m 93 #[.val (.int p1), .val (.ref b1), .val (.ref b23), .val (.int (3 : Int32)), .unset] [(.int (3 : Int32)), (.ref b1)])) rfl rfl (hb hby at_93) _ k) ?_
    refine Goes.to (T' := T37) (mkF m 96 #[.val (.int p1), .val (.ref b1), .val (.ref b23), .val (.int (3 : Int32)), .val (.ref a_REQ)] []) (fun t k => XS.astore X37.here hx rfl (hb hby at_94) rfl rfl (l' := #[.val (.int p1), .val (.ref b1), .val (.ref b23), .val (.int (3 : Int32)), .val (.ref a_REQ)]) rfl k) ?_
    refine Goes.to (T' := T37) (mkF m 98 #[.val (.int p1), .val (.ref b1), .val (.ref b23), .val (.int (3 : Int32)), .val (.ref a_REQ)] [(.ref a_REQ)]) (fun t k => XS.aload X37.here hx rfl (hb hby at_96) rfl rfl k) ?_
    obtain ⟨cq48, kq48, q48a, q48b, q48c⟩ := isOf hZ e37 (E_REQ.ext O.2)
    obtain ⟨_, _, ⟨T48, L48, k48, n48⟩, -, X48, ⟨Lc48, hQ48, l48, y48, z48⟩, st48⟩ := X37.virtualBack hx (y := (⟨"com/example/eelgrass/eelgrass/sync/SyncErrorCode", "isError", "()Z"⟩ : MethodName)) (z := (⟨"com/example/eelgrass/eelgrass/sync/SyncErrorCode", "isError", "()Z"⟩ : MethodName)) hown (mvT hZ (hw _ (List.mem_of_getElem? (i := 20) rfl))) (mvT hZ (hw _ (List.mem_of_getElem? (i := 21) rfl))) (notFace_of_selects (args := #[]) (mvT hZ (hw _ (List.mem_of_getElem? (i := 23) rfl)))) (mvT hZ (hw _ (List.mem_of_getElem? (i := 23) rfl))) (mvT hZ (hw _ (List.mem_of_getElem? (i := 22) rfl))) (by decide) (backOf (W := 0) (rm_isError l Z a0 hw [] a_REQ a_MEM h37 n0 O S_MEM) hZ (hw _ (List.mem_of_getElem? (i := 24) rfl)) (hw _ (List.mem_of_getElem? (i := 3) rfl)) (by decide) (by decide)) q48a q48c (g := (mkF m 98 #[.val (.int p1), .val (.ref b1), .val (.ref b23), .val (.int (3 : Int32)), .val (.ref a_REQ)] [(.ref a_REQ)])) rfl (by rw [hml]; rfl) (Steps.refl _) (argsL := []) (rest := []) (lenOf pd_0 rfl) rfl (by show 2 * 0 + _ ≤ _; exact Nat.le_of_eq rfl) (hb hby at_98) (fun _ _ => ⟨rfl, e37, (by decide : 2 + 0 ≤ _), (by decide : 14 + 0 ≤ _)⟩)
    dsimp only [Pt.U, Pt.locs, Pt.cells, Pt.slots] at X48 l48 y48 z48 st48 hQ48
    subst l48 y48 z48
    obtain ⟨rfl, N48, hs48⟩ := hQ48
    have N48' := Fr.app N37 N48
    refine Goes.to (T' := T48) (mkF m 101 #[.val (.int p1), .val (.ref b1), .val (.ref b23), .val (.int (3 : Int32)), .val (.ref a_REQ)] [(.int (bit (¬ a_REQ = a_MEM)))]) (fun t k => st48.trans k) ?_
    refine Goes.to (T' := T48) (mkF m 102 #[.val (.int p1), .val (.ref b1), .val (.ref b23), .val (.int (3 : Int32)), .val (.ref a_REQ)] [(.ref b23), (.int (bit (¬ a_REQ = a_MEM)))]) (fun t k => XS.aloadN X48.here hx rfl (hb hby at_101) rfl rfl k) ?_
    refine Goes.to (T' := T48) (mkF m 103 #[.val (.int p1), .val (.ref b1), .val (.ref b23), .val (.int (3 : Int32)), .val (.ref a_REQ)] [(.int (3 : Int32)), (.ref b23), (.int (bit (¬ a_REQ = a_MEM)))]) (fun t k => XS.iloadN X48.here hx rfl (hb hby at_102) rfl k) ?_
    have V'_b23 := V_b23
    obtain ⟨cl49, Ar49, -, S49, M49, H49, -⟩ := V'_b23
    have hin49 : ¬ ((3 : Int32) < 0 ∨ cl49.slots.size ≤ ((3 : Int32)).toNatClampNeg) := inb_of S49 ⟨by decide, by decide⟩
    have hat49 : cl49.slots[((3 : Int32)).toNatClampNeg]? = some (.int (nar .boolean (1 : Int32))) := H49.at hin49 rfl
    refine Goes.to (T' := T48) (mkF m 104 #[.val (.int p1), .val (.ref b1), .val (.ref b23), .val (.int (3 : Int32)), .val (.ref a_REQ)] [(.int (nar .boolean (1 : Int32))), (.int (bit (¬ a_REQ = a_MEM)))]) (fun t k => X48.baloadBooleans hx (j := (3 : Int32)) (v := (.int (nar .boolean (1 : Int32)))) (by rw [hs48]; exact Ar49.1) (State.isArrayOf_alike hZ.alike Ar49.2.1) Ar49.2.2 hin49 hat49 (g := (mkF m 103 #[.val (.int p1), .val (.ref b1), .val (.ref b23), .val (.int (3 : Int32)), .val (.ref a_REQ)] [(.int (3 : Int32)), (.ref b23), (.int (bit (¬ a_REQ = a_MEM)))])) rfl rfl (hb hby at_103) _ k) ?_
    refine Goes.to (T' := T48) (mkF m 107 #[.val (.int p1), .val (.ref b1), .val (.ref b23), .val (.int (3 : Int32)), .val (.ref a_REQ)] []) (fun t k => XS.icmpNo X48.here hx rfl (hb hby at_104) rfl (teq ((bit_t ne_REQ).trans (by decide) : (bit (¬ a_REQ = a_MEM)) = (nar .boolean (1 : Int32)))).2 k) ?_
    refine Goes.to (T' := T48) (mkF m 108 #[.val (.int p1), .val (.ref b1), .val (.ref b23), .val (.int (3 : Int32)), .val (.ref a_REQ)] [(.int (1 : Int32))]) (fun t k => XS.iconst X48.here hx rfl (hb hby at_107) k) ?_
    refine Goes.to (T' := T48) (mkF m 112 #[.val (.int p1), .val (.ref b1), .val (.ref b23), .val (.int (3 : Int32)), .val (.ref a_REQ)] [(.int (1 : Int32))]) (fun t k => XS.goto X48.here hx rfl (pc0 := 108) (pc' := 112) rfl (hb hby at_108) (by decide) (by decide) k) ?_
    refine Goes.retN X48 hx Bd.notSynchronized (t := .boolean) Bd.returns (by simp) (hb hby at_112) (by decide) (by decide) ?_
    rw [hs48]
    exact ⟨rfl, N48'⟩
  · rw [hk]
    refine Goes.to (T' := T37) (mkF m 92 #[.val (.int p1), .val (.ref b1), .val (.ref b23), .val (.int (4 : Int32)), .unset] [(.ref b1)]) (fun t k => XS.aloadN X37.here hx rfl (hb hby at_91) rfl rfl k) ?_
    refine Goes.to (T' := T37) (mkF m 93 #[.val (.int p1), .val (.ref b1), .val (.ref b23), .val (.int (4 : Int32)), .unset] [(.int (4 : Int32)), (.ref b1)]) (fun t k => XS.iloadN X37.here hx rfl (hb hby at_92) rfl k) ?_
    have V'_b1 := V_b1
    obtain ⟨cl50, Ar50, -, S50, M50, H50, -⟩ := V'_b1
    have hin50 : ¬ ((4 : Int32) < 0 ∨ cl50.slots.size ≤ ((4 : Int32)).toNatClampNeg) := inb_of S50 ⟨by decide, by decide⟩
    have hat50 : cl50.slots[((4 : Int32)).toNatClampNeg]? = some (.ref a_DNE) := H50.at hin50 rfl
    refine Goes.to (T' := T37) (mkF m 94 #[.val (.int p1), .val (.ref b1), .val (.ref b23), .val (.int (4 : Int32)), .unset] [(.ref a_DNE)]) (fun t k => X37.aaload hx (j := (4 : Int32)) (v := (.ref a_DNE)) (by rw [e37]; exact Ar50.1) (State.isArrayOf_alike hZ.alike Ar50.2.1) rfl Ar50.2.2 hin50 hat50 (g := (mkF m 93 #[.val (.int p1), .val (.ref b1), .val (.ref b23), .val (.int (4 : Int32)), .unset] [(.int (4 : Int32)), (.ref b1)])) rfl rfl (hb hby at_93) _ k) ?_
    refine Goes.to (T' := T37) (mkF m 96 #[.val (.int p1), .val (.ref b1), .val (.ref b23), .val (.int (4 : Int32)), .val (.ref a_DNE)] []) (fun t k => XS.astore X37.here hx rfl (hb hby at_94) rfl rfl (l' := #[.val (.int p1), .val (.ref b1), .val (.ref b23), .val (.int (4 : Int32)), .val (.ref a_DNE)]) rfl k) ?_
    refine Goes.to (T' := T37) (mkF m 98 #[.val (.int p1), .val (.ref b1), .val (.ref b23), .val (.int (4 : Int32)), .val (.ref a_DNE)] [(.ref a_DNE)]) (fun t k => XS.aload X37.here hx rfl (hb hby at_96) rfl rfl k) ?_
    obtain ⟨cq51, kq51, q51a, q51b, q51c⟩ := isOf hZ e37 (E_DNE.ext O.2)
    obtain ⟨_, _, ⟨T51, L51, k51, n51⟩, -, X51, ⟨Lc51, hQ51, l51, y51, z51⟩, st51⟩ := X37.virtualBack hx (y := (⟨"com/example/eelgrass/eelgrass/sync/SyncErrorCode", "isError", "()Z"⟩ : MethodName)) (z := (⟨"com/example/eelgrass/eelgrass/sync/SyncErrorCode", "isError", "()Z"⟩ : MethodName)) hown (mvT hZ (hw _ (List.mem_of_getElem? (i := 20) rfl))) (mvT hZ (hw _ (List.mem_of_getElem? (i := 21) rfl))) (notFace_of_selects (args := #[]) (mvT hZ (hw _ (List.mem_of_getElem? (i := 23) rfl)))) (mvT hZ (hw _ (List.mem_of_getElem? (i := 23) rfl))) (mvT hZ (hw _ (List.mem_of_getElem? (i := 22) rfl))) (by decide) (backOf (W := 0) (rm_isError l Z a0 hw [] a_DNE a_MEM h37 n0 O S_MEM) hZ (hw _ (List.mem_of_getElem? (i := 24) rfl)) (hw _ (List.mem_of_getElem? (i := 3) rfl)) (by decide) (by decide)) q51a q51c (g := (mkF m 98 #[.val (.int p1), .val (.ref b1), .val (.ref b23), .val (.int (4 : Int32)), .val (.ref a_DNE)] [(.ref a_DNE)])) rfl (by rw [hml]; rfl) (Steps.refl _) (argsL := []) (rest := []) (lenOf pd_0 rfl) rfl (by show 2 * 0 + _ ≤ _; exact Nat.le_of_eq rfl) (hb hby at_98) (fun _ _ => ⟨rfl, e37, (by decide : 2 + 0 ≤ _), (by decide : 14 + 0 ≤ _)⟩)
    dsimp only [Pt.U, Pt.locs, Pt.cells, Pt.slots] at X51 l51 y51 z51 st51 hQ51
    subst l51 y51 z51
    obtain ⟨rfl, N51, hs51⟩ := hQ51
    have N51' := Fr.app N37 N51
    refine Goes.to (T' := T51) (mkF m 101 #[.val (.int p1), .val (.ref b1), .val (.ref b23), .val (.int (4 : Int32)), .val (.ref a_DNE)] [(.int (bit (¬ a_DNE = a_MEM)))]) (fun t k => st51.trans k) ?_
    refine Goes.to (T' := T51) (mkF m 102 #[.val (.int p1), .val (.ref b1), .val (.ref b23), .val (.int (4 : Int32)), .val (.ref a_DNE)] [(.ref b23), (.int (bit (¬ a_DNE = a_MEM)))]) (fun t k => XS.aloadN X51.here hx rfl (hb hby at_101) rfl rfl k) ?_
    refine Goes.to (T' := T51) (mkF m 103 #[.val (.int p1), .val (.ref b1), .val (.ref b23), .val (.int (4 : Int32)), .val (.ref a_DNE)] [(.int (4 : Int32)), (.ref b23), (.int (bit (¬ a_DNE = a_MEM)))]) (fun t k => XS.iloadN X51.here hx rfl (hb hby at_102) rfl k) ?_
    have V'_b23 := V_b23
    obtain ⟨cl52, Ar52, -, S52, M52, H52, -⟩ := V'_b23
    have hin52 : ¬ ((4 : Int32) < 0 ∨ cl52.slots.size ≤ ((4 : Int32)).toNatClampNeg) := inb_of S52 ⟨by decide, by decide⟩
    have hat52 : cl52.slots[((4 : Int32)).toNatClampNeg]? = some (.int (nar .boolean (1 : Int32))) := H52.at hin52 rfl
    refine Goes.to (T' := T51) (mkF m 104 #[.val (.int p1), .val (.ref b1), .val (.ref b23), .val (.int (4 : Int32)), .val (.ref a_DNE)] [(.int (nar .boolean (1 : Int32))), (.int (bit (¬ a_DNE = a_MEM)))]) (fun t k => X51.baloadBooleans hx (j := (4 : Int32)) (v := (.int (nar .boolean (1 : Int32)))) (by rw [hs51]; exact Ar52.1) (State.isArrayOf_alike hZ.alike Ar52.2.1) Ar52.2.2 hin52 hat52 (g := (mkF m 103 #[.val (.int p1), .val (.ref b1), .val (.ref b23), .val (.int (4 : Int32)), .val (.ref a_DNE)] [(.int (4 : Int32)), (.ref b23), (.int (bit (¬ a_DNE = a_MEM)))])) rfl rfl (hb hby at_103) _ k) ?_
    refine Goes.to (T' := T51) (mkF m 107 #[.val (.int p1), .val (.ref b1), .val (.ref b23), .val (.int (4 : Int32)), .val (.ref a_DNE)] []) (fun t k => XS.icmpNo X51.here hx rfl (hb hby at_104) rfl (teq ((bit_t ne_DNE).trans (by decide) : (bit (¬ a_DNE = a_MEM)) = (nar .boolean (1 : Int32)))).2 k) ?_
    refine Goes.to (T' := T51) (mkF m 108 #[.val (.int p1), .val (.ref b1), .val (.ref b23), .val (.int (4 : Int32)), .val (.ref a_DNE)] [(.int (1 : Int32))]) (fun t k => XS.iconst X51.here hx rfl (hb hby at_107) k) ?_
    refine Goes.to (T' := T51) (mkF m 112 #[.val (.int p1), .val (.ref b1), .val (.ref b23), .val (.int (4 : Int32)), .val (.ref a_DNE)] [(.int (1 : Int32))]) (fun t k => XS.goto X51.here hx rfl (pc0 := 108) (pc' := 112) rfl (hb hby at_108) (by decide) (by decide) k) ?_
    refine Goes.retN X51 hx Bd.notSynchronized (t := .boolean) Bd.returns (by simp) (hb hby at_112) (by decide) (by decide) ?_
    rw [hs51]
    exact ⟨rfl, N51'⟩
  · rw [hk]
    refine Goes.to (T' := T37) (mkF m 92 #[.val (.int p1), .val (.ref b1), .val (.ref b23), .val (.int (5 : Int32)), .unset] [(.ref b1)]) (fun t k => XS.aloadN X37.here hx rfl (hb hby at_91) rfl rfl k) ?_
    refine Goes.to (T' := T37) (mkF m 93 #[.val (.int p1), .val (.ref b1), .val (.ref b23), .val (.int (5 : Int32)), .unset] [(.int (5 : Int32)), (.ref b1)]) (fun t k => XS.iloadN X37.here hx rfl (hb hby at_92) rfl k) ?_
    have V'_b1 := V_b1
    obtain ⟨cl53, Ar53, -, S53, M53, H53, -⟩ := V'_b1
    have hin53 : ¬ ((5 : Int32) < 0 ∨ cl53.slots.size ≤ ((5 : Int32)).toNatClampNeg) := inb_of S53 ⟨by decide, by decide⟩
    have hat53 : cl53.slots[((5 : Int32)).toNatClampNeg]? = some (.ref a_MAT) := H53.at hin53 rfl
    refine Goes.to (T' := T37) (mkF m 94 #[.val (.int p1), .val (.ref b1), .val (.ref b23), .val (.int (5 : Int32)), .unset] [(.ref a_MAT)]) (fun t k => X37.aaload hx (j := (5 : Int32)) (v := (.ref a_MAT)) (by rw [e37]; exact Ar53.1) (State.isArrayOf_alike hZ.alike Ar53.2.1) rfl Ar53.2.2 hin53 hat53 (g := (mkF m 93 #[.val (.int p1), .val (.ref b1), .val (.ref b23), .val (.int (5 : Int32)), .unset] [(.int (5 : Int32)), (.ref b1)])) rfl rfl (hb hby at_93) _ k) ?_
    refine Goes.to (T' := T37) (mkF m 96 #[.val (.int p1), .val (.ref b1), .val (.ref b23), .val (.int (5 : Int32)), .val (.ref a_MAT)] []) (fun t k => XS.astore X37.here hx rfl (hb hby at_94) rfl rfl (l' := #[.val (.int p1), .val (.ref b1), .val (.ref b23), .val (.int (5 : Int32)), .val (.ref a_MAT)]) rfl k) ?_
    refine Goes.to (T' := T37) (mkF m 98 #[.val (.int p1), .val (.ref b1), .val (.ref b23), .val (.int (5 : Int32)), .val (.ref a_MAT)] [(.ref a_MAT)]) (fun t k => XS.aload X37.here hx rfl (hb hby at_96) rfl rfl k) ?_
    obtain ⟨cq54, kq54, q54a, q54b, q54c⟩ := isOf hZ e37 (E_MAT.ext O.2)
    obtain ⟨_, _, ⟨T54, L54, k54, n54⟩, -, X54, ⟨Lc54, hQ54, l54, y54, z54⟩, st54⟩ := X37.virtualBack hx (y := (⟨"com/example/eelgrass/eelgrass/sync/SyncErrorCode", "isError", "()Z"⟩ : MethodName)) (z := (⟨"com/example/eelgrass/eelgrass/sync/SyncErrorCode", "isError", "()Z"⟩ : MethodName)) hown (mvT hZ (hw _ (List.mem_of_getElem? (i := 20) rfl))) (mvT hZ (hw _ (List.mem_of_getElem? (i := 21) rfl))) (notFace_of_selects (args := #[]) (mvT hZ (hw _ (List.mem_of_getElem? (i := 23) rfl)))) (mvT hZ (hw _ (List.mem_of_getElem? (i := 23) rfl))) (mvT hZ (hw _ (List.mem_of_getElem? (i := 22) rfl))) (by decide) (backOf (W := 0) (rm_isError l Z a0 hw [] a_MAT a_MEM h37 n0 O S_MEM) hZ (hw _ (List.mem_of_getElem? (i := 24) rfl)) (hw _ (List.mem_of_getElem? (i := 3) rfl)) (by decide) (by decide)) q54a q54c (g := (mkF m 98 #[.val (.int p1), .val (.ref b1), .val (.ref b23), .val (.int (5 : Int32)), .val (.ref a_MAT)] [(.ref a_MAT)])) rfl (by rw [hml]; rfl) (Steps.refl _) (argsL := []) (rest := []) (lenOf pd_0 rfl) rfl (by show 2 * 0 + _ ≤ _; exact Nat.le_of_eq rfl) (hb hby at_98) (fun _ _ => ⟨rfl, e37, (by decide : 2 + 0 ≤ _), (by decide : 14 + 0 ≤ _)⟩)
    dsimp only [Pt.U, Pt.locs, Pt.cells, Pt.slots] at X54 l54 y54 z54 st54 hQ54
    subst l54 y54 z54
    obtain ⟨rfl, N54, hs54⟩ := hQ54
    have N54' := Fr.app N37 N54
    refine Goes.to (T' := T54) (mkF m 101 #[.val (.int p1), .val (.ref b1), .val (.ref b23), .val (.int (5 : Int32)), .val (.ref a_MAT)] [(.int (bit (¬ a_MAT = a_MEM)))]) (fun t k => st54.trans k) ?_
    refine Goes.to (T' := T54) (mkF m 102 #[.val (.int p1), .val (.ref b1), .val (.ref b23), .val (.int (5 : Int32)), .val (.ref a_MAT)] [(.ref b23), (.int (bit (¬ a_MAT = a_MEM)))]) (fun t k => XS.aloadN X54.here hx rfl (hb hby at_101) rfl rfl k) ?_
    refine Goes.to (T' := T54) (mkF m 103 #[.val (.int p1), .val (.ref b1), .val (.ref b23), .val (.int (5 : Int32)), .val (.ref a_MAT)] [(.int (5 : Int32)), (.ref b23), (.int (bit (¬ a_MAT = a_MEM)))]) (fun t k => XS.iloadN X54.here hx rfl (hb hby at_102) rfl k) ?_
    have V'_b23 := V_b23
    obtain ⟨cl55, Ar55, -, S55, M55, H55, -⟩ := V'_b23
    have hin55 : ¬ ((5 : Int32) < 0 ∨ cl55.slots.size ≤ ((5 : Int32)).toNatClampNeg) := inb_of S55 ⟨by decide, by decide⟩
    have hat55 : cl55.slots[((5 : Int32)).toNatClampNeg]? = some (.int (nar .boolean (1 : Int32))) := H55.at hin55 rfl
    refine Goes.to (T' := T54) (mkF m 104 #[.val (.int p1), .val (.ref b1), .val (.ref b23), .val (.int (5 : Int32)), .val (.ref a_MAT)] [(.int (nar .boolean (1 : Int32))), (.int (bit (¬ a_MAT = a_MEM)))]) (fun t k => X54.baloadBooleans hx (j := (5 : Int32)) (v := (.int (nar .boolean (1 : Int32)))) (by rw [hs54]; exact Ar55.1) (State.isArrayOf_alike hZ.alike Ar55.2.1) Ar55.2.2 hin55 hat55 (g := (mkF m 103 #[.val (.int p1), .val (.ref b1), .val (.ref b23), .val (.int (5 : Int32)), .val (.ref a_MAT)] [(.int (5 : Int32)), (.ref b23), (.int (bit (¬ a_MAT = a_MEM)))])) rfl rfl (hb hby at_103) _ k) ?_
    refine Goes.to (T' := T54) (mkF m 107 #[.val (.int p1), .val (.ref b1), .val (.ref b23), .val (.int (5 : Int32)), .val (.ref a_MAT)] []) (fun t k => XS.icmpNo X54.here hx rfl (hb hby at_104) rfl (teq ((bit_t ne_MAT).trans (by decide) : (bit (¬ a_MAT = a_MEM)) = (nar .boolean (1 : Int32)))).2 k) ?_
    refine Goes.to (T' := T54) (mkF m 108 #[.val (.int p1), .val (.ref b1), .val (.ref b23), .val (.int (5 : Int32)), .val (.ref a_MAT)] [(.int (1 : Int32))]) (fun t k => XS.iconst X54.here hx rfl (hb hby at_107) k) ?_
    refine Goes.to (T' := T54) (mkF m 112 #[.val (.int p1), .val (.ref b1), .val (.ref b23), .val (.int (5 : Int32)), .val (.ref a_MAT)] [(.int (1 : Int32))]) (fun t k => XS.goto X54.here hx rfl (pc0 := 108) (pc' := 112) rfl (hb hby at_108) (by decide) (by decide) k) ?_
    refine Goes.retN X54 hx Bd.notSynchronized (t := .boolean) Bd.returns (by simp) (hb hby at_112) (by decide) (by decide) ?_
    rw [hs54]
    exact ⟨rfl, N54'⟩
  · rw [hk]
    refine Goes.to (T' := T37) (mkF m 92 #[.val (.int p1), .val (.ref b1), .val (.ref b23), .val (.int (6 : Int32)), .unset] [(.ref b1)]) (fun t k => XS.aloadN X37.here hx rfl (hb hby at_91) rfl rfl k) ?_
    refine Goes.to (T' := T37) (mkF m 93 #[.val (.int p1), .val (.ref b1), .val (.ref b23), .val (.int (6 : Int32)), .unset] [(.int (6 : Int32)), (.ref b1)]) (fun t k => XS.iloadN X37.here hx rfl (hb hby at_92) rfl k) ?_
    have V'_b1 := V_b1
    obtain ⟨cl56, Ar56, -, S56, M56, H56, -⟩ := V'_b1
    have hin56 : ¬ ((6 : Int32) < 0 ∨ cl56.slots.size ≤ ((6 : Int32)).toNatClampNeg) := inb_of S56 ⟨by decide, by decide⟩
    have hat56 : cl56.slots[((6 : Int32)).toNatClampNeg]? = some (.ref a_MEM) := H56.at hin56 rfl
    refine Goes.to (T' := T37) (mkF m 94 #[.val (.int p1), .val (.ref b1), .val (.ref b23), .val (.int (6 : Int32)), .unset] [(.ref a_MEM)]) (fun t k => X37.aaload hx (j := (6 : Int32)) (v := (.ref a_MEM)) (by rw [e37]; exact Ar56.1) (State.isArrayOf_alike hZ.alike Ar56.2.1) rfl Ar56.2.2 hin56 hat56 (g := (mkF m 93 #[.val (.int p1), .val (.ref b1), .val (.ref b23), .val (.int (6 : Int32)), .unset] [(.int (6 : Int32)), (.ref b1)])) rfl rfl (hb hby at_93) _ k) ?_
    refine Goes.to (T' := T37) (mkF m 96 #[.val (.int p1), .val (.ref b1), .val (.ref b23), .val (.int (6 : Int32)), .val (.ref a_MEM)] []) (fun t k => XS.astore X37.here hx rfl (hb hby at_94) rfl rfl (l' := #[.val (.int p1), .val (.ref b1), .val (.ref b23), .val (.int (6 : Int32)), .val (.ref a_MEM)]) rfl k) ?_
    refine Goes.to (T' := T37) (mkF m 98 #[.val (.int p1), .val (.ref b1), .val (.ref b23), .val (.int (6 : Int32)), .val (.ref a_MEM)] [(.ref a_MEM)]) (fun t k => XS.aload X37.here hx rfl (hb hby at_96) rfl rfl k) ?_
    obtain ⟨cq57, kq57, q57a, q57b, q57c⟩ := isOf hZ e37 (E_MEM.ext O.2)
    obtain ⟨_, _, ⟨T57, L57, k57, n57⟩, -, X57, ⟨Lc57, hQ57, l57, y57, z57⟩, st57⟩ := X37.virtualBack hx (y := (⟨"com/example/eelgrass/eelgrass/sync/SyncErrorCode", "isError", "()Z"⟩ : MethodName)) (z := (⟨"com/example/eelgrass/eelgrass/sync/SyncErrorCode", "isError", "()Z"⟩ : MethodName)) hown (mvT hZ (hw _ (List.mem_of_getElem? (i := 20) rfl))) (mvT hZ (hw _ (List.mem_of_getElem? (i := 21) rfl))) (notFace_of_selects (args := #[]) (mvT hZ (hw _ (List.mem_of_getElem? (i := 23) rfl)))) (mvT hZ (hw _ (List.mem_of_getElem? (i := 23) rfl))) (mvT hZ (hw _ (List.mem_of_getElem? (i := 22) rfl))) (by decide) (backOf (W := 0) (rm_isError l Z a0 hw [] a_MEM a_MEM h37 n0 O S_MEM) hZ (hw _ (List.mem_of_getElem? (i := 24) rfl)) (hw _ (List.mem_of_getElem? (i := 3) rfl)) (by decide) (by decide)) q57a q57c (g := (mkF m 98 #[.val (.int p1), .val (.ref b1), .val (.ref b23), .val (.int (6 : Int32)), .val (.ref a_MEM)] [(.ref a_MEM)])) rfl (by rw [hml]; rfl) (Steps.refl _) (argsL := []) (rest := []) (lenOf pd_0 rfl) rfl (by show 2 * 0 + _ ≤ _; exact Nat.le_of_eq rfl) (hb hby at_98) (fun _ _ => ⟨rfl, e37, (by decide : 2 + 0 ≤ _), (by decide : 14 + 0 ≤ _)⟩)
    dsimp only [Pt.U, Pt.locs, Pt.cells, Pt.slots] at X57 l57 y57 z57 st57 hQ57
    subst l57 y57 z57
    obtain ⟨rfl, N57, hs57⟩ := hQ57
    have N57' := Fr.app N37 N57
    refine Goes.to (T' := T57) (mkF m 101 #[.val (.int p1), .val (.ref b1), .val (.ref b23), .val (.int (6 : Int32)), .val (.ref a_MEM)] [(.int (bit (¬ a_MEM = a_MEM)))]) (fun t k => st57.trans k) ?_
    refine Goes.to (T' := T57) (mkF m 102 #[.val (.int p1), .val (.ref b1), .val (.ref b23), .val (.int (6 : Int32)), .val (.ref a_MEM)] [(.ref b23), (.int (bit (¬ a_MEM = a_MEM)))]) (fun t k => XS.aloadN X57.here hx rfl (hb hby at_101) rfl rfl k) ?_
    refine Goes.to (T' := T57) (mkF m 103 #[.val (.int p1), .val (.ref b1), .val (.ref b23), .val (.int (6 : Int32)), .val (.ref a_MEM)] [(.int (6 : Int32)), (.ref b23), (.int (bit (¬ a_MEM = a_MEM)))]) (fun t k => XS.iloadN X57.here hx rfl (hb hby at_102) rfl k) ?_
    have V'_b23 := V_b23
    obtain ⟨cl58, Ar58, -, S58, M58, H58, -⟩ := V'_b23
    have hin58 : ¬ ((6 : Int32) < 0 ∨ cl58.slots.size ≤ ((6 : Int32)).toNatClampNeg) := inb_of S58 ⟨by decide, by decide⟩
    have hat58 : cl58.slots[((6 : Int32)).toNatClampNeg]? = some (.int (nar .boolean (0 : Int32))) := H58.at hin58 rfl
    refine Goes.to (T' := T57) (mkF m 104 #[.val (.int p1), .val (.ref b1), .val (.ref b23), .val (.int (6 : Int32)), .val (.ref a_MEM)] [(.int (nar .boolean (0 : Int32))), (.int (bit (¬ a_MEM = a_MEM)))]) (fun t k => X57.baloadBooleans hx (j := (6 : Int32)) (v := (.int (nar .boolean (0 : Int32)))) (by rw [hs57]; exact Ar58.1) (State.isArrayOf_alike hZ.alike Ar58.2.1) Ar58.2.2 hin58 hat58 (g := (mkF m 103 #[.val (.int p1), .val (.ref b1), .val (.ref b23), .val (.int (6 : Int32)), .val (.ref a_MEM)] [(.int (6 : Int32)), (.ref b23), (.int (bit (¬ a_MEM = a_MEM)))])) rfl rfl (hb hby at_103) _ k) ?_
    refine Goes.to (T' := T57) (mkF m 107 #[.val (.int p1), .val (.ref b1), .val (.ref b23), .val (.int (6 : Int32)), .val (.ref a_MEM)] []) (fun t k => XS.icmpNo X57.here hx rfl (hb hby at_104) rfl (teq ((bit_f (fun q => q rfl)).trans (by decide) : (bit (¬ a_MEM = a_MEM)) = (nar .boolean (0 : Int32)))).2 k) ?_
    refine Goes.to (T' := T57) (mkF m 108 #[.val (.int p1), .val (.ref b1), .val (.ref b23), .val (.int (6 : Int32)), .val (.ref a_MEM)] [(.int (1 : Int32))]) (fun t k => XS.iconst X57.here hx rfl (hb hby at_107) k) ?_
    refine Goes.to (T' := T57) (mkF m 112 #[.val (.int p1), .val (.ref b1), .val (.ref b23), .val (.int (6 : Int32)), .val (.ref a_MEM)] [(.int (1 : Int32))]) (fun t k => XS.goto X57.here hx rfl (pc0 := 108) (pc' := 112) rfl (hb hby at_108) (by decide) (by decide) k) ?_
    refine Goes.retN X57 hx Bd.notSynchronized (t := .boolean) Bd.returns (by simp) (hb hby at_112) (by decide) (by decide) ?_
    rw [hs57]
    exact ⟨rfl, N57'⟩
set_option maxRecDepth 65536 in
set_option maxHeartbeats 40000000 in
theorem comes_1 {Post : Tables → Env → Array Value → State → Outcome → State → Prop} (hpost : ∀ tb e args s v u, (limb_1_1.after args s (.returned v) u = true ∧ limb_1_2.after args s (.returned v) u = true ∧ True) → FrameEnd s (.returned v) u (Jvm.fieldLocs frame_1_writes args s ++ Jvm.arrayLocs frame_1_arrays args s ++ Jvm.staticLocs frame_1_statics s) 16 128 → Post tb e args s (.returned v) u) :
    ArmFor flags0 classFile x code maxLocals ret World_1 tables_1 room_1 Calls_1 rest_1 Pre_1 Post := by
  intro l hfl _ _ p e ha hc hk s m args below hf hA hF happ hP
  obtain ⟨hcalls, hrest, hpre⟩ := hP
  obtain ⟨-, -, -, hnamed, -, -, -, hat⟩ := (Spec.applies_iff hf).mp happ
  obtain ⟨hg, hn⟩ := and_e (Cond.before_iff.mp (show (Jvm.Cond.and given_1 narrow_1).before args s = true from hpre))
  obtain ⟨gg0, gr0⟩ := and_e hg
  have gg1 := gr0
  obtain ⟨w0, rfl⟩ : ∃ w0 : Value, args = #[w0] := by
    have hs : args.size = 1 := by simpa [Cond.value, given_1] using gg0
    obtain ⟨L⟩ := args
    match L, hs with
    | [w0], _ => exact ⟨w0, rfl⟩
  have hw := fun d (hd : d ∈ tables_1) => atoms_spec (ws := Jvm.Cond.code x code maxLocals ret :: tables_1) hat d (List.mem_cons_of_mem _ hd)
  have hfit : Fit s := fun {y c} hc i hi => by
    obtain ⟨ha, rfl⟩ := Array.getElem?_eq_some_iff.mp hc
    have q := List.all_eq_true.mp ((Array.all_eq_true_iff_forall_mem.mp hF) _ (Array.getElem_mem ha)) i (List.mem_range.mpr hi)
    simpa [Array.getElem?_eq_getElem hi] using q
  obtain ⟨i0, ei0⟩ := is_v gg1
  obtain rfl : w0 = (.int i0) := Option.some.inj ei0
  obtain ⟨nn0, nr0⟩ := and_e hn
  obtain ⟨nn1, nr1⟩ := and_e nr0
  obtain ⟨nn2, nr2⟩ := and_e nr1
  obtain ⟨nn3, nr3⟩ := and_e nr2
  obtain ⟨nn4, nr4⟩ := and_e nr3
  obtain ⟨nn5, nr5⟩ := and_e nr4
  obtain ⟨nn6, nr6⟩ := and_e nr5
  obtain ⟨nn7, nr7⟩ := and_e nr6
  obtain ⟨nn8, nr8⟩ := and_e nr7
  obtain ⟨nn9, nr9⟩ := and_e nr8
  obtain ⟨nn10, nr10⟩ := and_e nr9
  obtain ⟨nn11, nr11⟩ := and_e nr10
  obtain ⟨nn12, nr12⟩ := and_e nr11
  have nn13 := nr12
  obtain ⟨a_ERR, ev_ERR⟩ := exa_v nn0
  have S_ERR : Sta s s.heap "com/example/eelgrass/eelgrass/sync/SyncErrorCode" "ERR" "Lcom/example/eelgrass/eelgrass/sync/SyncErrorCode;" (.ref a_ERR) := Sta.start ev_ERR (Or.inr ⟨(hw _ (List.mem_of_getElem? (i := 3) rfl)), (hw _ (List.mem_of_getElem? (i := 4) rfl))⟩)
  have E_ERR : Exa s s.heap a_ERR "com/example/eelgrass/eelgrass/sync/SyncErrorCode" := Exa.start ev_ERR nn0
  obtain ⟨a_INV, ev_INV⟩ := exa_v nn1
  have S_INV : Sta s s.heap "com/example/eelgrass/eelgrass/sync/SyncErrorCode" "INV" "Lcom/example/eelgrass/eelgrass/sync/SyncErrorCode;" (.ref a_INV) := Sta.start ev_INV (Or.inr ⟨(hw _ (List.mem_of_getElem? (i := 3) rfl)), (hw _ (List.mem_of_getElem? (i := 7) rfl))⟩)
  have E_INV : Exa s s.heap a_INV "com/example/eelgrass/eelgrass/sync/SyncErrorCode" := Exa.start ev_INV nn1
  obtain ⟨a_LEN, ev_LEN⟩ := exa_v nn2
  have S_LEN : Sta s s.heap "com/example/eelgrass/eelgrass/sync/SyncErrorCode" "LEN" "Lcom/example/eelgrass/eelgrass/sync/SyncErrorCode;" (.ref a_LEN) := Sta.start ev_LEN (Or.inr ⟨(hw _ (List.mem_of_getElem? (i := 3) rfl)), (hw _ (List.mem_of_getElem? (i := 9) rfl))⟩)
  have E_LEN : Exa s s.heap a_LEN "com/example/eelgrass/eelgrass/sync/SyncErrorCode" := Exa.start ev_LEN nn2
  obtain ⟨a_REQ, ev_REQ⟩ := exa_v nn3
  have S_REQ : Sta s s.heap "com/example/eelgrass/eelgrass/sync/SyncErrorCode" "REQ" "Lcom/example/eelgrass/eelgrass/sync/SyncErrorCode;" (.ref a_REQ) := Sta.start ev_REQ (Or.inr ⟨(hw _ (List.mem_of_getElem? (i := 3) rfl)), (hw _ (List.mem_of_getElem? (i := 11) rfl))⟩)
  have E_REQ : Exa s s.heap a_REQ "com/example/eelgrass/eelgrass/sync/SyncErrorCode" := Exa.start ev_REQ nn3
  obtain ⟨a_DNE, ev_DNE⟩ := exa_v nn4
  have S_DNE : Sta s s.heap "com/example/eelgrass/eelgrass/sync/SyncErrorCode" "DNE" "Lcom/example/eelgrass/eelgrass/sync/SyncErrorCode;" (.ref a_DNE) := Sta.start ev_DNE (Or.inr ⟨(hw _ (List.mem_of_getElem? (i := 3) rfl)), (hw _ (List.mem_of_getElem? (i := 13) rfl))⟩)
  have E_DNE : Exa s s.heap a_DNE "com/example/eelgrass/eelgrass/sync/SyncErrorCode" := Exa.start ev_DNE nn4
  obtain ⟨a_MAT, ev_MAT⟩ := exa_v nn5
  have S_MAT : Sta s s.heap "com/example/eelgrass/eelgrass/sync/SyncErrorCode" "MAT" "Lcom/example/eelgrass/eelgrass/sync/SyncErrorCode;" (.ref a_MAT) := Sta.start ev_MAT (Or.inr ⟨(hw _ (List.mem_of_getElem? (i := 3) rfl)), (hw _ (List.mem_of_getElem? (i := 15) rfl))⟩)
  have E_MAT : Exa s s.heap a_MAT "com/example/eelgrass/eelgrass/sync/SyncErrorCode" := Exa.start ev_MAT nn5
  obtain ⟨a_MEM, ev_MEM⟩ := exa_v nn6
  have S_MEM : Sta s s.heap "com/example/eelgrass/eelgrass/sync/SyncErrorCode" "MEM" "Lcom/example/eelgrass/eelgrass/sync/SyncErrorCode;" (.ref a_MEM) := Sta.start ev_MEM (Or.inr ⟨(hw _ (List.mem_of_getElem? (i := 3) rfl)), (hw _ (List.mem_of_getElem? (i := 17) rfl))⟩)
  have E_MEM : Exa s s.heap a_MEM "com/example/eelgrass/eelgrass/sync/SyncErrorCode" := Exa.start ev_MEM nn6
  have F_ordinal_ERR : Fld s s.heap a_ERR "java/lang/Enum" "ordinal" "I" (.int 0) := own_fldI ev_ERR nn7
  have F_ordinal_MEM : Fld s s.heap a_MEM "java/lang/Enum" "ordinal" "I" (.int 6) := own_fldI ev_MEM nn8
  have F_ordinal_REQ : Fld s s.heap a_REQ "java/lang/Enum" "ordinal" "I" (.int 3) := own_fldI ev_REQ nn9
  have F_ordinal_MAT : Fld s s.heap a_MAT "java/lang/Enum" "ordinal" "I" (.int 5) := own_fldI ev_MAT nn10
  have F_ordinal_DNE : Fld s s.heap a_DNE "java/lang/Enum" "ordinal" "I" (.int 4) := own_fldI ev_DNE nn11
  have F_ordinal_LEN : Fld s s.heap a_LEN "java/lang/Enum" "ordinal" "I" (.int 2) := own_fldI ev_LEN nn12
  have F_ordinal_INV : Fld s s.heap a_INV "java/lang/Enum" "ordinal" "I" (.int 1) := own_fldI ev_INV nn13
  obtain ⟨n, o, h1, h2, h3, _, L, rfl, ⟨rfl, N⟩, hq⟩ := rm_law l s _ hw tables_1 i0 a_ERR a_INV a_LEN a_REQ a_DNE a_MAT a_MEM s.heap s.heap.size (Old.start s) S_ERR S_INV S_LEN S_REQ S_DNE S_MAT S_MEM E_ERR E_INV E_LEN E_REQ E_DNE E_MAT E_MEM (Fld.ne F_ordinal_ERR F_ordinal_MEM (by decide)) (Fld.ne F_ordinal_INV F_ordinal_MEM (by decide)) (Fld.ne F_ordinal_LEN F_ordinal_MEM (by decide)) (Fld.ne F_ordinal_REQ F_ordinal_MEM (by decide)) (Fld.ne F_ordinal_DNE F_ordinal_MEM (by decide)) (Fld.ne F_ordinal_MAT F_ordinal_MEM (by decide)) p e ha hc hk s m _ below hf ((Spec.applies_iff_loose hf).mp happ).1 ⟨rfl, State.Warmed39.refl s, rfl⟩ trivial
  refine ⟨n, _, h1, h2, h3, hpost _ _ _ _ _ _ ⟨Cond.after_iff.mpr rfl, Cond.after_iff.mpr (eq_i res_at (Term.int_eval (1)) rfl), trivial⟩ ⟨hq.1, hq.2.1, (hq.2.2.sift fun y hy => Or.inr (N y hy)).mono (by decide) (by decide)⟩⟩
theorem main_1_1 : Claimed_1_1 := comes_1 fun _ _ _ _ _ _ h hF => ⟨h.1, hF⟩
theorem main_1_2 : Claimed_1_2 := comes_1 fun _ _ _ _ _ _ h hF => ⟨h.2.1, hF⟩

end Jvm.Pilot.@@N@@
namespace Jvm.Pilot.@@N@@
open Jvm Jvm.ClassFile Sem Op Lib Jvm.Free Jvm.Stand Jvm.Pilot.@@N@@.Jvm.D
/-! MADE BY PROGRAM (witnessworld.py) out of the Statement's table words and the real class files: 15 classes; the members and pool entries that the words name. The judged class is class 1, her method 1. -/
namespace start1
open Jvm.ClassFile
def u (s : String) : CpInfo := .utf8 (stringToUtf16 s)
/-- a pool by its gaps: so many unusable entries, then the entry; so many at the end -/
def gap : Nat → List CpInfo → List CpInfo
  | 0, r => r
  | n + 1, r => .unusable :: gap n r
def poolList (es : List (Nat × CpInfo)) (last : Nat) : List CpInfo := es.foldr (fun e r => gap e.1 (e.2 :: r)) (gap last [])
def pool (es : List (Nat × CpInfo)) (last : Nat) : Array CpInfo := ⟨poolList es last⟩
def fileOf (pool : Array CpInfo) (this : Nat) (attrs : Array Attribute := #[]) (ms : Array MethodInfo := #[]) (fl : Nat := 33) (sup : Nat := 0) (ifs : Array Nat := #[]) (fds : Array FieldInfo := #[]) : ClassFile where
  minorVersion := 0
  majorVersion := 65
  constantPool := pool
  accessFlags := fl
  thisClass := this
  superClass := sup
  interfaces := ifs
  fields := fds
  methods := ms
  attributes := attrs
def plain (name : String) (sup : Option ClassId) : Class where
  name := name
  kind := .ordinary
  loader := none
  accessFlags := 33
  super := sup
  interfaces := #[]
  cf := none
  fields := #[]
  methods := #[]
  instanceTypes := #[]
  staticTypes := #[]
  resolved := #[]
  callSites := []
  init := .initialized
  statics := none
  mirror := none

def pool0 : Array CpInfo := pool [(5, u "<init>"), (0, u "()V"), (1, .class_ 10), (1, u "java/lang/Object")] 113

def k0m0 : Method := { name := "<init>", desc := "()V", sig := { parameters := [], returnType := none }, accessFlags := 1, code := none }
/-- java/lang/Object -/
def k0 : Class := { plain "java/lang/Object" none with
  accessFlags := 33
  interfaces := #[]
  cf := some (fileOf pool0 8 #[] #[{ accessFlags := 1, nameIndex := 5, descriptorIndex := 6, attributes := #[] }] 33 0 #[] #[])
  fields := #[]
  methods := #[k0m0]
  instanceTypes := #[]
  staticTypes := #[]
  resolved := Array.replicate 124 none
  statics := none }

def pool1 : Array CpInfo := pool [(2, .class_ 4), (1, u "java/lang/Object"), (0, u "<init>"), (0, u "()V"), (0, .class_ 8), (0, u "com/example/eelgrass/eelgrass/sync/SyncErrorCode"), (0, .fieldref 7 10), (0, .nameAndType 11 12), (0, u "ERR"), (0, u "Lcom/example/eelgrass/eelgrass/sync/SyncErrorCode;"), (0, .fieldref 7 14), (0, .nameAndType 15 12), (0, u "INV"), (0, .fieldref 7 17), (0, .nameAndType 18 12), (0, u "LEN"), (0, .fieldref 7 20), (0, .nameAndType 21 12), (0, u "REQ"), (0, .fieldref 7 23), (0, .nameAndType 24 12), (0, u "DNE"), (0, .fieldref 7 26), (0, .nameAndType 27 12), (0, u "MAT"), (0, .fieldref 7 29), (0, .nameAndType 30 12), (0, u "MEM"), (0, .integer 2147483647), (0, .methodref 7 33), (0, .nameAndType 34 35), (0, u "isError"), (0, u "()Z"), (0, .class_ 37), (0, u "com/example/eelgrass/eelgrass/sync/SyncErrorCodeIsErrorPinLaw"), (2, u "law"), (0, u "(I)Z")] 7

def k1m0 : Method := { name := "<init>", desc := "()V", sig := { parameters := [], returnType := none }, accessFlags := 1, code := none }
def k1c1 : Code := { maxStack := 4, maxLocals := 5, code := code, exceptionTable := #[], attributes := #[] }
def k1m1 : Method := { name := "law", desc := "(I)Z", sig := { parameters := [.int], returnType := some .boolean }, accessFlags := 9, code := some k1c1 }
/-- com/example/eelgrass/eelgrass/sync/SyncErrorCodeIsErrorPinLaw -/
def k1 : Class := { plain "com/example/eelgrass/eelgrass/sync/SyncErrorCodeIsErrorPinLaw" (some 0) with
  accessFlags := 49
  interfaces := #[]
  cf := some (fileOf pool1 36 #[] #[{ accessFlags := 1, nameIndex := 5, descriptorIndex := 6, attributes := #[] }, { accessFlags := 9, nameIndex := 40, descriptorIndex := 41, attributes := #[] }] 49 2 #[] #[])
  fields := #[]
  methods := #[k1m0, k1m1]
  instanceTypes := #[]
  staticTypes := #[]
  resolved := Array.replicate 49 none
  statics := none }

def pool2 : Array CpInfo := pool [(1, .class_ 2), (0, u "java/lang/constant/Constable"), (0, .class_ 4), (0, u "java/lang/Object")] 6

/-- java/lang/constant/Constable -/
def k2 : Class := { plain "java/lang/constant/Constable" (some 0) with
  accessFlags := 1537
  interfaces := #[]
  cf := some (fileOf pool2 1 #[] #[] 1537 3 #[] #[])
  fields := #[]
  methods := #[]
  instanceTypes := #[]
  staticTypes := #[]
  resolved := Array.replicate 11 none
  statics := none }

def pool3 : Array CpInfo := pool [(1, .class_ 2), (0, u "java/lang/Comparable"), (0, .class_ 4), (0, u "java/lang/Object")] 7

/-- java/lang/Comparable -/
def k3 : Class := { plain "java/lang/Comparable" (some 0) with
  accessFlags := 1537
  interfaces := #[]
  cf := some (fileOf pool3 1 #[] #[] 1537 3 #[] #[])
  fields := #[]
  methods := #[]
  instanceTypes := #[]
  staticTypes := #[]
  resolved := Array.replicate 12 none
  statics := none }

def pool4 : Array CpInfo := pool [(1, .class_ 2), (0, u "java/io/Serializable"), (0, .class_ 4), (0, u "java/lang/Object")] 2

/-- java/io/Serializable -/
def k4 : Class := { plain "java/io/Serializable" (some 0) with
  accessFlags := 1537
  interfaces := #[]
  cf := some (fileOf pool4 1 #[] #[] 1537 3 #[] #[])
  fields := #[]
  methods := #[]
  instanceTypes := #[]
  staticTypes := #[]
  resolved := Array.replicate 7 none
  statics := none }

def pool5 : Array CpInfo := pool [(2, .class_ 4), (1, u "java/lang/Enum"), (0, u "name"), (0, u "Ljava/lang/String;"), (2, u "ordinal"), (0, u "I"), (1, .class_ 14), (1, u "java/lang/Object"), (4, u "hash"), (86, .class_ 108), (1, u "java/lang/Enum$EnumDesc"), (2, .class_ 112), (0, u "java/lang/constant/Constable"), (0, .class_ 114), (0, u "java/lang/Comparable"), (0, .class_ 116), (0, u "java/io/Serializable")] 87

/-- java/lang/Enum -/
def k5 : Class := { plain "java/lang/Enum" (some 0) with
  accessFlags := 1057
  interfaces := #[2, 3, 4]
  cf := some (fileOf pool5 2 #[.nestMembers #[106]] #[] 1057 12 #[111, 113, 115] #[{ accessFlags := 18, nameIndex := 5, descriptorIndex := 6, attributes := #[] }, { accessFlags := 18, nameIndex := 9, descriptorIndex := 10, attributes := #[] }, { accessFlags := 2, nameIndex := 19, descriptorIndex := 10, attributes := #[] }])
  fields := #[{ name := "name", type := (.object "java/lang/String"), accessFlags := 18, slot := 0, constantValue := 0 }, { name := "ordinal", type := .int, accessFlags := 18, slot := 1, constantValue := 0 }, { name := "hash", type := .int, accessFlags := 2, slot := 2, constantValue := 0 }]
  methods := #[]
  instanceTypes := #[(.object "java/lang/String"), .int, .int]
  staticTypes := #[]
  resolved := Array.replicate 204 none
  statics := none }

def pool6 : Array CpInfo := pool [(1, .class_ 2), (0, u "com/example/eelgrass/eelgrass/sync/SyncErrorCode"), (2, u "ERR"), (0, u "Lcom/example/eelgrass/eelgrass/sync/SyncErrorCode;"), (2, u "INV"), (2, u "LEN"), (2, u "REQ"), (2, u "DNE"), (2, u "MAT"), (0, .fieldref 1 23), (0, .nameAndType 24 6), (0, u "MEM"), (2, u "$VALUES"), (0, u "[Lcom/example/eelgrass/eelgrass/sync/SyncErrorCode;"), (6, .class_ 37), (1, u "java/lang/Enum"), (8, u "meaning"), (0, u "Ljava/lang/String;"), (36, u "PRECEDENCE"), (0, u "Ljava/util/List;"), (9, u "isError"), (0, u "()Z")] 6

def k6c0 : Code := { maxStack := 2, maxLocals := 1, code := prog_34_method_5_code, exceptionTable := #[], attributes := #[] }
def k6m0 : Method := { name := "isError", desc := "()Z", sig := { parameters := [], returnType := some .boolean }, accessFlags := 1, code := some k6c0 }
/-- com/example/eelgrass/eelgrass/sync/SyncErrorCode -/
def k6 : Class := { plain "com/example/eelgrass/eelgrass/sync/SyncErrorCode" (some 5) with
  accessFlags := 16433
  interfaces := #[]
  cf := some (fileOf pool6 1 #[] #[{ accessFlags := 1, nameIndex := 95, descriptorIndex := 96, attributes := #[] }] 16433 35 #[] #[{ accessFlags := 16409, nameIndex := 5, descriptorIndex := 6, attributes := #[] }, { accessFlags := 16409, nameIndex := 9, descriptorIndex := 6, attributes := #[] }, { accessFlags := 16409, nameIndex := 12, descriptorIndex := 6, attributes := #[] }, { accessFlags := 16409, nameIndex := 15, descriptorIndex := 6, attributes := #[] }, { accessFlags := 16409, nameIndex := 18, descriptorIndex := 6, attributes := #[] }, { accessFlags := 16409, nameIndex := 21, descriptorIndex := 6, attributes := #[] }, { accessFlags := 16409, nameIndex := 24, descriptorIndex := 6, attributes := #[] }, { accessFlags := 25, nameIndex := 84, descriptorIndex := 85, attributes := #[] }, { accessFlags := 18, nameIndex := 46, descriptorIndex := 47, attributes := #[] }, { accessFlags := 4122, nameIndex := 27, descriptorIndex := 28, attributes := #[] }])
  fields := #[{ name := "ERR", type := (.object "com/example/eelgrass/eelgrass/sync/SyncErrorCode"), accessFlags := 16409, slot := 0, constantValue := 0 }, { name := "INV", type := (.object "com/example/eelgrass/eelgrass/sync/SyncErrorCode"), accessFlags := 16409, slot := 1, constantValue := 0 }, { name := "LEN", type := (.object "com/example/eelgrass/eelgrass/sync/SyncErrorCode"), accessFlags := 16409, slot := 2, constantValue := 0 }, { name := "REQ", type := (.object "com/example/eelgrass/eelgrass/sync/SyncErrorCode"), accessFlags := 16409, slot := 3, constantValue := 0 }, { name := "DNE", type := (.object "com/example/eelgrass/eelgrass/sync/SyncErrorCode"), accessFlags := 16409, slot := 4, constantValue := 0 }, { name := "MAT", type := (.object "com/example/eelgrass/eelgrass/sync/SyncErrorCode"), accessFlags := 16409, slot := 5, constantValue := 0 }, { name := "MEM", type := (.object "com/example/eelgrass/eelgrass/sync/SyncErrorCode"), accessFlags := 16409, slot := 6, constantValue := 0 }, { name := "PRECEDENCE", type := (.object "java/util/List"), accessFlags := 25, slot := 7, constantValue := 0 }, { name := "meaning", type := (.object "java/lang/String"), accessFlags := 18, slot := 3, constantValue := 0 }, { name := "$VALUES", type := (.array (.object "com/example/eelgrass/eelgrass/sync/SyncErrorCode")), accessFlags := 4122, slot := 8, constantValue := 0 }]
  methods := #[k6m0]
  instanceTypes := #[(.object "java/lang/String"), .int, .int, (.object "java/lang/String")]
  staticTypes := #[(.object "com/example/eelgrass/eelgrass/sync/SyncErrorCode"), (.object "com/example/eelgrass/eelgrass/sync/SyncErrorCode"), (.object "com/example/eelgrass/eelgrass/sync/SyncErrorCode"), (.object "com/example/eelgrass/eelgrass/sync/SyncErrorCode"), (.object "com/example/eelgrass/eelgrass/sync/SyncErrorCode"), (.object "com/example/eelgrass/eelgrass/sync/SyncErrorCode"), (.object "com/example/eelgrass/eelgrass/sync/SyncErrorCode"), (.object "java/util/List"), (.array (.object "com/example/eelgrass/eelgrass/sync/SyncErrorCode"))]
  resolved := Array.replicate 103 none
  statics := some 0 }

def pool7 : Array CpInfo := pool [(1, u "java/lang/Cloneable"), (0, .class_ 1), (0, u "java/lang/Object"), (0, .class_ 3)] 3

/-- java/lang/Cloneable -/
def k7 : Class := { plain "java/lang/Cloneable" (some 0) with
  accessFlags := 1537
  interfaces := #[]
  cf := some (fileOf pool7 2 #[] #[] 1537 4 #[] #[])
  fields := #[]
  methods := #[]
  instanceTypes := #[]
  staticTypes := #[]
  resolved := Array.replicate 8 none
  statics := none }

/-- the primitive boolean -/
def k8 : Class := { plain "boolean" none with kind := .primitive 'Z', accessFlags := 0x411 }
/-- [Z -/
def k9 : Class := { plain "[Z" (some 0) with kind := .array 8 .boolean, interfaces := #[7, 4], accessFlags := 1041 }

/-- the primitive byte -/
def k10 : Class := { plain "byte" none with kind := .primitive 'B', accessFlags := 0x411 }
/-- [B -/
def k11 : Class := { plain "[B" (some 0) with kind := .array 10 .byte, interfaces := #[7, 4], accessFlags := 1041 }

/-- the primitive int -/
def k12 : Class := { plain "int" none with kind := .primitive 'I', accessFlags := 0x411 }
/-- [I -/
def k13 : Class := { plain "[I" (some 0) with kind := .array 12 .int, interfaces := #[7, 4], accessFlags := 1041 }

/-- [Lcom/example/eelgrass/eelgrass/sync/SyncErrorCode; -/
def k14 : Class := { plain "[Lcom/example/eelgrass/eelgrass/sync/SyncErrorCode;" (some 0) with kind := .array 6 (.object "com/example/eelgrass/eelgrass/sync/SyncErrorCode"), interfaces := #[7, 4], accessFlags := 1041 }

def heap : Heap := #[{ cls := 6, slots := #[.ref 1, .ref 2, .ref 3, .ref 4, .ref 5, .ref 6, .ref 7, .null, .null], vm := .statics 6 },
  { cls := 6, slots := #[.null, .int 0, .int 0, .null], vm := .none },
  { cls := 6, slots := #[.null, .int 1, .int 0, .null], vm := .none },
  { cls := 6, slots := #[.null, .int 2, .int 0, .null], vm := .none },
  { cls := 6, slots := #[.null, .int 3, .int 0, .null], vm := .none },
  { cls := 6, slots := #[.null, .int 4, .int 0, .null], vm := .none },
  { cls := 6, slots := #[.null, .int 5, .int 0, .null], vm := .none },
  { cls := 6, slots := #[.null, .int 6, .int 0, .null], vm := .none }]
def classes : Array Class := #[k0, k1, k2, k3, k4, k5, k6, k7, k8, k9, k10, k11, k12, k13, k14]
def interned : List (Array UInt16 × Addr) := []
def slotsUsed : Nat := 37
def theMethod : MethodId := ⟨1, 1⟩
def args0 : Array Value := #[.int 5]
def aboutOver (below : List Frame) : State where
  vm := { classes := classes, interned := interned.toArray }
  heap := heap
  slotsUsed := slotsUsed
  threads := #[{ frames := .invoking theMethod args0 :: below }]
def below0 : List Frame := [.native { method := ⟨0, 0⟩, args := #[] }]
def about1 : State := aboutOver below0
def p0 : Program := .bare "" "" ""
def e0 : Env := launch0.env 0 0 0
theorem w_frames : about1.frames = Frame.invoking theMethod args0 :: below0 := rfl
set_option maxRecDepth 65536 in
theorem w_args : argsFit about1.vm theMethod args0 = true := by decide +kernel
set_option maxRecDepth 65536 in
theorem w_heap : heapFits about1 = true := by decide +kernel
set_option maxRecDepth 65536 in
theorem w_runnable : about1.curStatus? = some .runnable := by decide +kernel
set_option maxRecDepth 65536 in
theorem w_alone : about1.alone = true := by decide +kernel
set_option maxRecDepth 65536 in
theorem w_named : about1.methodNamed? x = some theMethod := by decide +kernel
set_option maxRecDepth 65536 in
theorem w_hears : about1.hears theMethod below0 = true := by decide +kernel
set_option maxRecDepth 65536 in
theorem w_ripe : about1.ripe theMethod args0 below0 = true := by decide +kernel
theorem w_running : about1.status = .running := rfl
set_option maxRecDepth 65536 in
theorem w_room : about1.hasRoom e0.platform room_1 = true :=
  launch0.hasRoom_least _ room_1 (by decide +kernel) (by decide +kernel) (by decide +kernel) (by decide +kernel) (by decide +kernel) (by decide +kernel)
theorem allAtoms_all (ts : List Jvm.Cond) (a : Array Jvm.Value) (st : Jvm.State) : (allAtoms ts).before a st = ts.all (fun c => c.before a st) := by
  induction ts with
  | nil => rfl
  | cons c t ih =>
    show (Jvm.Cond.and c (allAtoms t)).before a st = _
    rw [Jvm.Cond.before_and, ih, List.all_cons]
def words1 : List Jvm.Cond := Jvm.Cond.code x code maxLocals ret :: tables_1
/-- a 'code' word, met by the world's own term for the bytes: nothing is compared byte by byte -/
theorem code_word {y : MethodName} {bytes : ByteArray} {mx : Nat} {rt : Option FieldType} {a : Array Value} {s : State} {m : MethodId} {meth : Method} {c : Code} (h1 : s.methodNamed? y = some m) (h2 : s.vm.method? m = some meth) (h3 : meth.code = some c) (h4 : c.code = bytes)
    (h5 : (c.maxLocals == mx && c.exceptionTable.isEmpty && decide (c.maxStack ≤ mostOperands) && decide (meth.sig.returnType = rt) && !meth.locks && decide (parseMethodDescriptor y.desc = some meth.sig)) = true) : (Jvm.Cond.code y bytes mx rt).before a s = true := by
  simp only [Bool.and_eq_true, beq_iff_eq, Bool.not_eq_true', decide_eq_true_eq] at h5
  obtain ⟨⟨⟨⟨⟨g1, g2⟩, g3⟩, g4⟩, g5⟩, g6⟩ := h5
  simp [Cond.before, Cond.holds, Cond.value, h1, h2, h3, h4, g1, g2, g3, g4, g5, g6]
def isCode : Jvm.Cond → Bool
  | .code _ _ _ _ => true
  | _ => false
theorem all_split {L : List Jvm.Cond} {P : Jvm.Cond → Bool} (h1 : L.all (fun c => isCode c || P c) = true) (h2 : ∀ c ∈ L.filter isCode, P c = true) : L.all P = true := by
  refine List.all_eq_true.mpr fun c hc => ?_
  have h := List.all_eq_true.mp h1 c hc
  rcases Bool.eq_false_or_eq_true (isCode c) with hi | hi
  · exact h2 c (List.mem_filter.mpr ⟨hc, hi⟩)
  · simpa [hi] using h
set_option maxRecDepth 65536 in
theorem w_c0 : (Jvm.Cond.code x code maxLocals ret).before args0 about1 = true := code_word (m := ⟨1, 1⟩) (meth := k1m1) (c := k1c1) (by decide +kernel) rfl rfl rfl (by decide +kernel)
set_option maxRecDepth 65536 in
theorem w_c1 : (Jvm.Cond.code ({ cls := "com/example/eelgrass/eelgrass/sync/SyncErrorCode", name := "isError", desc := "()Z" } : Jvm.MethodName) prog_34_method_5_code (1 : Nat) (Option.some Jvm.ClassFile.FieldType.boolean)).before args0 about1 = true := code_word (m := ⟨6, 0⟩) (meth := k6m0) (c := k6c0) (by decide +kernel) rfl rfl rfl (by decide +kernel)
def codes1 : List Jvm.Cond := [Jvm.Cond.code x code maxLocals ret, Jvm.Cond.code ({ cls := "com/example/eelgrass/eelgrass/sync/SyncErrorCode", name := "isError", desc := "()Z" } : Jvm.MethodName) prog_34_method_5_code (1 : Nat) (Option.some Jvm.ClassFile.FieldType.boolean)]
set_option maxRecDepth 65536 in
theorem codes_eq : words1.filter isCode = codes1 := rfl
theorem w_codes : ∀ c ∈ words1.filter isCode, c.before args0 about1 = true := by
  rw [codes_eq]
  intro c hc
  simp only [codes1, List.mem_cons, List.not_mem_nil, or_false] at hc
  rcases hc with rfl | rfl
  · exact w_c0
  · exact w_c1
set_option maxRecDepth 65536 in
theorem w_t1 : (words1.take 24).all (fun c => isCode c || c.before args0 about1) = true := by decide +kernel
set_option maxRecDepth 65536 in
theorem w_t2 : (words1.drop 24).all (fun c => isCode c || c.before args0 about1) = true := by decide +kernel
theorem w_tables : (allAtoms (Jvm.Cond.code x code maxLocals ret :: tables_1)).before args0 about1 = true := by
  rw [allAtoms_all]
  show words1.all (fun c => c.before args0 about1) = true
  refine all_split ?_ w_codes
  rw [← List.take_append_drop 24 words1, List.all_append, w_t1, w_t2]
  rfl
set_option maxRecDepth 65536 in
theorem w_case : (Jvm.Cond.and given_1 narrow_1).before args0 about1 = true := by decide +kernel
theorem w_applies : (headSpec (Jvm.Cond.code x code maxLocals ret :: tables_1) room_1).applies x e0.platform about1 = true :=
  (Spec.applies_iff w_frames).mpr ⟨w_running, w_runnable, w_alone, w_named, w_hears, w_ripe, w_room, w_tables⟩
theorem atStart : AtStart classFile x code maxLocals ret World_1 tables_1 room_1 Calls_1 rest_1 Pre_1 launch0 p0 e0 about1 theMethod args0 below0 :=
  ⟨lists_1, trivial, launch0.admits_env _ _ _, launch0.least_env, fairChoices_fair.cas, fairChoices_fair.clock, w_frames, w_args, w_heap, w_applies, trivial, trivial, w_case⟩
end start1
theorem witness_1 : WitnessClaimed_1 := ⟨start1.p0, start1.e0, start1.about1, start1.theMethod, start1.args0, start1.below0, start1.atStart⟩
end Jvm.Pilot.@@N@@
