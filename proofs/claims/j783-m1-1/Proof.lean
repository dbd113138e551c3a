import JvmDerived
import JvmDerived.Pilot.@@N@@Statement
import JvmDerived.Pilot.@@N@@Code
set_option linter.unusedVariables false
set_option linter.unusedSimpArgs false
namespace Jvm.RoadKit
open Sem ClassFile Op Lib Jvm.Stand Jvm.Free Jvm.LawKit
section New
variable {p : Program} {l : Launch} {e : Env} {R : Room} {s : State} {m : MethodId} {args : Array Value} {below : List Frame} {meth : Method} {c : Code} {T : State} {locs : List Loc} {cells slots : Nat}
theorem retI (X : Stand p l e R s m args below meth c T locs cells slots) (hx : p.tables.exec = Jvm.exec) {pc : Nat} {Ls : Array Slot} {z : Int32} {rest : List Value} (hret : meth.sig.returnType = some .int) (hd : decode c.code pc = .ok (.ireturn, 1)) {fs : List Frame}
    (hl : ∀ (f : JFrame) (acts : List Action), f.method = m → f.locked = none → f.entered = [] → (doReturn e (T.setTop f) acts (some (.int z))).1 = T.setFrames fs) : Steps p.tables e below (T.setTop (mkF m pc Ls (.int z :: rest))) (T.setFrames fs) := by
  have hm' : T.vm.method? m = some meth := X.method'
  have hn : narrow .int (.int z) = .int z := rfl
  show Steps p.tables e below (T.setTop { method := m, pc := pc, locals := Ls, stack := _ :: rest, locked := none }) _
  jvm_step X.here [X.here.top, hx, hd, hm', hret, hn]
  first | (intro acts; rw [hl _ acts rfl rfl rfl]) | rw [hl _ _ rfl rfl rfl]
  exact Steps.refl _
theorem own_retJ (X : Stand p l e R s m args below meth c T locs cells slots) (hx : p.tables.exec = Jvm.exec) {pc : Nat} {Ls : Array Slot} {z : Int64} {rest : List Value} (hret : meth.sig.returnType = some .long) (hd : decode c.code pc = .ok (.lreturn, 1)) {fs : List Frame}
    (hl : ∀ (f : JFrame) (acts : List Action), f.method = m → f.locked = none → f.entered = [] → (doReturn e (T.setTop f) acts (some (.long z))).1 = T.setFrames fs) : Steps p.tables e below (T.setTop (mkF m pc Ls (.long z :: rest))) (T.setFrames fs) := by
  have hm' : T.vm.method? m = some meth := X.method'
  show Steps p.tables e below (T.setTop { method := m, pc := pc, locals := Ls, stack := _ :: rest, locked := none }) _
  jvm_step X.here [X.here.top, hx, hd, hm', hret, narrow]
  first | (intro acts; rw [hl _ acts rfl rfl rfl]) | rw [hl _ _ rfl rfl rfl]
  exact Steps.refl _
theorem own_retD (X : Stand p l e R s m args below meth c T locs cells slots) (hx : p.tables.exec = Jvm.exec) {pc : Nat} {Ls : Array Slot} {z : UInt64} {rest : List Value} (hret : meth.sig.returnType = some .double) (hd : decode c.code pc = .ok (.dreturn, 1)) {fs : List Frame}
    (hl : ∀ (f : JFrame) (acts : List Action), f.method = m → f.locked = none → f.entered = [] → (doReturn e (T.setTop f) acts (some (.double z))).1 = T.setFrames fs) : Steps p.tables e below (T.setTop (mkF m pc Ls (.double z :: rest))) (T.setFrames fs) := by
  have hm' : T.vm.method? m = some meth := X.method'
  show Steps p.tables e below (T.setTop { method := m, pc := pc, locals := Ls, stack := _ :: rest, locked := none }) _
  jvm_step X.here [X.here.top, hx, hd, hm', hret, narrow]
  first | (intro acts; rw [hl _ acts rfl rfl rfl]) | rw [hl _ _ rfl rfl rfl]
  exact Steps.refl _
/-- from T, with the frame g on top, the run comes to an end of the kind that Q tells; Fe: the frame of that end -/
def Goes (p : Program) (e : Env) (below : List Frame) (s : State) (Fe : State → Outcome → State → List Loc → Nat → Nat → Prop) (kc ks : Nat) (Q : Option Value → Heap → List Loc → Prop) (T : State) (g : JFrame) : Prop :=
  ∃ s₂ o, Steps p.tables e below (T.setTop g) s₂ ∧ s₂.status = .running ∧ Ended s₂ below o ∧ ∃ v L, o = .returned v ∧ Q v s₂.heap L ∧ Fe s o s₂ L kc ks
/-- a wide end that keeps the invariant of the held constants -/
def HeldEnd (Z : State) (EL : List (String × Nat)) (s : State) (o : Outcome) (t : State) (L : List Loc) (k n : Nat) : Prop := CHr Z EL s.vm s.heap t.vm t.heap ∧ ReturnedEndW s o t L k n
variable {kc ks : Nat} {Q : Option Value → Heap → List Loc → Prop} {T' : State} {Fe : State → Outcome → State → List Loc → Nat → Nat → Prop}
theorem Goes.go {g g' : JFrame} (h : ∀ t, Steps p.tables e below (T'.setTop g') t → Steps p.tables e below (T.setTop g) t) (k : Goes p e below s Fe kc ks Q T' g') : Goes p e below s Fe kc ks Q T g := by
  obtain ⟨s₂, o, h1, h2⟩ := k
  exact ⟨s₂, o, h _ h1, h2⟩
theorem Goes.to {g : JFrame} (g' : JFrame) (h : ∀ t, Steps p.tables e below (T'.setTop g') t → Steps p.tables e below (T.setTop g) t) (k : Goes p e below s Fe kc ks Q T' g') : Goes p e below s Fe kc ks Q T g := k.go h
theorem Goes.cast {g g' : JFrame} (q : g = g') (k : Goes p e below s Fe kc ks Q T g') : Goes p e below s Fe kc ks Q T g := q ▸ k
theorem Goes.retN (X : Stand p l e R s m args below meth c T locs cells slots) (hx : p.tables.exec = Jvm.exec) (hlk : meth.locks = false) {pc : Nat} {Ls : Array Slot} {z : Int32} {t : FieldType} {rest : List Value} (hret : meth.sig.returnType = some t) (ht : t = .boolean ∨ t = .byte ∨ t = .char ∨ t = .short) (hd : decode c.code pc = .ok (.ireturn, 1)) (hc : cells ≤ kc) (hs : slots ≤ ks) (hQ : Q (some (.int (nar t z))) T.heap locs) : Goes p e below s FrameEnd kc ks Q T (mkF m pc Ls (.int z :: rest)) := by
  obtain ⟨fs, hr, hrun, hended, hW, hsame⟩ := X.leave (v := some (.int (nar t z))) (fun h => by rw [hret] at h; cases h) hlk
  exact ⟨_, _, RoadKit.retN X hx hret ht hd hr, hrun, hended, _, _, rfl, hQ, ⟨_, rfl⟩, hW, hsame.mono hc hs⟩
theorem Goes.retNW {vm1 : Vm} {k0 : Nat} (X : Stand p l e R (s.setVm vm1) m args below meth c T locs cells slots) (hx : p.tables.exec = Jvm.exec) (hlk : meth.locks = false) (hS : s.Since vm1 k0) (hk : k0 ≤ T.heap.size) {pc : Nat} {Ls : Array Slot} {z : Int32} {t : FieldType} {rest : List Value} (hret : meth.sig.returnType = some t) (ht : t = .boolean ∨ t = .byte ∨ t = .char ∨ t = .short) (hd : decode c.code pc = .ok (.ireturn, 1)) (hc : cells ≤ kc) (hs : slots ≤ ks) (hQ : Q (some (.int (nar t z))) T.heap locs) : Goes p e below s ReturnedEndW kc ks Q T (mkF m pc Ls (.int z :: rest)) := by
  obtain ⟨fs, hr, hrun, hended, h1, h2, h3, hsame⟩ := X.leaveW hS hk (v := some (.int (nar t z))) (fun h => by rw [hret] at h; cases h) hlk
  exact ⟨_, _, RoadKit.retN X hx hret ht hd hr, hrun, hended, _, _, rfl, hQ, h1, h2, h3, hsame.mono hc hs⟩
theorem Goes.retI (X : Stand p l e R s m args below meth c T locs cells slots) (hx : p.tables.exec = Jvm.exec) (hlk : meth.locks = false) {pc : Nat} {Ls : Array Slot} {z : Int32} {rest : List Value} (hret : meth.sig.returnType = some .int) (hd : decode c.code pc = .ok (.ireturn, 1)) (hc : cells ≤ kc) (hs : slots ≤ ks) (hQ : Q (some (.int z)) T.heap locs) : Goes p e below s FrameEnd kc ks Q T (mkF m pc Ls (.int z :: rest)) := by
  obtain ⟨fs, hr, hrun, hended, hW, hsame⟩ := X.leave (v := some (.int z)) (fun h => by rw [hret] at h; cases h) hlk
  exact ⟨_, _, RoadKit.retI X hx hret hd hr, hrun, hended, _, _, rfl, hQ, ⟨_, rfl⟩, hW, hsame.mono hc hs⟩
theorem Goes.retIW {vm1 : Vm} {k0 : Nat} (X : Stand p l e R (s.setVm vm1) m args below meth c T locs cells slots) (hx : p.tables.exec = Jvm.exec) (hlk : meth.locks = false) (hS : s.Since vm1 k0) (hk : k0 ≤ T.heap.size) {pc : Nat} {Ls : Array Slot} {z : Int32} {rest : List Value} (hret : meth.sig.returnType = some .int) (hd : decode c.code pc = .ok (.ireturn, 1)) (hc : cells ≤ kc) (hs : slots ≤ ks) (hQ : Q (some (.int z)) T.heap locs) : Goes p e below s ReturnedEndW kc ks Q T (mkF m pc Ls (.int z :: rest)) := by
  obtain ⟨fs, hr, hrun, hended, h1, h2, h3, hsame⟩ := X.leaveW hS hk (v := some (.int z)) (fun h => by rw [hret] at h; cases h) hlk
  exact ⟨_, _, RoadKit.retI X hx hret hd hr, hrun, hended, _, _, rfl, hQ, h1, h2, h3, hsame.mono hc hs⟩
theorem Goes.retJ (X : Stand p l e R s m args below meth c T locs cells slots) (hx : p.tables.exec = Jvm.exec) (hlk : meth.locks = false) {pc : Nat} {Ls : Array Slot} {z : Int64} {rest : List Value} (hret : meth.sig.returnType = some .long) (hd : decode c.code pc = .ok (.lreturn, 1)) (hc : cells ≤ kc) (hs : slots ≤ ks) (hQ : Q (some (.long z)) T.heap locs) : Goes p e below s FrameEnd kc ks Q T (mkF m pc Ls (.long z :: rest)) := by
  obtain ⟨fs, hr, hrun, hended, hW, hsame⟩ := X.leave (v := some (.long z)) (fun h => by rw [hret] at h; cases h) hlk
  exact ⟨_, _, own_retJ X hx hret hd hr, hrun, hended, _, _, rfl, hQ, ⟨_, rfl⟩, hW, hsame.mono hc hs⟩
theorem Goes.retJW {vm1 : Vm} {k0 : Nat} (X : Stand p l e R (s.setVm vm1) m args below meth c T locs cells slots) (hx : p.tables.exec = Jvm.exec) (hlk : meth.locks = false) (hS : s.Since vm1 k0) (hk : k0 ≤ T.heap.size) {pc : Nat} {Ls : Array Slot} {z : Int64} {rest : List Value} (hret : meth.sig.returnType = some .long) (hd : decode c.code pc = .ok (.lreturn, 1)) (hc : cells ≤ kc) (hs : slots ≤ ks) (hQ : Q (some (.long z)) T.heap locs) : Goes p e below s ReturnedEndW kc ks Q T (mkF m pc Ls (.long z :: rest)) := by
  obtain ⟨fs, hr, hrun, hended, h1, h2, h3, hsame⟩ := X.leaveW hS hk (v := some (.long z)) (fun h => by rw [hret] at h; cases h) hlk
  exact ⟨_, _, own_retJ X hx hret hd hr, hrun, hended, _, _, rfl, hQ, h1, h2, h3, hsame.mono hc hs⟩
theorem Goes.retD (X : Stand p l e R s m args below meth c T locs cells slots) (hx : p.tables.exec = Jvm.exec) (hlk : meth.locks = false) {pc : Nat} {Ls : Array Slot} {z : UInt64} {rest : List Value} (hret : meth.sig.returnType = some .double) (hd : decode c.code pc = .ok (.dreturn, 1)) (hc : cells ≤ kc) (hs : slots ≤ ks) (hQ : Q (some (.double z)) T.heap locs) : Goes p e below s FrameEnd kc ks Q T (mkF m pc Ls (.double z :: rest)) := by
  obtain ⟨fs, hr, hrun, hended, hW, hsame⟩ := X.leave (v := some (.double z)) (fun h => by rw [hret] at h; cases h) hlk
  exact ⟨_, _, own_retD X hx hret hd hr, hrun, hended, _, _, rfl, hQ, ⟨_, rfl⟩, hW, hsame.mono hc hs⟩
theorem Goes.retDW {vm1 : Vm} {k0 : Nat} (X : Stand p l e R (s.setVm vm1) m args below meth c T locs cells slots) (hx : p.tables.exec = Jvm.exec) (hlk : meth.locks = false) (hS : s.Since vm1 k0) (hk : k0 ≤ T.heap.size) {pc : Nat} {Ls : Array Slot} {z : UInt64} {rest : List Value} (hret : meth.sig.returnType = some .double) (hd : decode c.code pc = .ok (.dreturn, 1)) (hc : cells ≤ kc) (hs : slots ≤ ks) (hQ : Q (some (.double z)) T.heap locs) : Goes p e below s ReturnedEndW kc ks Q T (mkF m pc Ls (.double z :: rest)) := by
  obtain ⟨fs, hr, hrun, hended, h1, h2, h3, hsame⟩ := X.leaveW hS hk (v := some (.double z)) (fun h => by rw [hret] at h; cases h) hlk
  exact ⟨_, _, own_retD X hx hret hd hr, hrun, hended, _, _, rfl, hQ, h1, h2, h3, hsame.mono hc hs⟩
theorem Goes.retA (X : Stand p l e R s m args below meth c T locs cells slots) (hx : p.tables.exec = Jvm.exec) (hlk : meth.locks = false) {pc : Nat} {Ls : Array Slot} {w : Value} {t : FieldType} (hw : w.isRef = true) (hret : meth.sig.returnType = some t) (ht : t.isReference = true) (hd : decode c.code pc = .ok (.areturn, 1)) (hc : cells ≤ kc) (hs : slots ≤ ks) (hQ : Q (some w) T.heap locs) : Goes p e below s FrameEnd kc ks Q T (mkF m pc Ls [w]) := by
  obtain ⟨fs, hr, hrun, hended, hW, hsame⟩ := X.leave (v := some w) (fun h => by rw [hret] at h; cases h) hlk
  exact ⟨_, _, X.areturnOut hx hw hret ht hd hr, hrun, hended, _, _, rfl, hQ, ⟨_, rfl⟩, hW, hsame.mono hc hs⟩
theorem Goes.retAW {vm1 : Vm} {k0 : Nat} (X : Stand p l e R (s.setVm vm1) m args below meth c T locs cells slots) (hx : p.tables.exec = Jvm.exec) (hlk : meth.locks = false) (hS : s.Since vm1 k0) (hk : k0 ≤ T.heap.size) {pc : Nat} {Ls : Array Slot} {w : Value} {t : FieldType} (hw : w.isRef = true) (hret : meth.sig.returnType = some t) (ht : t.isReference = true) (hd : decode c.code pc = .ok (.areturn, 1)) (hc : cells ≤ kc) (hs : slots ≤ ks) (hQ : Q (some w) T.heap locs) : Goes p e below s ReturnedEndW kc ks Q T (mkF m pc Ls [w]) := by
  obtain ⟨fs, hr, hrun, hended, h1, h2, h3, hsame⟩ := X.leaveW hS hk (v := some w) (fun h => by rw [hret] at h; cases h) hlk
  exact ⟨_, _, X.areturnOut hx hw hret ht hd hr, hrun, hended, _, _, rfl, hQ, h1, h2, h3, hsame.mono hc hs⟩
theorem Goes.retV (X : Stand p l e R s m args below meth c T locs cells slots) (hx : p.tables.exec = Jvm.exec) (hlk : meth.locks = false) {pc : Nat} {Ls : Array Slot} (hret : meth.sig.returnType = none) (hd : decode c.code pc = .ok (.return_, 1)) (hc : cells ≤ kc) (hs : slots ≤ ks) (hQ : Q (none) T.heap locs) : Goes p e below s FrameEnd kc ks Q T (mkF m pc Ls []) := by
  obtain ⟨fs, hr, hrun, hended, hW, hsame⟩ := X.leave (v := none) (fun _ => rfl) hlk
  exact ⟨_, _, X.returnOut hx hret hd hr, hrun, hended, _, _, rfl, hQ, ⟨_, rfl⟩, hW, hsame.mono hc hs⟩
theorem Goes.retVW {vm1 : Vm} {k0 : Nat} (X : Stand p l e R (s.setVm vm1) m args below meth c T locs cells slots) (hx : p.tables.exec = Jvm.exec) (hlk : meth.locks = false) (hS : s.Since vm1 k0) (hk : k0 ≤ T.heap.size) {pc : Nat} {Ls : Array Slot} (hret : meth.sig.returnType = none) (hd : decode c.code pc = .ok (.return_, 1)) (hc : cells ≤ kc) (hs : slots ≤ ks) (hQ : Q (none) T.heap locs) : Goes p e below s ReturnedEndW kc ks Q T (mkF m pc Ls []) := by
  obtain ⟨fs, hr, hrun, hended, h1, h2, h3, hsame⟩ := X.leaveW hS hk (v := none) (fun _ => rfl) hlk
  exact ⟨_, _, X.returnOut hx hret hd hr, hrun, hended, _, _, rfl, hQ, h1, h2, h3, hsame.mono hc hs⟩
theorem Goes.retNH {vm1 : Vm} {k0 : Nat} {Z : State} {a0 : Array Value} {EL : List (String × Nat)} (X : Stand p l e R (s.setVm vm1) m args below meth c T locs cells slots) (hx : p.tables.exec = Jvm.exec) (hlk : meth.locks = false) (hS : s.Since vm1 k0) (hk : k0 ≤ T.heap.size) (hZ : Z.Warmed39 vm1) (hEL : EW Z a0 EL) (C : CHr Z EL s.vm s.heap vm1 T.heap) {pc : Nat} {Ls : Array Slot} {z : Int32} {t : FieldType} {rest : List Value} (hret : meth.sig.returnType = some t) (ht : t = .boolean ∨ t = .byte ∨ t = .char ∨ t = .short) (hd : decode c.code pc = .ok (.ireturn, 1)) (hc : cells ≤ kc) (hs : slots ≤ ks) (hQ : Q (some (.int (nar t z))) T.heap locs) : Goes p e below s (HeldEnd Z EL) kc ks Q T (mkF m pc Ls (.int z :: rest)) := by
  obtain ⟨fs, hr, hrun, hended, h1, h2, h3, hsame⟩ := X.leaveW hS hk (v := some (.int (nar t z))) (fun h => by rw [hret] at h; cases h) hlk
  exact ⟨_, _, RoadKit.retN X hx hret ht hd hr, hrun, hended, _, _, rfl, hQ, C.trans (CHv.at (T := T) X hZ hEL C.1), h1, h2, h3, hsame.mono hc hs⟩
theorem Goes.retIH {vm1 : Vm} {k0 : Nat} {Z : State} {a0 : Array Value} {EL : List (String × Nat)} (X : Stand p l e R (s.setVm vm1) m args below meth c T locs cells slots) (hx : p.tables.exec = Jvm.exec) (hlk : meth.locks = false) (hS : s.Since vm1 k0) (hk : k0 ≤ T.heap.size) (hZ : Z.Warmed39 vm1) (hEL : EW Z a0 EL) (C : CHr Z EL s.vm s.heap vm1 T.heap) {pc : Nat} {Ls : Array Slot} {z : Int32} {rest : List Value} (hret : meth.sig.returnType = some .int) (hd : decode c.code pc = .ok (.ireturn, 1)) (hc : cells ≤ kc) (hs : slots ≤ ks) (hQ : Q (some (.int z)) T.heap locs) : Goes p e below s (HeldEnd Z EL) kc ks Q T (mkF m pc Ls (.int z :: rest)) := by
  obtain ⟨fs, hr, hrun, hended, h1, h2, h3, hsame⟩ := X.leaveW hS hk (v := some (.int z)) (fun h => by rw [hret] at h; cases h) hlk
  exact ⟨_, _, RoadKit.retI X hx hret hd hr, hrun, hended, _, _, rfl, hQ, C.trans (CHv.at (T := T) X hZ hEL C.1), h1, h2, h3, hsame.mono hc hs⟩
theorem Goes.retAH {vm1 : Vm} {k0 : Nat} {Z : State} {a0 : Array Value} {EL : List (String × Nat)} (X : Stand p l e R (s.setVm vm1) m args below meth c T locs cells slots) (hx : p.tables.exec = Jvm.exec) (hlk : meth.locks = false) (hS : s.Since vm1 k0) (hk : k0 ≤ T.heap.size) (hZ : Z.Warmed39 vm1) (hEL : EW Z a0 EL) (C : CHr Z EL s.vm s.heap vm1 T.heap) {pc : Nat} {Ls : Array Slot} {w : Value} {t : FieldType} (hw : w.isRef = true) (hret : meth.sig.returnType = some t) (ht : t.isReference = true) (hd : decode c.code pc = .ok (.areturn, 1)) (hc : cells ≤ kc) (hs : slots ≤ ks) (hQ : Q (some w) T.heap locs) : Goes p e below s (HeldEnd Z EL) kc ks Q T (mkF m pc Ls [w]) := by
  obtain ⟨fs, hr, hrun, hended, h1, h2, h3, hsame⟩ := X.leaveW hS hk (v := some w) (fun h => by rw [hret] at h; cases h) hlk
  exact ⟨_, _, X.areturnOut hx hw hret ht hd hr, hrun, hended, _, _, rfl, hQ, C.trans (CHv.at (T := T) X hZ hEL C.1), h1, h2, h3, hsame.mono hc hs⟩
theorem Goes.retVH {vm1 : Vm} {k0 : Nat} {Z : State} {a0 : Array Value} {EL : List (String × Nat)} (X : Stand p l e R (s.setVm vm1) m args below meth c T locs cells slots) (hx : p.tables.exec = Jvm.exec) (hlk : meth.locks = false) (hS : s.Since vm1 k0) (hk : k0 ≤ T.heap.size) (hZ : Z.Warmed39 vm1) (hEL : EW Z a0 EL) (C : CHr Z EL s.vm s.heap vm1 T.heap) {pc : Nat} {Ls : Array Slot} (hret : meth.sig.returnType = none) (hd : decode c.code pc = .ok (.return_, 1)) (hc : cells ≤ kc) (hs : slots ≤ ks) (hQ : Q (none) T.heap locs) : Goes p e below s (HeldEnd Z EL) kc ks Q T (mkF m pc Ls []) := by
  obtain ⟨fs, hr, hrun, hended, h1, h2, h3, hsame⟩ := X.leaveW hS hk (v := none) (fun _ => rfl) hlk
  exact ⟨_, _, X.returnOut hx hret hd hr, hrun, hended, _, _, rfl, hQ, C.trans (CHv.at (T := T) X hZ hEL C.1), h1, h2, h3, hsame.mono hc hs⟩
end New
/-- a boolean as the machine holds it -/
def bit (P : Prop) [Decidable P] : Int32 := if P then 1 else 0
theorem bit_t {P : Prop} [Decidable P] (h : P) : bit P = 1 := if_pos h
theorem bit_f {P : Prop} [Decidable P] (h : ¬ P) : bit P = 0 := if_neg h
theorem nar_bit (P : Prop) [Decidable P] : nar .boolean (bit P) = bit P := by unfold bit; split <;> rfl
theorem bit_ne {P : Prop} [Decidable P] : ¬ bit P = 0 ↔ P := by unfold bit; split <;> simp_all
theorem bit_eq {P R : Prop} [Decidable P] [Decidable R] : bit P = bit R ↔ (P ↔ R) := by unfold bit; split <;> split <;> simp_all
theorem own_selPriv {Z s : State} {a0 args : Array Value} {y : MethodName} {n : Nat} (hZ : Z.Warmed39 s.vm) (wi : (Cond.instantiable y.cls n).before a0 Z = true) (wp : (Cond.privateMethod y).before a0 Z = true) (wm : (Cond.instanceMethod y).before a0 Z = true) (hy : y.cls ≠ "java/lang/invoke/MethodHandle" ∧ y.cls ≠ "java/lang/invoke/VarHandle") : (Cond.selects y.cls y y).before args s = true := by
  obtain ⟨c, k, h1, h2, h3, h4, -⟩ := Cond.instantiable_spec (mv hZ wi : (Cond.instantiable y.cls n).before args s = true)
  exact selects_self_of_private h1 h2 (Bool.or_eq_false_iff.mp h4).1 (Cond.privateMethod_at (mvP hZ wp (args := args))) (mv hZ wm) hy
theorem own_fldI {s : State} {args : Array Value} {t : Term} {a : Addr} {C n d : String} {k : Int32} (ev : t.eval args s none [] s = some (.ref a)) (h : (Jvm.Cond.eq (Term.field t C n d) (Term.int k)).value args s none s [] = some true) : Fld s s.heap a C n d (.int k) := by
  obtain ⟨x, y, h1, h2, h3, h4⟩ := cmp_v (Or.inl h)
  obtain rfl : Value.int k = y := Option.some.inj h2
  obtain ⟨z, rfl⟩ := h4
  have q : z = k := by simpa [Cond.value, h1, h2] using h
  subst q
  exact Fld.start ((fld_at ev).symm.trans h1)
end Jvm.RoadKit
/- laws to paste: Road.backV, Road.eqW, Road.codOf (cut by pick.py; bodies as the Statement names them) -/
namespace Jvm.Pilot.@@N@@
namespace StrChars
open Jvm Sem ClassFile Op Lib Jvm.Stand Jvm.Free.XT Jvm.Free.ALB Jvm.Free.JM Jvm.Free
open Jvm.Lib.Cold (StaticIs)
/-- a char array whose places are chars -/
def Ch (a : Addr) (A : Cell) (U : State) : Prop := Arr .char a A U ∧ Typed .char A
theorem Ch.mv {a : Addr} {A : Cell} {U U' : State} (h : Ch a A U) (hal : U.vm.Alike U'.vm) (hh : U'.heap = U.heap) : Ch a A U' := ⟨h.1.mv hal hh, h.2⟩
theorem Ch.keep {a : Addr} {A : Cell} {U U' : State} (h : Ch a A U) (hal : U.vm.Alike U'.vm) (hk : U'.heap[a]? = some A) : Ch a A U' := ⟨h.1.keep hal hk, h.2⟩
/-- what place i of a char[]'s cell holds -/
def cv (A : Cell) (i : Nat) : Int32 := match A.slots[i]? with | some (.int x) => x | _ => 0
theorem Ch.get {a : Addr} {A : Cell} {U : State} (h : Ch a A U) {i : Nat} (hi : i < A.slots.size) : A.slots[i]? = some (.int (cv A i)) := by
  have e := Array.getElem?_eq_getElem hi
  have f := h.2 i _ e
  unfold cv; rw [e]
  generalize A.slots[i] = v at f
  cases v <;> simp [fits] at f ⊢
/-- the byte that i2b leaves of a char -/
def lo8 (x : Int32) : Int32 := x.toInt8.toInt32
theorem fits_lo8 (y : Int32) : fits .byte (.int (lo8 y)) = true := by
  have h1 := y.toInt8.le_toInt
  have h2 := y.toInt8.toInt_lt
  simp only [lo8, fits, Bool.and_eq_true, decide_eq_true_eq, Int32.le_iff_toInt_le, Int8.toInt_toInt32, show (-128 : Int32).toInt = -128 from by decide, show (127 : Int32).toInt = 127 from by decide]
  omega
/-- A' is A but that each place j of lo .. hi - 1 holds f j -/
def Laid (A A' : Cell) (lo hi : Nat) (f : Nat → Value) : Prop := A'.cls = A.cls ∧ A'.vm = A.vm ∧ A'.slots.size = A.slots.size ∧ ∀ i, A'.slots[i]? = if lo ≤ i ∧ i < hi then some (f i) else A.slots[i]?
theorem Laid.zero (A : Cell) (lo : Nat) (f : Nat → Value) : Laid A A lo (lo + 0) f := ⟨rfl, rfl, rfl, fun i => by rw [if_neg (by omega)]⟩
theorem Laid.step {A Ak : Cell} {lo k : Nat} {f : Nat → Value} {v : Value} (h : Laid A Ak lo k f) (hlo : lo ≤ k) (hk : k < Ak.slots.size) (hv : v = f k) : Laid A (Ak.setSlot k v) lo (k + 1) f := by
  refine ⟨h.1, h.2.1, by simpa [Cell.setSlot] using h.2.2.1, fun i => ?_⟩
  by_cases e : k = i
  · subst e; rw [Cell.slots_setSlot_self v hk, if_pos (by omega), hv]
  · rw [Cell.slots_setSlot_ne v e, h.2.2.2 i]
    by_cases q : lo ≤ i ∧ i < k
    · rw [if_pos q, if_pos (by omega)]
    · rw [if_neg q, if_neg (by omega)]
def U16 : String := "java/lang/StringUTF16"
namespace Cmp5
def yN : MethodName := ⟨"java/lang/StringUTF16", "compress", "([CI[BII)I"⟩
abbrev yB : ByteArray := jdk_52_method_21_code
theorem d0 : decode yB 0 = .ok (.iconst 0, 1) := by decide +kernel
theorem d1 : decode yB 1 = .ok (.istore 5, 2) := by decide +kernel
theorem d3 : decode yB 3 = .ok (.iload 5, 2) := by decide +kernel
theorem d5 : decode yB 5 = .ok (.iload 4, 2) := by decide +kernel
theorem d7 : decode yB 7 = .ok (.if_icmp (.ge) 37, 3) := by decide +kernel
theorem d10 : decode yB 10 = .ok (.aload_n 0, 1) := by decide +kernel
theorem d11 : decode yB 11 = .ok (.iload_n 1, 1) := by decide +kernel
theorem d12 : decode yB 12 = .ok (.caload, 1) := by decide +kernel
theorem d13 : decode yB 13 = .ok (.istore 6, 2) := by decide +kernel
theorem d15 : decode yB 15 = .ok (.iload 6, 2) := by decide +kernel
theorem d17 : decode yB 17 = .ok (.sipush 255, 3) := by decide +kernel
theorem d20 : decode yB 20 = .ok (.if_icmp (.le) 6, 3) := by decide +kernel
theorem d26 : decode yB 26 = .ok (.aload_n 2, 1) := by decide +kernel
theorem d27 : decode yB 27 = .ok (.iload_n 3, 1) := by decide +kernel
theorem d28 : decode yB 28 = .ok (.iload 6, 2) := by decide +kernel
theorem d30 : decode yB 30 = .ok (.i2b, 1) := by decide +kernel
theorem d31 : decode yB 31 = .ok (.bastore, 1) := by decide +kernel
theorem d32 : decode yB 32 = .ok (.iinc 1 1, 3) := by decide +kernel
theorem d35 : decode yB 35 = .ok (.iinc 3 1, 3) := by decide +kernel
theorem d38 : decode yB 38 = .ok (.iinc 5 1, 3) := by decide +kernel
theorem d41 : decode yB 41 = .ok (.goto (-38), 3) := by decide +kernel
theorem d44 : decode yB 44 = .ok (.iload 4, 2) := by decide +kernel
theorem d46 : decode yB 46 = .ok (.ireturn, 1) := by decide +kernel
def site : List Cond := []
def tab : Cond := tabOf yN yB 7 (some .int) site
def P (b : Addr) (A : Cell) (d : Addr) (B : Cell) (o q len : Nat) (args : Array Value) (s : State) : Prop := args = #[.ref b, .int (Int32.ofNat o), .ref d, .int (Int32.ofNat q), .int (Int32.ofNat len)] ∧ Ch b A s ∧ Arr .byte d B s ∧ b ≠ d ∧ o + len ≤ A.slots.size ∧ q + len ≤ B.slots.size ∧ ∀ i, i < len → ¬ 255 < cv A (o + i)
def E (b : Addr) (A : Cell) (d : Addr) (B : Cell) (o q len : Nat) (r : Option Value) (s u : State) : Prop := r = some (.int (Int32.ofNat len)) ∧ ∃ B', Put d B' s u ∧ Laid B B' q (q + len) (fun j => Value.int (lo8 (cv A (o + (j - q)))))
/-- no char of the range above 255: len; the places written hold each char's low byte -/
theorem law (l : Launch) (b : Addr) (A : Cell) (d : Addr) (B : Cell) (o q len : Nat) : Law l yN 5 5 0 0 yB 7 (some .int) site (P b A d B o q len) (E b A d B o q len) (copyLocs d q len) 0 0 := by
  refine Law.of_walk (plainFor_of_name (by decide +kernel)) (by decide +kernel) (by decide +kernel) (by decide) (fun _ _ h => by rw [h.1]; rfl) (fun _ U U' hal hh h => ⟨h.1, h.2.1.mv hal hh, h.2.2.1.mv hal hh, h.2.2.2⟩) (fun r U U' V V' h1 hal h2 h => ⟨h.1, h.2.elim fun B' q => ⟨B', q.1.mv h1 h2, q.2⟩⟩) ?_
  intro p e s m args below meth c s₁ X0 hexec hbytes hml hret hlk hnm hown hh0 W hP
  obtain ⟨rfl, hA, hB, hne, l1, l2, hp⟩ := hP
  have c1 : Steps p.tables e below (s₁.setTop (entryFrame m #[.ref b, .int (Int32.ofNat o), .ref d, .int (Int32.ofNat q), .int (Int32.ofNat len)] 7)) (s₁.setTop (mkF m 0 #[.val (.ref b), .val (.int (Int32.ofNat o)), .val (.ref d), .val (.int (Int32.ofNat q)), .val (.int (Int32.ofNat len)), .unset, .unset] [])) := entry rfl
  have hA0 := hA.1.mv X0.warmed.alike hh0
  have hB0 := hB.mv X0.warmed.alike hh0
  have a31 := hA.1.2.2.2
  have c2 : Steps p.tables e below (s₁.setTop (entryFrame m #[.ref b, .int (Int32.ofNat o), .ref d, .int (Int32.ofNat q), .int (Int32.ofNat len)] 7)) (s₁.setTop (mkF m 3 #[.val (.ref b), .val (.int (Int32.ofNat o)), .val (.ref d), .val (.int (Int32.ofNat q)), .val (.int (Int32.ofNat len)), .val (.int 0), .unset] [])) := c1.trans (by
    refine iconstV X0.here hexec rfl 0 (hb hbytes d0) (by decide) ?_
    refine XS.istore X0.here hexec rfl (hb hbytes d1) rfl rfl ?_
    exact Steps.refl _)
  have loop : ∀ (r i : Nat), i + r = len → ∀ (z : Slot), (z = .unset ∨ ∃ w, z = .val w ∧ w.category = 1) → ∀ (Tl : State) (Bk : Cell), Stand p l e { frames := 0, locals := 0, cells := 0, slots := 0 } s m #[.ref b, .int (Int32.ofNat o), .ref d, .int (Int32.ofNat q), .int (Int32.ofNat len)] below meth c Tl ([] ++ copyLocs d q i) 0 0 → Put d Bk s₁ Tl → Laid B Bk q (q + i) (fun j => Value.int (lo8 (cv A (o + (j - q))))) →
      Steps p.tables e below (s₁.setTop (entryFrame m #[.ref b, .int (Int32.ofNat o), .ref d, .int (Int32.ofNat q), .int (Int32.ofNat len)] 7)) (Tl.setTop (mkF m 3 #[.val (.ref b), .val (.int (Int32.ofNat (o + i))), .val (.ref d), .val (.int (Int32.ofNat (q + i))), .val (.int (Int32.ofNat len)), .val (.int (Int32.ofNat i)), z] [])) → ∃ (T' : State) (B' : Cell) (z' : Slot), Stand p l e { frames := 0, locals := 0, cells := 0, slots := 0 } s m #[.ref b, .int (Int32.ofNat o), .ref d, .int (Int32.ofNat q), .int (Int32.ofNat len)] below meth c T' ([] ++ copyLocs d q len) 0 0 ∧ Put d B' s₁ T' ∧ Laid B B' q (q + len) (fun j => Value.int (lo8 (cv A (o + (j - q))))) ∧
      Steps p.tables e below (s₁.setTop (entryFrame m #[.ref b, .int (Int32.ofNat o), .ref d, .int (Int32.ofNat q), .int (Int32.ofNat len)] 7)) (T'.setTop (mkF m 3 #[.val (.ref b), .val (.int (Int32.ofNat (o + len))), .val (.ref d), .val (.int (Int32.ofNat (q + len))), .val (.int (Int32.ofNat len)), .val (.int (Int32.ofNat len)), z'] [])) := by
    intro r
    induction r with
    | zero =>
      intro i hi z hz Tl Bk Xl pl fl cl
      have hil : i = len := by omega
      rw [hil] at Xl fl cl
      exact ⟨Tl, Bk, z, Xl, pl, fl, cl⟩
    | succ r ih =>
      intro i hi z hz Tl Bk Xl pl fl cl
      have all := X0.warmed.alike.symm.trans Xl.warmed.alike
      have hAl := hA0.keep all (pl.other hne hA0.1)
      have hBk := hB0.like all pl.1 fl.1 fl.2.1 fl.2.2.1
      have hlt : q + i < Bk.slots.size := by rw [fl.2.2.1]; omega
      have c3 : Steps p.tables e below (s₁.setTop (entryFrame m #[.ref b, .int (Int32.ofNat o), .ref d, .int (Int32.ofNat q), .int (Int32.ofNat len)] 7)) (Tl.setTop (mkF m 12 #[.val (.ref b), .val (.int (Int32.ofNat (o + i))), .val (.ref d), .val (.int (Int32.ofNat (q + i))), .val (.int (Int32.ofNat len)), .val (.int (Int32.ofNat i)), z] [.int (Int32.ofNat (o + i)), .ref b])) := cl.trans (by
        refine XS.iload Xl.here hexec rfl (hb hbytes d3) rfl ?_
        refine XS.iload Xl.here hexec rfl (hb hbytes d5) rfl ?_
        refine XS.icmpNo Xl.here hexec rfl (hb hbytes d7) rfl (ii_ge_f (lt32 (by omega) (by omega))) ?_
        refine XS.aloadN Xl.here hexec rfl (hb hbytes d10) rfl rfl ?_
        refine XS.iloadN Xl.here hexec rfl (hb hbytes d11) rfl ?_
        exact Steps.refl _)
      have c4 : Steps p.tables e below (s₁.setTop (entryFrame m #[.ref b, .int (Int32.ofNat o), .ref d, .int (Int32.ofNat q), .int (Int32.ofNat len)] 7)) (Tl.setTop (mkF m 13 #[.val (.ref b), .val (.int (Int32.ofNat (o + i))), .val (.ref d), .val (.int (Int32.ofNat (q + i))), .val (.int (Int32.ofNat len)), .val (.int (Int32.ofNat i)), z] [.int (cv A (o + i))])) := c3.trans (by
        refine Xl.aget hexec hAl rfl (hA.get (i := o + i) (by omega)) rfl rfl (hb hbytes d12) ?_
        exact Steps.refl _)
      have c5 : Steps p.tables e below (s₁.setTop (entryFrame m #[.ref b, .int (Int32.ofNat o), .ref d, .int (Int32.ofNat q), .int (Int32.ofNat len)] 7)) (Tl.setTop (mkF m 15 #[.val (.ref b), .val (.int (Int32.ofNat (o + i))), .val (.ref d), .val (.int (Int32.ofNat (q + i))), .val (.int (Int32.ofNat len)), .val (.int (Int32.ofNat i)), .val (.int (cv A (o + i)))] [])) := c4.trans (by
        refine XS.istoreS Xl.here hexec rfl (hb hbytes d13) rfl rfl hz ?_
        exact Steps.refl _)
      have c6 : Steps p.tables e below (s₁.setTop (entryFrame m #[.ref b, .int (Int32.ofNat o), .ref d, .int (Int32.ofNat q), .int (Int32.ofNat len)] 7)) (Tl.setTop (mkF m 31 #[.val (.ref b), .val (.int (Int32.ofNat (o + i))), .val (.ref d), .val (.int (Int32.ofNat (q + i))), .val (.int (Int32.ofNat len)), .val (.int (Int32.ofNat i)), .val (.int (cv A (o + i)))] [.int (lo8 (cv A (o + i))), .int (Int32.ofNat (q + i)), .ref d])) := c5.trans (by
        refine XS.iload Xl.here hexec rfl (hb hbytes d15) rfl ?_
        refine sipushV Xl.here hexec rfl 255 (hb hbytes d17) (by decide) ?_
        refine XS.icmpYes Xl.here hexec rfl (pc0 := 20) rfl (hb hbytes d20) rfl (ii_le_t (hp i (by omega))) (by decide) rfl ?_
        refine XS.aloadN Xl.here hexec rfl (hb hbytes d26) rfl rfl ?_
        refine XS.iloadN Xl.here hexec rfl (hb hbytes d27) rfl ?_
        refine XS.iload Xl.here hexec rfl (hb hbytes d28) rfl ?_
        refine i2b Xl.here hexec rfl (hb hbytes d30) rfl ?_
        exact Steps.refl _)
      obtain ⟨T7, X7, p7, st7⟩ := Xl.aput hexec hBk rfl hlt rfl (fits_lo8 (cv A (o + i))) (g := (mkF m 31 #[.val (.ref b), .val (.int (Int32.ofNat (o + i))), .val (.ref d), .val (.int (Int32.ofNat (q + i))), .val (.int (Int32.ofNat len)), .val (.int (Int32.ofNat i)), .val (.int (cv A (o + i)))] [.int (lo8 (cv A (o + i))), .int (Int32.ofNat (q + i)), .ref d])) rfl (rest := []) rfl (hb hbytes d31)
      have c8 : Steps p.tables e below (s₁.setTop (entryFrame m #[.ref b, .int (Int32.ofNat o), .ref d, .int (Int32.ofNat q), .int (Int32.ofNat len)] 7)) (T7.setTop (mkF m 32 #[.val (.ref b), .val (.int (Int32.ofNat (o + i))), .val (.ref d), .val (.int (Int32.ofNat (q + i))), .val (.int (Int32.ofNat len)), .val (.int (Int32.ofNat i)), .val (.int (cv A (o + i)))] [])) := c6.trans (st7 _ (Steps.refl _))
      have c9 : Steps p.tables e below (s₁.setTop (entryFrame m #[.ref b, .int (Int32.ofNat o), .ref d, .int (Int32.ofNat q), .int (Int32.ofNat len)] 7)) (T7.setTop (mkF m 3 #[.val (.ref b), .val (.int (Int32.ofNat (o + i) + 1)), .val (.ref d), .val (.int (Int32.ofNat (q + i) + 1)), .val (.int (Int32.ofNat len)), .val (.int (Int32.ofNat i + 1)), .val (.int (cv A (o + i)))] [])) := c8.trans (by
        refine iincV X7.here hexec rfl 1 (hb hbytes d32) (by decide) rfl rfl ?_
        refine iincV X7.here hexec rfl 1 (hb hbytes d35) (by decide) rfl rfl ?_
        refine iincV X7.here hexec rfl 1 (hb hbytes d38) (by decide) rfl rfl ?_
        refine XS.goto X7.here hexec rfl (pc0 := 41) rfl (hb hbytes d41) (by decide) rfl ?_
        exact Steps.refl _)
      have c10 : Steps p.tables e below (s₁.setTop (entryFrame m #[.ref b, .int (Int32.ofNat o), .ref d, .int (Int32.ofNat q), .int (Int32.ofNat len)] 7)) (T7.setTop (mkF m 3 #[.val (.ref b), .val (.int (Int32.ofNat (o + (i + 1)))), .val (.ref d), .val (.int (Int32.ofNat (q + (i + 1)))), .val (.int (Int32.ofNat len)), .val (.int (Int32.ofNat (i + 1))), .val (.int (cv A (o + i)))] [])) := by
        have := c9
        rw [succ32, succ32, succ32] at this
        exact this
      exact ih (i + 1) (by omega) _ (Or.inr ⟨_, rfl, rfl⟩) T7 _ (by rw [copyLocs_step, ← List.append_assoc]; exact X7) (pl.trans p7) (fl.step (by omega) hlt (by simp)) c10
  obtain ⟨T9, B9, z9, X9, p9, f9, g9⟩ := loop len 0 (by omega) .unset (Or.inl rfl) s₁ B (by simpa [copyLocs] using X0) ⟨hB0.1, fun _ _ => rfl, rfl⟩ (Laid.zero _ _ _) c2
  have c11 : Steps p.tables e below (s₁.setTop (entryFrame m #[.ref b, .int (Int32.ofNat o), .ref d, .int (Int32.ofNat q), .int (Int32.ofNat len)] 7)) (T9.setTop (mkF m 46 #[.val (.ref b), .val (.int (Int32.ofNat (o + len))), .val (.ref d), .val (.int (Int32.ofNat (q + len))), .val (.int (Int32.ofNat len)), .val (.int (Int32.ofNat len)), z9] [.int (Int32.ofNat len)])) := g9.trans (by
    refine XS.iload X9.here hexec rfl (hb hbytes d3) rfl ?_
    refine XS.iload X9.here hexec rfl (hb hbytes d5) rfl ?_
    refine XS.icmpYes X9.here hexec rfl (pc0 := 7) rfl (hb hbytes d7) rfl (ii_ge_t (nlt32 (by omega) (Nat.le_refl _))) (by decide) rfl ?_
    refine XS.iload X9.here hexec rfl (hb hbytes d44) rfl ?_
    exact Steps.refl _)
  exact ⟨T9, some (.int (Int32.ofNat len)), _, _, _, X9, by simp, rfl, rfl, (fun h => by cases h), ⟨rfl, B9, p9.from hh0, f9⟩, fun fs hl => c11.trans (X9.ireturnOut hexec hret rfl (Or.inl rfl) (hb hbytes d46) hl)⟩
end Cmp5
namespace Cmp3
def yN : MethodName := ⟨"java/lang/StringUTF16", "compress", "([CII)[B"⟩
abbrev yB : ByteArray := jdk_52_method_16_code
theorem d0 : decode yB 0 = .ok (.iload_n 2, 1) := by decide +kernel
theorem d1 : decode yB 1 = .ok (.newarray .byte, 2) := by decide +kernel
theorem d3 : decode yB 3 = .ok (.astore_n 3, 1) := by decide +kernel
theorem d4 : decode yB 4 = .ok (.aload_n 0, 1) := by decide +kernel
theorem d5 : decode yB 5 = .ok (.iload_n 1, 1) := by decide +kernel
theorem d6 : decode yB 6 = .ok (.aload_n 3, 1) := by decide +kernel
theorem d7 : decode yB 7 = .ok (.iconst 0, 1) := by decide +kernel
theorem d8 : decode yB 8 = .ok (.iload_n 2, 1) := by decide +kernel
theorem d9 : decode yB 9 = .ok (.invokestatic 115, 3) := by decide +kernel
theorem d12 : decode yB 12 = .ok (.istore 4, 2) := by decide +kernel
theorem d14 : decode yB 14 = .ok (.iload 4, 2) := by decide +kernel
theorem d16 : decode yB 16 = .ok (.iload_n 2, 1) := by decide +kernel
theorem d17 : decode yB 17 = .ok (.if_icmp (.eq) 40, 3) := by decide +kernel
theorem d57 : decode yB 57 = .ok (.aload_n 3, 1) := by decide +kernel
theorem d58 : decode yB 58 = .ok (.areturn, 1) := by decide +kernel
def site : List Cond := [.arrayClass .byte, Cmp5.tab] ++ staticW U16 115 Cmp5.yN
def tab : Cond := tabOf yN yB 6 (some (.array .byte)) site
def P (b : Addr) (A : Cell) (o len : Nat) (args : Array Value) (s : State) : Prop := args = #[.ref b, .int (Int32.ofNat o), .int (Int32.ofNat len)] ∧ Ch b A s ∧ o + len ≤ A.slots.size ∧ len ≤ 536870912 ∧ ∀ i, i < len → ¬ 255 < cv A (o + i)
def E (b : Addr) (A : Cell) (o len : Nat) (r : Option Value) (s u : State) : Prop := NewArr .byte "[B" len (fun j => .int (lo8 (cv A (o + j)))) r s u ∧ u.heap.size = s.heap.size + 1
/-- no char of the range above 255: a new byte[] of their low bytes -/
theorem law (l : Launch) (b : Addr) (A : Cell) (o len : Nat) : Law l yN 3 3 1 18 yB 6 (some (.array .byte)) site (P b A o len) (E b A o len) [] 1 len := by
  refine Law.of_walk (plainFor_of_name (by decide +kernel)) (by decide +kernel) (by decide +kernel) (by decide) (fun _ _ h => by rw [h.1]; rfl) (fun _ U U' hal hh h => ⟨h.1, h.2.1.mv hal hh, h.2.2⟩) (fun r U U' V V' h1 hal h2 h => ⟨NewArr.mv r U U' V V' h1 hal h2 h.1, by rw [h1, h2]; exact h.2⟩) ?_
  intro p e s m args below meth c s₁ X0 hexec hbytes hml hret hlk hnm hown hh0 W hP
  obtain ⟨rfl, hA, l1, l2, hp⟩ := hP
  have a31 := hA.1.2.2.2
  have c1 : Steps p.tables e below (s₁.setTop (entryFrame m #[.ref b, .int (Int32.ofNat o), .int (Int32.ofNat len)] 6)) (s₁.setTop (mkF m 0 #[.val (.ref b), .val (.int (Int32.ofNat o)), .val (.int (Int32.ofNat len)), .unset, .unset, .unset] [])) := entry rfl
  have c2 : Steps p.tables e below (s₁.setTop (entryFrame m #[.ref b, .int (Int32.ofNat o), .int (Int32.ofNat len)] 6)) (s₁.setTop (mkF m 1 #[.val (.ref b), .val (.int (Int32.ofNat o)), .val (.int (Int32.ofNat len)), .unset, .unset, .unset] [.int (Int32.ofNat len)])) := c1.trans (by
    refine XS.iloadN X0.here hexec rfl (hb hbytes d0) rfl ?_
    exact Steps.refl _)
  obtain ⟨T3, B3, X3, ba3, bs3, bv3, bh3, bf3, st3⟩ := X0.anew hexec (atype := .byte) (wk W (.arrayClass .byte)) rfl (by show len * 1 ≤ _; omega) (by omega) (g := (mkF m 1 #[.val (.ref b), .val (.int (Int32.ofNat o)), .val (.int (Int32.ofNat len)), .unset, .unset, .unset] [.int (Int32.ofNat len)])) rfl (hb hbytes d1) (rest := []) rfl (Nat.le_refl _) (by show 0 + len ≤ len; omega)
  rw [hh0] at ba3 st3
  have kp3 : XT.Kept s T3 := (XT.Kept.of_eq hh0).push bh3
  have hA3 := hA.keep X3.warmed.alike (kp3 _ _ hA.1.1)
  have hne : b ≠ s.heap.size := hA.1.ne
  have c4 : Steps p.tables e below (s₁.setTop (entryFrame m #[.ref b, .int (Int32.ofNat o), .int (Int32.ofNat len)] 6)) (T3.setTop (mkF m 3 #[.val (.ref b), .val (.int (Int32.ofNat o)), .val (.int (Int32.ofNat len)), .unset, .unset, .unset] [.ref s.heap.size])) := c2.trans (st3 _ (Steps.refl _))
  have c5 : Steps p.tables e below (s₁.setTop (entryFrame m #[.ref b, .int (Int32.ofNat o), .int (Int32.ofNat len)] 6)) (T3.setTop (mkF m 9 #[.val (.ref b), .val (.int (Int32.ofNat o)), .val (.int (Int32.ofNat len)), .val (.ref s.heap.size), .unset, .unset] [.int (Int32.ofNat len), .int 0, .ref s.heap.size, .int (Int32.ofNat o), .ref b])) := c4.trans (by
    refine XS.astoreN X3.here hexec rfl (hb hbytes d3) rfl rfl rfl ?_
    refine XS.aloadN X3.here hexec rfl (hb hbytes d4) rfl rfl ?_
    refine XS.iloadN X3.here hexec rfl (hb hbytes d5) rfl ?_
    refine XS.aloadN X3.here hexec rfl (hb hbytes d6) rfl rfl ?_
    refine iconstV X3.here hexec rfl 0 (hb hbytes d7) (by decide) ?_
    refine XS.iloadN X3.here hexec rfl (hb hbytes d8) rfl ?_
    exact Steps.refl _)
  obtain ⟨v6, T6, X6, E6, g6⟩ := X3.callS hexec (Cmp5.law l b A s.heap.size B3 o 0 len) hown (wks W (staticW U16 115 Cmp5.yN)) (wk W Cmp5.tab) (W := 0) (Nat.le_of_ble_eq_true rfl) (Nat.le_of_ble_eq_true rfl) (Nat.le_refl _) (by show 0 + len + 0 ≤ len; omega) (g := (mkF m 9 #[.val (.ref b), .val (.int (Int32.ofNat o)), .val (.int (Int32.ofNat len)), .val (.ref s.heap.size), .unset, .unset] [.int (Int32.ofNat len), .int (Int32.ofNat 0), .ref s.heap.size, .int (Int32.ofNat o), .ref b])) rfl (by rw [hml]; rfl) c5 (argsL := [.ref b, .int (Int32.ofNat o), .ref s.heap.size, .int (Int32.ofNat 0), .int (Int32.ofNat len)]) (rest := []) rfl rfl (by show 2 * 0 + 0 ≤ _; decide) (hb hbytes d9) (⟨rfl, hA3, ba3, hne, l1, by rw [bs3]; simp, hp⟩)
  obtain ⟨rfl, B6, p6, f6⟩ := E6
  have c7 : Steps p.tables e below (s₁.setTop (entryFrame m #[.ref b, .int (Int32.ofNat o), .int (Int32.ofNat len)] 6)) (T6.setTop (mkF m 12 #[.val (.ref b), .val (.int (Int32.ofNat o)), .val (.int (Int32.ofNat len)), .val (.ref s.heap.size), .unset, .unset] [.int (Int32.ofNat len)])) := g6
  have c8 : Steps p.tables e below (s₁.setTop (entryFrame m #[.ref b, .int (Int32.ofNat o), .int (Int32.ofNat len)] 6)) (T6.setTop (mkF m 58 #[.val (.ref b), .val (.int (Int32.ofNat o)), .val (.int (Int32.ofNat len)), .val (.ref s.heap.size), .val (.int (Int32.ofNat len)), .unset] [.ref s.heap.size])) := c7.trans (by
    refine XS.istore X6.here hexec rfl (hb hbytes d12) rfl rfl ?_
    refine XS.iload X6.here hexec rfl (hb hbytes d14) rfl ?_
    refine XS.iloadN X6.here hexec rfl (hb hbytes d16) rfl ?_
    refine XS.icmpYes X6.here hexec rfl (pc0 := 17) rfl (hb hbytes d17) rfl (ii_eq_t rfl) (by decide) rfl ?_
    refine XS.aloadN X6.here hexec rfl (hb hbytes d57) rfl rfl ?_
    exact Steps.refl _)
  have X8 := X6.wide (L' := []) (cells' := 1) (slots' := len) (fun x hx hlt => by
    simp only [List.nil_append, copyLocs, List.mem_map, List.mem_range] at hx
    obtain ⟨i, -, rfl⟩ := hx
    exact absurd hlt (Nat.lt_irrefl _)) (Nat.le_refl _) (by omega)
  exact ⟨T6, some (.ref s.heap.size), _, _, _, X8, rfl, rfl, rfl, (fun h => by cases h), ⟨⟨rfl, B6, ba3.like (X3.warmed.alike.symm.trans X6.warmed.alike) p6.1 f6.1 f6.2.1 f6.2.2.1, f6.2.1.trans bv3, by rw [X6.warmed.alike.findClass, f6.1]; exact bf3, by rw [f6.2.2.1, bs3]; simp, fun j hj => by rw [f6.2.2.2 j, if_pos (by omega)]; rfl, kp3.put p6 (Nat.le_refl _)⟩, by rw [p6.2.2, bh3, hh0]; simp⟩, fun fs hl => c8.trans (X8.areturnOut hexec rfl hret rfl (hb hbytes d58) hl)⟩
end Cmp3
namespace CodL
def yN : MethodName := ⟨"java/lang/StringUTF16", "coderFromArrayLen", "([BI)B"⟩
abbrev yB : ByteArray := jdk_52_method_15_code
theorem d0 : decode yB 0 = .ok (.iload_n 1, 1) := by decide +kernel
theorem d1 : decode yB 1 = .ok (.aload_n 0, 1) := by decide +kernel
theorem d2 : decode yB 2 = .ok (.arraylength, 1) := by decide +kernel
theorem d3 : decode yB 3 = .ok (.isub, 1) := by decide +kernel
theorem d4 : decode yB 4 = .ok (.bipush 31, 2) := by decide +kernel
theorem d6 : decode yB 6 = .ok (.iushr, 1) := by decide +kernel
theorem d7 : decode yB 7 = .ok (.i2b, 1) := by decide +kernel
theorem d8 : decode yB 8 = .ok (.ireturn, 1) := by decide +kernel
def site : List Cond := []
def tab : Cond := tabOf yN yB 2 (some .byte) site
def P (d : Addr) (B : Cell) (args : Array Value) (s : State) : Prop := args = #[.ref d, .int (Int32.ofNat B.slots.size)] ∧ Arr .byte d B s
def E (r : Option Value) (s u : State) : Prop := XT.PureE (some (.int 0)) r s u
/-- an array as long as the number of chars: LATIN1 -/
theorem law (l : Launch) (d : Addr) (B : Cell) : Law l yN 2 2 0 0 yB 2 (some .byte) site (P d B) E [] 0 0 := by
  refine Law.of_walk (plainFor_of_name (by decide +kernel)) (by decide +kernel) (by decide +kernel) (by decide) (fun _ _ h => by rw [h.1]; rfl) (fun _ U U' hal hh h => ⟨h.1, h.2.mv hal hh⟩) (fun r U U' V V' h1 hal h2 h => XT.PureE.mv r U U' V V' h1 hal h2 h) ?_
  intro p e s m args below meth c s₁ X0 hexec hbytes hml hret hlk hnm hown hh0 W hP
  obtain ⟨rfl, hB⟩ := hP
  have hB0 := hB.mv X0.warmed.alike hh0
  have c1 : Steps p.tables e below (s₁.setTop (entryFrame m #[.ref d, .int (Int32.ofNat B.slots.size)] 2)) (s₁.setTop (mkF m 0 #[.val (.ref d), .val (.int (Int32.ofNat B.slots.size))] [])) := entry rfl
  have c2 : Steps p.tables e below (s₁.setTop (entryFrame m #[.ref d, .int (Int32.ofNat B.slots.size)] 2)) (s₁.setTop (mkF m 2 #[.val (.ref d), .val (.int (Int32.ofNat B.slots.size))] [.ref d, .int (Int32.ofNat B.slots.size)])) := c1.trans (by
    refine XS.iloadN X0.here hexec rfl (hb hbytes d0) rfl ?_
    refine XS.aloadN X0.here hexec rfl (hb hbytes d1) rfl rfl ?_
    exact Steps.refl _)
  have c3 : Steps p.tables e below (s₁.setTop (entryFrame m #[.ref d, .int (Int32.ofNat B.slots.size)] 2)) (s₁.setTop (mkF m 8 #[.val (.ref d), .val (.int (Int32.ofNat B.slots.size))] [.int (lo8 (ushr (Int32.ofNat B.slots.size - Int32.ofNat B.slots.size) 31))])) := c2.trans (by
    refine X0.alen hexec hB0 rfl rfl (hb hbytes d2) ?_
    refine XS.isub X0.here hexec rfl (hb hbytes d3) rfl ?_
    refine bipushV X0.here hexec rfl 31 (hb hbytes d4) (by decide) ?_
    refine iushr X0.here hexec rfl (hb hbytes d6) rfl ?_
    refine i2b X0.here hexec rfl (hb hbytes d7) rfl ?_
    exact Steps.refl _)
  have e0 : lo8 (ushr (Int32.ofNat B.slots.size - Int32.ofNat B.slots.size) 31) = 0 := by rw [Int32.sub_self]; decide
  rw [e0] at c3
  exact ⟨s₁, some (.int 0), _, _, _, X0, rfl, rfl, rfl, (fun h => by cases h), ⟨rfl, hh0⟩, fun fs hl => c3.trans (X0.ireturnOut hexec hret rfl (Or.inr (Or.inr (Or.inl rfl))) (hb hbytes d8) hl)⟩
end CodL
/-- the String at a is Latin-1 over a new byte[] (the heap's one new cell): the low bytes of the len chars of A from o on; every cell but a is kept -/
def Got (a : Addr) (D : Cell) (fV fC : Field) (A : Cell) (o len : Nat) (r : Option Value) (s u : State) : Prop := r = none ∧ ∃ D' V : Cell, Blank "java/lang/String" a D' u ∧ Same D D' [fV.slot, fC.slot] ∧ D'.slots[fV.slot]? = some (.ref s.heap.size) ∧ D'.slots[fC.slot]? = some (.int 0) ∧ Arr .byte s.heap.size V u ∧ V.vm = .none ∧ u.vm.findClass "[B" = some V.cls ∧ V.slots.size = len ∧ (∀ j, j < len → V.slots[j]? = some (.int (lo8 (cv A (o + j))))) ∧ (∀ (y : Addr) (c : Cell), y ≠ a → s.heap[y]? = some c → u.heap[y]? = some c) ∧ u.heap.size = s.heap.size + 1
theorem Got.mv {a : Addr} {D A : Cell} {fV fC : Field} {o len : Nat} : ∀ r (U U' V V' : State), U'.heap = U.heap → V.vm.Alike V'.vm → V'.heap = V.heap → Got a D fV fC A o len r U V → Got a D fV fC A o len r U' V' :=
  fun r U U' V V' h1 hal h2 ⟨e0, D', X, a1, a2, a3, a4, a5, a6, a7, a8, a9, a10, a11⟩ => ⟨e0, D', X, a1.mv hal h2, a2, by rw [h1]; exact a3, a4, by rw [h1]; exact a5.mv hal h2, a6, by rw [hal.findClass]; exact a7, a8, a9, by rw [h1, h2]; exact a10, by rw [h1, h2]; exact a11⟩
namespace New4
def yN : MethodName := ⟨"java/lang/String", "<init>", "([CIILjava/lang/Void;)V"⟩
abbrev yB : ByteArray := jdk_42_method_149_code
theorem d0 : decode yB 0 = .ok (.aload_n 0, 1) := by decide +kernel
theorem d1 : decode yB 1 = .ok (.invokespecial 1, 3) := by decide +kernel
theorem d4 : decode yB 4 = .ok (.iload_n 3, 1) := by decide +kernel
theorem d5 : decode yB 5 = .ok (.ifCond (.ne) 22, 3) := by decide +kernel
theorem d27 : decode yB 27 = .ok (.getstatic 38, 3) := by decide +kernel
theorem d30 : decode yB 30 = .ok (.ifCond (.eq) 28, 3) := by decide +kernel
theorem d33 : decode yB 33 = .ok (.aload_n 1, 1) := by decide +kernel
theorem d34 : decode yB 34 = .ok (.iload_n 2, 1) := by decide +kernel
theorem d35 : decode yB 35 = .ok (.iload_n 3, 1) := by decide +kernel
theorem d36 : decode yB 36 = .ok (.invokestatic 177, 3) := by decide +kernel
theorem d39 : decode yB 39 = .ok (.astore 5, 2) := by decide +kernel
theorem d41 : decode yB 41 = .ok (.aload_n 0, 1) := by decide +kernel
theorem d42 : decode yB 42 = .ok (.aload 5, 2) := by decide +kernel
theorem d44 : decode yB 44 = .ok (.iload_n 3, 1) := by decide +kernel
theorem d45 : decode yB 45 = .ok (.invokestatic 47, 3) := by decide +kernel
theorem d48 : decode yB 48 = .ok (.putfield 15, 3) := by decide +kernel
theorem d51 : decode yB 51 = .ok (.aload_n 0, 1) := by decide +kernel
theorem d52 : decode yB 52 = .ok (.aload 5, 2) := by decide +kernel
theorem d54 : decode yB 54 = .ok (.putfield 9, 3) := by decide +kernel
theorem d57 : decode yB 57 = .ok (.return_, 1) := by decide +kernel
def site : List Cond := [.fieldLink "java/lang/String" 38 "java/lang/String" "COMPACT_STRINGS" "Z", Cmp3.tab, CodL.tab, .laysFinal "java/lang/String" "java/lang/String" "value" "[B", .fieldLink "java/lang/String" 9 "java/lang/String" "value" "[B", .laysFinal "java/lang/String" "java/lang/String" "coder" "B", .fieldLink "java/lang/String" 15 "java/lang/String" "coder" "B"] ++ objW "java/lang/String" 1 ++ staticW "java/lang/String" 177 Cmp3.yN ++ staticW "java/lang/String" 47 CodL.yN
def tab : Cond := tabOf yN yB 6 none site
def P (a : Addr) (D : Cell) (fV fC : Field) (b : Addr) (A : Cell) (z : Int32) (o len : Nat) (args : Array Value) (s : State) : Prop := args = #[.ref a, .ref b, .int (Int32.ofNat o), .int (Int32.ofNat len), .null] ∧ Blank "java/lang/String" a D s ∧ Found "java/lang/String" "value" "[B" fV s ∧ Found "java/lang/String" "coder" "B" fC s ∧ Ch b A s ∧ StaticIs s "java/lang/String" "COMPACT_STRINGS" "Z" (.int z) ∧ ¬ z = 0 ∧ 0 < len ∧ o + len ≤ A.slots.size ∧ len ≤ 536870912 ∧ ∀ i, i < len → ¬ 255 < cv A (o + i)
def E (a : Addr) (D : Cell) (fV fC : Field) (A : Cell) (o len : Nat) (r : Option Value) (s u : State) : Prop := Got a D fV fC A o len r s u
/-- len > 0, no char of the range above 255: a Latin-1 String of their low bytes -/
theorem law (l : Launch) (a : Addr) (D : Cell) (fV fC : Field) (b : Addr) (A : Cell) (z : Int32) (o len : Nat) : Law l yN 5 4 2 35 yB 6 none site (P a D fV fC b A z o len) (E a D fV fC A o len) [⟨a, fC.slot⟩, ⟨a, fV.slot⟩] 1 len := by
  refine Law.of_walk (plainFor_of_name (by decide +kernel)) (by decide +kernel) (by decide +kernel) (by decide) (fun _ _ h => by rw [h.1]; rfl) (fun _ U U' hal hh h => ⟨h.1, h.2.1.mv hal hh, h.2.2.1.al hal, h.2.2.2.1.al hal, h.2.2.2.2.1.mv hal hh, h.2.2.2.2.2.1.there hal hh, h.2.2.2.2.2.2⟩) (fun r U U' V V' h1 hal h2 h => Got.mv r U U' V V' h1 hal h2 h) ?_
  intro p e s m args below meth c s₁ X0 hexec hbytes hml hret hlk hnm hown hh0 W hP
  obtain ⟨rfl, hB, f1, f2, hA, s1, hz, l0, l1, l2, hp⟩ := hP
  have a31 := hA.1.2.2.2
  have c1 : Steps p.tables e below (s₁.setTop (entryFrame m #[.ref a, .ref b, .int (Int32.ofNat o), .int (Int32.ofNat len), .null] 6)) (s₁.setTop (mkF m 0 #[.val (.ref a), .val (.ref b), .val (.int (Int32.ofNat o)), .val (.int (Int32.ofNat len)), .val .null, .unset] [])) := entry rfl
  have c2 : Steps p.tables e below (s₁.setTop (entryFrame m #[.ref a, .ref b, .int (Int32.ofNat o), .int (Int32.ofNat len), .null] 6)) (s₁.setTop (mkF m 1 #[.val (.ref a), .val (.ref b), .val (.int (Int32.ofNat o)), .val (.int (Int32.ofNat len)), .val .null, .unset] [.ref a])) := c1.trans (by
    refine XS.aloadN X0.here hexec rfl (hb hbytes d0) rfl rfl ?_
    exact Steps.refl _)
  obtain ⟨T3, X3, q3, st3⟩ := X0.oinit hexec hown (wks W (objW "java/lang/String" 1)) (g := (mkF m 1 #[.val (.ref a), .val (.ref b), .val (.int (Int32.ofNat o)), .val (.int (Int32.ofNat len)), .val .null, .unset] [.ref a])) rfl (by rw [hml]; rfl) (rest := []) rfl (hb hbytes d1) (W := 0) (by show 2 * 0 + 0 ≤ _; decide) (Nat.le_of_ble_eq_true rfl) (Nat.le_of_ble_eq_true rfl)
  have hh3 := q3.trans hh0
  have c4 : Steps p.tables e below (s₁.setTop (entryFrame m #[.ref a, .ref b, .int (Int32.ofNat o), .int (Int32.ofNat len), .null] 6)) (T3.setTop (mkF m 27 #[.val (.ref a), .val (.ref b), .val (.int (Int32.ofNat o)), .val (.int (Int32.ofNat len)), .val .null, .unset] [])) := (c2.trans (st3 _ (Steps.refl _))).trans (by
    refine XS.iloadN X3.here hexec rfl (hb hbytes d4) rfl ?_
    refine XS.ifYes X3.here hexec rfl (pc0 := 5) rfl (hb hbytes d5) rfl (i0_ne_t (nz32 (by omega) l0)) (by decide) rfl ?_
    exact Steps.refl _)
  obtain ⟨T5, X5, q5, st5⟩ := X3.sget hexec hown (wk W (.fieldLink "java/lang/String" 38 "java/lang/String" "COMPACT_STRINGS" "Z")) s1 (fun _ _ h => by rw [hh3]; exact h) (g := (mkF m 27 #[.val (.ref a), .val (.ref b), .val (.int (Int32.ofNat o)), .val (.int (Int32.ofNat len)), .val .null, .unset] [])) rfl (hb hbytes d27)
  have hh5 := q5.trans hh3
  have c6 : Steps p.tables e below (s₁.setTop (entryFrame m #[.ref a, .ref b, .int (Int32.ofNat o), .int (Int32.ofNat len), .null] 6)) (T5.setTop (mkF m 30 #[.val (.ref a), .val (.ref b), .val (.int (Int32.ofNat o)), .val (.int (Int32.ofNat len)), .val .null, .unset] [.int z])) := c4.trans (st5 _ (Steps.refl _))
  have c7 : Steps p.tables e below (s₁.setTop (entryFrame m #[.ref a, .ref b, .int (Int32.ofNat o), .int (Int32.ofNat len), .null] 6)) (T5.setTop (mkF m 36 #[.val (.ref a), .val (.ref b), .val (.int (Int32.ofNat o)), .val (.int (Int32.ofNat len)), .val .null, .unset] [.int (Int32.ofNat len), .int (Int32.ofNat o), .ref b])) := c6.trans (by
    refine XS.ifNo X5.here hexec rfl (hb hbytes d30) rfl (i0_eq_f hz) ?_
    refine XS.aloadN X5.here hexec rfl (hb hbytes d33) rfl rfl ?_
    refine XS.iloadN X5.here hexec rfl (hb hbytes d34) rfl ?_
    refine XS.iloadN X5.here hexec rfl (hb hbytes d35) rfl ?_
    exact Steps.refl _)
  obtain ⟨v8, T8, X8, E8, g8⟩ := X5.callS hexec (Cmp3.law l b A o len) hown (wks W (staticW "java/lang/String" 177 Cmp3.yN)) (wk W Cmp3.tab) (W := 0) (Nat.le_of_ble_eq_true rfl) (Nat.le_of_ble_eq_true rfl) (Nat.le_refl _) (by show 0 + len ≤ len; omega) (g := (mkF m 36 #[.val (.ref a), .val (.ref b), .val (.int (Int32.ofNat o)), .val (.int (Int32.ofNat len)), .val .null, .unset] [.int (Int32.ofNat len), .int (Int32.ofNat o), .ref b])) rfl (by rw [hml]; rfl) c7 (argsL := [.ref b, .int (Int32.ofNat o), .int (Int32.ofNat len)]) (rest := []) rfl rfl (by show 2 * 0 + 0 ≤ _; decide) (hb hbytes d36) (⟨rfl, hA.mv X5.warmed.alike hh5, l1, l2, hp⟩)
  obtain ⟨e8, z8⟩ := E8
  obtain ⟨rfl, N, n1, n2, n3, n4, n5, n6⟩ := NewArr.mv _ T5 s _ _ hh5.symm (Vm.Alike.refl _) rfl e8
  rw [hh5] at z8
  have hB1 := hB.keep X8.warmed.alike (n6 _ _ hB.1)
  have hne : s.heap.size ≠ a := (Nat.ne_of_lt (Array.getElem?_eq_some_iff.mp hB.1).1).symm
  have c9 : Steps p.tables e below (s₁.setTop (entryFrame m #[.ref a, .ref b, .int (Int32.ofNat o), .int (Int32.ofNat len), .null] 6)) (T8.setTop (mkF m 39 #[.val (.ref a), .val (.ref b), .val (.int (Int32.ofNat o)), .val (.int (Int32.ofNat len)), .val .null, .unset] [.ref s.heap.size])) := g8
  have c10 : Steps p.tables e below (s₁.setTop (entryFrame m #[.ref a, .ref b, .int (Int32.ofNat o), .int (Int32.ofNat len), .null] 6)) (T8.setTop (mkF m 45 #[.val (.ref a), .val (.ref b), .val (.int (Int32.ofNat o)), .val (.int (Int32.ofNat len)), .val .null, .val (.ref s.heap.size)] [.int (Int32.ofNat N.slots.size), .ref s.heap.size, .ref a])) := by
    have hc : Steps p.tables e below (s₁.setTop (entryFrame m #[.ref a, .ref b, .int (Int32.ofNat o), .int (Int32.ofNat len), .null] 6)) (T8.setTop (mkF m 45 #[.val (.ref a), .val (.ref b), .val (.int (Int32.ofNat o)), .val (.int (Int32.ofNat len)), .val .null, .val (.ref s.heap.size)] [.int (Int32.ofNat len), .ref s.heap.size, .ref a])) := c9.trans (by
      refine XS.astore X8.here hexec rfl (hb hbytes d39) rfl rfl rfl ?_
      refine XS.aloadN X8.here hexec rfl (hb hbytes d41) rfl rfl ?_
      refine XS.aload X8.here hexec rfl (hb hbytes d42) rfl rfl ?_
      refine XS.iloadN X8.here hexec rfl (hb hbytes d44) rfl ?_
      exact Steps.refl _)
    rw [n4]; exact hc
  obtain ⟨v11, T11, X11, E11, g11⟩ := X8.callS hexec (CodL.law l s.heap.size N) hown (wks W (staticW "java/lang/String" 47 CodL.yN)) (wk W CodL.tab) (W := 1) (Nat.le_of_ble_eq_true rfl) (Nat.le_of_ble_eq_true rfl) (Nat.le_refl _) (by show 0 + len + 0 ≤ len; omega) (g := (mkF m 45 #[.val (.ref a), .val (.ref b), .val (.int (Int32.ofNat o)), .val (.int (Int32.ofNat len)), .val .null, .val (.ref s.heap.size)] [.int (Int32.ofNat N.slots.size), .ref s.heap.size, .ref a])) rfl (by rw [hml]; rfl) c10 (argsL := [.ref s.heap.size, .int (Int32.ofNat N.slots.size)]) (rest := [.ref a]) rfl rfl (by show 2 * 0 + (1 + 0) ≤ _; decide) (hb hbytes d45) (⟨rfl, n1⟩)
  obtain ⟨rfl, q11⟩ := E11
  have hB11 := hB1.mv (X8.warmed.alike.symm.trans X11.warmed.alike) q11
  have c12 : Steps p.tables e below (s₁.setTop (entryFrame m #[.ref a, .ref b, .int (Int32.ofNat o), .int (Int32.ofNat len), .null] 6)) (T11.setTop (mkF m 48 #[.val (.ref a), .val (.ref b), .val (.int (Int32.ofNat o)), .val (.int (Int32.ofNat len)), .val .null, .val (.ref s.heap.size)] [.int 0, .ref a])) := g11
  obtain ⟨T13, X13, p13, bl13, sl13, st13⟩ := X11.finit hexec hown (wk W (.fieldLink "java/lang/String" 15 "java/lang/String" "coder" "B")) (Or.inr ⟨_, (wk W (.laysFinal "java/lang/String" "java/lang/String" "coder" "B"))⟩) (Or.inl ⟨rfl, hnm⟩) f2 (Or.inl rfl) hB11 (t := .byte) (by decide +kernel) rfl (g := (mkF m 48 #[.val (.ref a), .val (.ref b), .val (.int (Int32.ofNat o)), .val (.int (Int32.ofNat len)), .val .null, .val (.ref s.heap.size)] [.int 0, .ref a])) rfl (rest := []) rfl (hb hbytes d48)
  have c14 : Steps p.tables e below (s₁.setTop (entryFrame m #[.ref a, .ref b, .int (Int32.ofNat o), .int (Int32.ofNat len), .null] 6)) (T13.setTop (mkF m 54 #[.val (.ref a), .val (.ref b), .val (.int (Int32.ofNat o)), .val (.int (Int32.ofNat len)), .val .null, .val (.ref s.heap.size)] [.ref s.heap.size, .ref a])) := (c12.trans (st13 _ (Steps.refl _))).trans (by
    refine XS.aloadN X13.here hexec rfl (hb hbytes d51) rfl rfl ?_
    refine XS.aload X13.here hexec rfl (hb hbytes d52) rfl rfl ?_
    exact Steps.refl _)
  obtain ⟨T15, X15, p15, bl15, sl15, st15⟩ := X13.finit hexec hown (wk W (.fieldLink "java/lang/String" 9 "java/lang/String" "value" "[B")) (Or.inr ⟨_, (wk W (.laysFinal "java/lang/String" "java/lang/String" "value" "[B"))⟩) (Or.inl ⟨rfl, hnm⟩) f1 (Or.inl rfl) bl13 (t := (.array .byte)) (by decide +kernel) rfl (g := (mkF m 54 #[.val (.ref a), .val (.ref b), .val (.int (Int32.ofNat o)), .val (.int (Int32.ofNat len)), .val .null, .val (.ref s.heap.size)] [.ref s.heap.size, .ref a])) rfl (rest := []) rfl (hb hbytes d54)
  have c16 : Steps p.tables e below (s₁.setTop (entryFrame m #[.ref a, .ref b, .int (Int32.ofNat o), .int (Int32.ofNat len), .null] 6)) (T15.setTop (mkF m 57 #[.val (.ref a), .val (.ref b), .val (.int (Int32.ofNat o)), .val (.int (Int32.ofNat len)), .val .null, .val (.ref s.heap.size)] [])) := c14.trans (st15 _ (Steps.refl _))
  have ap := apart (Or.inr ⟨_, (wk W (.laysFinal "java/lang/String" "java/lang/String" "value" "[B"))⟩) (Or.inr ⟨_, (wk W (.laysFinal "java/lang/String" "java/lang/String" "coder" "B"))⟩) f1 f2 (t₁ := .array .byte) (t₂ := .byte) (by decide +kernel) (by decide +kernel) (by decide)
  have al := X8.warmed.alike.symm.trans X15.warmed.alike
  have n7 : T11.heap[s.heap.size]? = some N := by rw [q11]; exact n1.1
  exact ⟨T15, none, _, _, _, X15, by simp, rfl, by omega, (fun _ => rfl), ⟨rfl, _, N, bl15, ((Same.refl D _).set _ (by simp)).set _ (by simp), sl15, (Cell.slots_setSlot_ne _ ap).trans sl13, n1.keep al (p15.other hne (p13.other hne n7)), n2, by rw [al.findClass]; exact n3, n4, n5, fun y c h1 h2 => p15.other h1 (p13.other h1 (by rw [q11]; exact n6 y c h2)), by rw [p15.2.2, p13.2.2, q11]; exact z8⟩, fun fs hl => c16.trans (X15.returnOut hexec hret (hb hbytes d57) hl)⟩
end New4
namespace New1
def yN : MethodName := ⟨"java/lang/String", "<init>", "([C)V"⟩
abbrev yB : ByteArray := jdk_42_method_3_code
theorem d0 : decode yB 0 = .ok (.aload_n 0, 1) := by decide +kernel
theorem d1 : decode yB 1 = .ok (.aload_n 1, 1) := by decide +kernel
theorem d2 : decode yB 2 = .ok (.iconst 0, 1) := by decide +kernel
theorem d3 : decode yB 3 = .ok (.aload_n 1, 1) := by decide +kernel
theorem d4 : decode yB 4 = .ok (.arraylength, 1) := by decide +kernel
theorem d5 : decode yB 5 = .ok (.aconst_null, 1) := by decide +kernel
theorem d6 : decode yB 6 = .ok (.invokespecial 27, 3) := by decide +kernel
theorem d9 : decode yB 9 = .ok (.return_, 1) := by decide +kernel
def site : List Cond := [New4.tab] ++ initW "java/lang/String" 27 New4.yN
def tab : Cond := tabOf yN yB 2 none site
def P (a : Addr) (D : Cell) (fV fC : Field) (b : Addr) (A : Cell) (z : Int32) (args : Array Value) (s : State) : Prop := args = #[.ref a, .ref b] ∧ Blank "java/lang/String" a D s ∧ Found "java/lang/String" "value" "[B" fV s ∧ Found "java/lang/String" "coder" "B" fC s ∧ Ch b A s ∧ StaticIs s "java/lang/String" "COMPACT_STRINGS" "Z" (.int z) ∧ ¬ z = 0 ∧ 0 < A.slots.size ∧ A.slots.size ≤ 536870912 ∧ ∀ i, i < A.slots.size → ¬ 255 < cv A i
def E (a : Addr) (D : Cell) (fV fC : Field) (A : Cell) (r : Option Value) (s u : State) : Prop := Got a D fV fC A 0 A.slots.size r s u
/-- new String(chars), not empty, no char above 255: a Latin-1 String of their low bytes -/
theorem law (l : Launch) (a : Addr) (D : Cell) (fV fC : Field) (b : Addr) (A : Cell) (z : Int32) : Law l yN 2 1 3 52 yB 2 none site (P a D fV fC b A z) (E a D fV fC A) [⟨a, fC.slot⟩, ⟨a, fV.slot⟩] 1 A.slots.size := by
  refine Law.of_walk (plainFor_of_name (by decide +kernel)) (by decide +kernel) (by decide +kernel) (by decide) (fun _ _ h => by rw [h.1]; rfl) (fun _ U U' hal hh h => ⟨h.1, h.2.1.mv hal hh, h.2.2.1.al hal, h.2.2.2.1.al hal, h.2.2.2.2.1.mv hal hh, h.2.2.2.2.2.1.there hal hh, h.2.2.2.2.2.2⟩) (fun r U U' V V' h1 hal h2 h => Got.mv r U U' V V' h1 hal h2 h) ?_
  intro p e s m args below meth c s₁ X0 hexec hbytes hml hret hlk hnm hown hh0 W hP
  obtain ⟨rfl, hB, f1, f2, hA, s1, hz, l0, l2, hp⟩ := hP
  have c1 : Steps p.tables e below (s₁.setTop (entryFrame m #[.ref a, .ref b] 2)) (s₁.setTop (mkF m 0 #[.val (.ref a), .val (.ref b)] [])) := entry rfl
  have c2 : Steps p.tables e below (s₁.setTop (entryFrame m #[.ref a, .ref b] 2)) (s₁.setTop (mkF m 6 #[.val (.ref a), .val (.ref b)] [.null, .int (Int32.ofNat A.slots.size), .int 0, .ref b, .ref a])) := c1.trans (by
    refine XS.aloadN X0.here hexec rfl (hb hbytes d0) rfl rfl ?_
    refine XS.aloadN X0.here hexec rfl (hb hbytes d1) rfl rfl ?_
    refine iconstV X0.here hexec rfl 0 (hb hbytes d2) (by decide) ?_
    refine XS.aloadN X0.here hexec rfl (hb hbytes d3) rfl rfl ?_
    refine X0.alen hexec (hA.1.mv X0.warmed.alike hh0) rfl rfl (hb hbytes d4) ?_
    refine XS.aconstNull X0.here hexec rfl (hb hbytes d5) ?_
    exact Steps.refl _)
  obtain ⟨v3, T3, X3, E3, g3⟩ := X0.callN hexec (New4.law l a D fV fC b A z 0 A.slots.size) rfl hown (wks W (initW "java/lang/String" 27 New4.yN)) (W New4.tab (by simp only [site, List.mem_cons, List.mem_append, true_or, or_true])) (W := 0) (Nat.le_of_ble_eq_true rfl) (Nat.le_of_ble_eq_true rfl) (Nat.le_refl _) (by show 0 + A.slots.size ≤ A.slots.size; omega) (g := (mkF m 6 #[.val (.ref a), .val (.ref b)] [.null, .int (Int32.ofNat A.slots.size), .int (Int32.ofNat 0), .ref b, .ref a])) rfl (by rw [hml]; rfl) c2 (argsL := [.ref b, .int (Int32.ofNat 0), .int (Int32.ofNat A.slots.size), .null]) (rest := []) rfl rfl (by show 2 * 0 + 0 ≤ _; decide) (hb hbytes d6) (⟨rfl, hB.mv X0.warmed.alike hh0, f1.al X0.warmed.alike, f2.al X0.warmed.alike, hA.mv X0.warmed.alike hh0, s1.there X0.warmed.alike hh0, hz, l0, by omega, l2, fun i hi => by rw [Nat.zero_add]; exact hp i hi⟩)
  have e0 := Got.mv _ s₁ s _ _ hh0.symm (Vm.Alike.refl _) rfl E3
  obtain rfl := e0.1
  have c4 : Steps p.tables e below (s₁.setTop (entryFrame m #[.ref a, .ref b] 2)) (T3.setTop (mkF m 9 #[.val (.ref a), .val (.ref b)] [])) := g3
  exact ⟨T3, none, _, _, _, X3, by simp, rfl, by omega, (fun _ => rfl), e0, fun fs hl => c4.trans (X3.returnOut hexec hret (hb hbytes d9) hl)⟩
theorem pays {l : Launch} {R : Room} {p : Program} {e : Env} {below : List Frame} {s : State} {sargs : Array Value} {len W : Nat} (a : Addr) (D : Cell) (fV fC : Field) (b : Addr) (A : Cell) (z : Int32) (htab : tab.before sargs s = true) (hfr : 4 ≤ R.frames) (hlo : W + 65 ≤ R.locals) :
    Back l R p e below s sargs yN len W (fun A₁ a₁ => A₁.cells + 1 ≤ R.cells ∧ A₁.slots + A.slots.size ≤ R.slots ∧ P a D fV fC b A z a₁ A₁.U) (fun A₁ _ v₁ B₁ => E a D fV fC A v₁ A₁.U B₁.U ∧ B₁.locs = A₁.locs ++ [⟨a, fC.slot⟩, ⟨a, fV.slot⟩] ∧ B₁.cells = A₁.cells + 1 ∧ B₁.slots = A₁.slots + A.slots.size) :=
  (law l a D fV fC b A z).pays htab hfr (by omega)
end New1
/-- the byte, read back as charAt reads it, is the char -/
theorem lo8_mask {x : Int32} (h0 : ¬ x < 0) (h1 : ¬ 255 < x) : lo8 x &&& 255 = x := by
  have t : ∀ k : Fin 256, lo8 (Int32.ofNat k.val) &&& 255 = Int32.ofNat k.val := by decide +kernel
  rw [Int32.lt_iff_toInt_lt] at h0 h1
  have e0 : (0 : Int32).toInt = 0 := rfl
  have e1 : (255 : Int32).toInt = 255 := rfl
  obtain ⟨k, hk⟩ : ∃ k : Nat, x.toInt = k := ⟨x.toInt.toNat, by omega⟩
  have hx : x = Int32.ofNat k := Int32.toInt_inj.mp (by rw [hk, Int32.toInt_ofNat_small (by omega)])
  rw [hx]
  exact t ⟨k, by omega⟩
end StrChars
namespace StrChars.Road
open Jvm Sem ClassFile Op Lib Jvm.Stand Jvm.Free Jvm.Free.XT
open Jvm.Lib.Cold (StaticIs)
abbrev ST : String := "java/lang/String"
/-- every table word that New1's law asks, flat -/
abbrev words : List Jvm.Cond := [.code New1.yN New1.yB 2 none, .initialized ST, .methodLink ST 27 New4.yN, .instanceMethod New4.yN,
  .code New4.yN New4.yB 6 none, .fieldLink ST 38 ST "COMPACT_STRINGS" "Z", .laysFinal ST ST "value" "[B", .fieldLink ST 9 ST "value" "[B", .laysFinal ST ST "coder" "B", .fieldLink ST 15 ST "coder" "B",
  .methodLink ST 1 Lib.objectInit, .instanceMethod Lib.objectInit, .code Lib.objectInit ⟨#[0xb1]⟩ 1 none, .methodLink ST 177 Cmp3.yN, .static Cmp3.yN, .methodLink ST 47 CodL.yN, .static CodL.yN,
  .code Cmp3.yN Cmp3.yB 6 (some (.array .byte)), .initialized U16, .arrayClass .byte, .methodLink U16 115 Cmp5.yN, .static Cmp5.yN, .code Cmp5.yN Cmp5.yB 7 (some .int), .code CodL.yN CodL.yB 2 (some .byte)]
theorem tab_of {a : Array Value} {s : State} (h : ∀ w ∈ words, w.before a s = true) : New1.tab.before a s = true := by
  have h5 : Cmp5.tab.before a s = true := unparts (wk h (.code Cmp5.yN Cmp5.yB 7 (some .int))) (wks h (.initialized Cmp5.yN.cls :: Cmp5.site))
  have hc : CodL.tab.before a s = true := unparts (wk h (.code CodL.yN CodL.yB 2 (some .byte))) (wks h (.initialized CodL.yN.cls :: CodL.site))
  have q5 : ∀ w ∈ Cmp5.tab :: words, w.before a s = true := fun w hw => (List.mem_cons.mp hw).elim (fun e => e ▸ h5) (h w)
  have h3 : Cmp3.tab.before a s = true := unparts (wk q5 (.code Cmp3.yN Cmp3.yB 6 (some (.array .byte)))) (wks q5 (.initialized Cmp3.yN.cls :: Cmp3.site))
  have q3 : ∀ w ∈ Cmp3.tab :: CodL.tab :: words, w.before a s = true := fun w hw => (List.mem_cons.mp hw).elim (fun e => e ▸ h3) fun hw => (List.mem_cons.mp hw).elim (fun e => e ▸ hc) (h w)
  have h4 : New4.tab.before a s = true := unparts (wk q3 (.code New4.yN New4.yB 6 none)) (wks q3 (.initialized New4.yN.cls :: New4.site))
  have q4 : ∀ w ∈ New4.tab :: words, w.before a s = true := fun w hw => (List.mem_cons.mp hw).elim (fun e => e ▸ h4) (h w)
  exact unparts (wk q4 (.code New1.yN New1.yB 2 none)) (wks q4 (.initialized New1.yN.cls :: New1.site))
/-- the words ride from the start Z to the walk's own state -/
theorem moved {Z s : State} {a0 args : Array Value} (hZ : Z.Warmed39 s.vm) (hw : ∀ d ∈ words, d.before a0 Z = true) : ∀ d ∈ words, d.before args s = true := fun d hd => by
  have q := hw d hd
  have t : ∀ d ∈ words, d = .arrayClass .byte ∨ (d.onTables && d.keepsFace) = true := by decide +kernel
  rcases t d hd with rfl | t
  · exact RoadKit.mvA hZ q
  · exact RoadKit.mv hZ q t
/-- WHAT COMES BACK, over the tables of the start Z: h the heap at the call, h' behind it -/
def Q (Z : State) (x : Addr) (A : Cell) (h : Heap) (v : Option Value) (h' : Heap) (L : List Loc) : Prop := v = none ∧ (∀ y ∈ L, y.base = x) ∧ RoadKit.Keep h h' [x] ∧ h'.size = h.size + 1 ∧ RoadKit.Exa Z h' x ST ∧ RoadKit.Fld Z h' x ST "value" "[B" (.ref h.size) ∧ RoadKit.Fld Z h' x ST "coder" "B" (.int 0) ∧
  (∃ V : Cell, RoadKit.Arr Z h' h.size V .byte ∧ V.vm = .none ∧ Z.vm.findClass "[B" = some V.cls ∧ V.slots.size = A.slots.size ∧ ∀ j, j < A.slots.size → V.slots[j]? = some (.int (lo8 (cv A j)))) ∧
  ∀ (O n d : String) (w : Value), RoadKit.Fld Z h x O n d w → RoadKit.slotOf Z O n d ≠ RoadKit.slotOf Z ST "value" "[B" → RoadKit.slotOf Z O n d ≠ RoadKit.slotOf Z ST "coder" "B" → RoadKit.Fld Z h' x O n d w
/-- **new String(chars) AT A CALL, IN THE ROAD'S FORM**: for specialBack behind newO: x the fresh String, b the char[] with the cell A -/
theorem back {p : Program} {l : Launch} {e : Env} {R : Room} {s : State} {args : Array Value} {below : List Frame} {len W : Nat} {Z : State} {a0 : Array Value} {h : Heap} (hZ : Z.Warmed39 s.vm) (hw : ∀ d ∈ words, d.before a0 Z = true) {kI : Nat} (wi : (Jvm.Cond.instantiable ST kI).before a0 Z = true)
    {x b : Addr} {A : Cell} {z : Int32} {v0 c0 : Value} (E : RoadKit.Exa Z h x ST) (V : RoadKit.Fld Z h x ST "value" "[B" v0) (C : RoadKit.Fld Z h x ST "coder" "B" c0) (K : RoadKit.Arr Z h b A .char) (hty : Typed .char A) (S : RoadKit.Sta Z h ST "COMPACT_STRINGS" "Z" (.int z)) (hz : ¬ z = 0)
    (l0 : 0 < A.slots.size) (l2 : A.slots.size ≤ 536870912) (hp : ∀ i, i < A.slots.size → ¬ 255 < cv A i) (hfr : 4 ≤ R.frames) (hlo : W + 65 ≤ R.locals) :
    Back l R p e below s args New1.yN len W (fun P a => a = #[.ref x, .ref b] ∧ P.U.heap = h ∧ P.cells + 1 ≤ R.cells ∧ P.slots + A.slots.size ≤ R.slots)
      (fun P _ v B => ∃ L, Q Z x A h v B.U.heap L ∧ B.locs = P.locs ++ L ∧ B.cells = P.cells + 1 ∧ B.slots = P.slots + A.slots.size) := by
  intro m meth c P g ig mk a X hg hsize hdg hW hn hp'
  obtain ⟨rfl, rfl, r1, r2⟩ := hp'
  have al : Z.vm.Alike P.U.vm := hZ.alike.trans X.warmed.alike
  obtain ⟨D, cfV, kV, iV, fV, hD, gV, stV, knV, obV, asV, slV⟩ := id V
  obtain ⟨D', cfC, kC, iC, fC, hD', gC, stC, -, -, asC, slC⟩ := id C
  cases hD.symm.trans hD'
  obtain ⟨D2, kD, e1, e2, e3, e4, e5⟩ := id E
  cases hD.symm.trans e1
  obtain ⟨c2, k2, i1, i2, i3, -⟩ := Cond.instantiable_spec wi
  cases e2.symm.trans i1
  cases e3.symm.trans i2
  obtain ⟨kU, u1, u2⟩ := al.2.2 _ _ e3
  have hB : Blank ST x D P.U := ⟨hD, ⟨knV, fun q hq => by rw [hq] at obV; cases obV⟩, by rw [al.findClass]; exact e2, kU, u1, by rw [u2]; exact i3, by rw [u2]; exact e5 i3⟩
  have F1 : Found ST "value" "[B" fV P.U := ⟨SBG.found_only al ⟨cfV, kV, iV, gV⟩, stV⟩
  have F2 : Found ST "coder" "B" fC P.U := ⟨SBG.found_only al ⟨cfC, kC, iC, gC⟩, stC⟩
  have hA : Ch b A P.U := ⟨⟨K.1, State.isArrayOf_alike al K.2.1, K.2.2, by omega⟩, hty⟩
  have hS : StaticIs P.U ST "COMPACT_STRINGS" "Z" (.int z) := by
    obtain ⟨cfS, iS, kS, fS, st, cS, t1, t2, t3, t4, t5, t6, t7⟩ := S
    exact StaticIs.there (s := { Z with heap := P.U.heap }) ⟨cfS, iS, kS, fS, st, cS, t1, t2, t3, t4, t5, (fun q => by rw [q] at t6; cases t6), t7⟩ al rfl
  obtain ⟨v, B, X', ⟨⟨hv, E', V', q1, q2, q3, q4, q5, q6, q7, q8, q9, q10, q11⟩, hl, hc, hs⟩, st⟩ := New1.pays x D fV fC b A z (tab_of (moved hZ hw)) hfr hlo m meth c P g ig mk _ X hg hsize hdg hW hn ⟨r1, r2, rfl, hB, F1, F2, hA, hS, hz, l0, l2, hp⟩
  have al' : Z.vm.Alike B.U.vm := hZ.alike.trans X'.warmed.alike
  have hsz : E'.slots.size = D.slots.size := by
    obtain ⟨-, -, -, kB, w1, w2, w3⟩ := q1
    obtain ⟨kB', y1, y2⟩ := al'.2.2 _ _ e3
    rw [q2.2.1] at w1
    cases w1.symm.trans y1
    rw [w3, e5 i3, y2]
  refine ⟨v, B, X', ⟨_, ⟨hv, ?_, ⟨by omega, fun y cy hy hn' => q10 y cy (by simpa using hn') hy, fun y cy hy => ?_⟩, q11, ⟨E', _, q1.1, by rw [q2.2.1]; exact e2, by rw [q2.2.1]; exact e3, by rw [q2.1]; exact obV, fun _ => by rw [hsz]; exact e5 i3⟩,
    ⟨E', cfV, kV, iV, fV, q1.1, gV, stV, by rw [q2.1]; exact knV, by rw [q2.1]; exact obV, by rw [q2.2.1]; exact asV, q3⟩, ⟨E', cfC, kC, iC, fC, q1.1, gC, stC, by rw [q2.1]; exact knV, by rw [q2.1]; exact obV, by rw [q2.2.1]; exact asC, q4⟩,
    ⟨V', ⟨q5.1, State.isArrayOf_alike al'.symm q5.2.1, q5.2.2.1⟩, q6, by rw [← al'.findClass]; exact q7, q8, fun j hj => by have := q9 j hj; rwa [Nat.zero_add] at this⟩, fun O n d w F n1 n2 => ?_⟩, hl, hc, hs⟩, st⟩
  · intro y hy
    simp only [List.mem_cons, List.not_mem_nil, or_false] at hy
    rcases hy with rfl | rfl <;> rfl
  · by_cases q : y = x
    · subst q
      cases hD.symm.trans hy
      exact ⟨E', q1.1, q2.2.1, q2.1, hsz⟩
    · exact ⟨cy, q10 y cy q hy, rfl, rfl, rfl⟩
  · obtain ⟨D3, cf, k, i, f, g1, g2, g3, g4, g5, g6, g7⟩ := F
    cases hD.symm.trans g1
    simp only [RoadKit.slotOf, g2, gV, gC, Option.map_some, Option.getD_some] at n1 n2
    exact ⟨E', cf, k, i, f, q1.1, g2, g3, by rw [q2.1]; exact g4, by rw [q2.1]; exact g5, by rw [q2.2.1]; exact g6, by rw [q2.2.2 f.slot (by simp [n1, n2])]; exact g7⟩
end StrChars.Road
namespace StrChars.Road
open Jvm Sem ClassFile Op Lib Jvm.Stand Jvm.Free Jvm.Free.XT
/-- WHAT COMES BACK, the byte[] as a list of values -/
def QA (Z : State) (x : Addr) (zn : Int32) (cs : List Int32) (h : Heap) (v : Option Value) (h' : Heap) (L : List Loc) : Prop := v = none ∧ (∀ y ∈ L, y.base = x) ∧ RoadKit.Keep h h' [x] ∧ h'.size = h.size + 1 ∧ RoadKit.Exa Z h' x ST ∧ RoadKit.Fld Z h' x ST "value" "[B" (.ref h.size) ∧ RoadKit.Fld Z h' x ST "coder" "B" (.int 0) ∧
  (∃ kb, Z.vm.findClass "[B" = some kb ∧ RoadKit.Arv Z h' h.size kb .byte zn (cs.map fun c => .int (lo8 c)) (.int 0)) ∧
  ∀ (O n d : String) (w : Value), RoadKit.Fld Z h x O n d w → RoadKit.slotOf Z O n d ≠ RoadKit.slotOf Z ST "value" "[B" → RoadKit.slotOf Z O n d ≠ RoadKit.slotOf Z ST "coder" "B" → RoadKit.Fld Z h' x O n d w
/-- **new String(chars) AT A CALL, THE ARRAYS AS LISTS**: the char[] at b holds cs, not empty, no char above 255 -/
theorem backArv {p : Program} {l : Launch} {e : Env} {R : Room} {s : State} {args : Array Value} {below : List Frame} {len W : Nat} {Z : State} {a0 : Array Value} {h : Heap} (hZ : Z.Warmed39 s.vm) (hw : ∀ d ∈ words, d.before a0 Z = true) {kI : Nat} (wi : (Jvm.Cond.instantiable ST kI).before a0 Z = true)
    {x b : Addr} {k : ClassId} {zn z : Int32} {cs : List Int32} {dv v0 c0 : Value} (E : RoadKit.Exa Z h x ST) (V : RoadKit.Fld Z h x ST "value" "[B" v0) (C : RoadKit.Fld Z h x ST "coder" "B" c0) (K : RoadKit.Arv Z h b k .char zn (cs.map Value.int) dv) (S : RoadKit.Sta Z h ST "COMPACT_STRINGS" "Z" (.int z)) (hz : ¬ z = 0)
    (hlen : zn.toNatClampNeg = cs.length) (h0 : 0 < cs.length) (hbig : cs.length ≤ 536870912) (hall : ∀ c ∈ cs, ¬ 255 < c) (hfr : 4 ≤ R.frames) (hlo : W + 65 ≤ R.locals) :
    Back l R p e below s args New1.yN len W (fun P a => a = #[.ref x, .ref b] ∧ P.U.heap = h ∧ P.cells + 1 ≤ R.cells ∧ P.slots + cs.length ≤ R.slots)
      (fun P _ v B => ∃ L, QA Z x zn cs h v B.U.heap L ∧ B.locs = P.locs ++ L ∧ B.cells = P.cells + 1 ∧ B.slots = P.slots + cs.length) := by
  obtain ⟨A, K1, K2, K3, K4, K5, K6⟩ := K
  have e : A.slots.size = cs.length := K3.trans hlen
  have hat : ∀ (i : Nat) (hi : i < cs.length), A.slots[i]? = some (.int cs[i]) := fun i hi => by rw [K5 i (by omega)]; simp [List.getD_eq_getElem?_getD, hi]
  have hcv : ∀ (i : Nat) (hi : i < cs.length), cv A i = cs[i] := fun i hi => by unfold cv; rw [hat i hi]
  have hty : Typed .char A := fun i v hv => by
    have hi : i < A.slots.size := (Array.getElem?_eq_some_iff.mp hv).1
    have q := K5 i hi
    rw [hv] at q
    rw [Option.some.inj q]
    exact K6 i hi
  refine Back.mono (back hZ hw wi E V C K1 hty S hz (by omega) (by omega) (fun i hi => by rw [hcv i (by omega)]; exact hall _ (List.getElem_mem _)) hfr hlo) (fun P a hp => ⟨hp.1, hp.2.1, hp.2.2.1, by rw [e]; exact hp.2.2.2⟩) (fun P a v B hp hq => ?_)
  obtain ⟨L, ⟨q1, q2, q3, q4, q5, q6, q7, ⟨V', v1, v2, v3, v4, v5⟩, q9⟩, hl, hc, hs⟩ := hq
  refine ⟨L, ⟨q1, q2, q3, q4, q5, q6, q7, ⟨V'.cls, v3, V', v1, rfl, by rw [v4, e, hlen], K4, fun i hi => ?_, fun i hi => ?_⟩, q9⟩, hl, hc, by rw [hs, e]⟩
  · have hi' : i < cs.length := by omega
    rw [v5 i (by omega), hcv i hi']; simp [List.getD_eq_getElem?_getD, hi']
  · have hi' : i < cs.length := by omega
    simp only [List.getD_eq_getElem?_getD, List.getElem?_map, List.getElem?_eq_getElem hi', Option.map_some, Option.getD_some]
    exact fits_lo8 _
end StrChars.Road
namespace StrChars.Road
open Jvm Sem ClassFile Op Lib Jvm.Stand Jvm.Free Jvm.Free.XT
/-- WHAT COMES BACK, in the writer's own shape -/
def QV (Z : State) (x : Addr) (N : Int32) (bs : List Int32) (h : Heap) (n0 : Nat) (v : Option Value) (h' : Heap) (L : List Loc) : Prop := v = none ∧ RoadKit.Fr n0 L ∧ RoadKit.Keep h h' [x] ∧ RoadKit.Exa Z h' x ST ∧ RoadKit.Fld Z h' x ST "coder" "B" (.int 0) ∧
  ∃ (t : Addr) (kb : ClassId), n0 ≤ t ∧ h.size ≤ t ∧ ¬ t = x ∧ RoadKit.Fld Z h' x ST "value" "[B" (.ref t) ∧ RoadKit.Arv Z h' t kb .byte N (bs.map Value.int) (.int 0)
/-- **new String(chars) AT A CALL, FOR THE WRITER**: a char[] of n known ints, each 0 to 255 -/
theorem backV {p : Program} {l : Launch} {e : Env} {R : Room} {s : State} {args : Array Value} {below : List Frame} {len W : Nat} {Z : State} {a0 : Array Value} {h : Heap} (hZ : Z.Warmed39 s.vm) (hw : ∀ d ∈ words, d.before a0 Z = true) {kI : Nat} (wi : (Jvm.Cond.instantiable ST kI).before a0 Z = true)
    {x b : Addr} {kC : ClassId} {cs bs : List Int32} {d v0 c0 : Value} {z N : Int32} {n n0 : Nat} (hx0 : n0 ≤ x) (hh0 : n0 ≤ h.size) (E : RoadKit.Exa Z h x ST) (V : RoadKit.Fld Z h x ST "value" "[B" v0) (C : RoadKit.Fld Z h x ST "coder" "B" c0) (K : RoadKit.Arv Z h b kC .char N (cs.map Value.int) d) (S : RoadKit.Sta Z h ST "COMPACT_STRINGS" "Z" (.int z)) (hz : ¬ z = 0)
    (hn : cs.length = n) (hN : N = Int32.ofNat n) (l0 : 0 < n) (l2 : n ≤ 4000) (hp : ∀ c ∈ cs, ¬ c < 0 ∧ ¬ (255 : Int32) < c) (hb : bs = cs.map (fun c => c.toInt8.toInt32)) (hfr : 4 ≤ R.frames) (hlo : W + 65 ≤ R.locals) :
    Back l R p e below s args (⟨"java/lang/String", "<init>", "([C)V"⟩ : MethodName) len W (fun P a => a = #[.ref x, .ref b] ∧ P.U.heap = h ∧ P.cells + 1 ≤ R.cells ∧ P.slots + n ≤ R.slots)
      (fun P _ v B => ∃ L, QV Z x N bs h n0 v B.U.heap L ∧ B.locs = P.locs ++ L ∧ B.cells = P.cells + 1 ∧ B.slots = P.slots + n) := by
  subst hn hN hb
  refine Back.mono (backArv hZ hw wi E V C K S hz (n32 (by omega)) l0 (by omega) (fun c hc => (hp c hc).2) hfr hlo) (fun P a hp => hp) (fun P a v B hp hq => ?_)
  obtain ⟨L, ⟨q1, q2, q3, q4, q5, q6, q7, ⟨kb, v1, v2⟩, q9⟩, hl, hc, hs⟩ := hq
  exact ⟨L, ⟨q1, fun y hy => by rw [q2 y hy]; exact hx0, q3, q5, q7, h.size, kb, hh0, Nat.le_refl _, Nat.ne_of_gt E.lt, q6, by rw [List.map_map]; exact v2⟩, hl, hc, hs⟩
end StrChars.Road
namespace StrChars
open Jvm Sem ClassFile Op Lib Jvm.Stand Jvm.Free.XT Jvm.Free.ALB Jvm.Free.JM Jvm.Free
open Jvm.Lib.Cold (StaticIs)
def hi8 (x : Int32) : Int32 := lo8 (x >>> ((8 : Int32) &&& 31))
/-- what StringUTF16.getChar makes of two bytes -/
def pairCh (u v : Int32) : Int32 := (((u &&& 255) <<< ((0 : Int32) &&& 31)) ||| ((v &&& 255) <<< ((8 : Int32) &&& 31))).toUInt32.toUInt16.toUInt32.toInt32
theorem lo8_and (x : Int32) : (lo8 x &&& 255).toBitVec.toNat = x.toBitVec.toNat % 256 := by
  have h : (lo8 x).toBitVec = (x.toBitVec.signExtend 8).signExtend 32 := by rw [lo8, Int8.toBitVec_toInt32, Int32.toBitVec_toInt8]
  rw [Int32.toBitVec_and, BitVec.toNat_and, h]
  have e : ((x.toBitVec.signExtend 8).signExtend 32).toNat % 256 = x.toBitVec.toNat % 256 := by
    rw [BitVec.toNat_signExtend]
    have hlt := x.toBitVec.isLt
    simp only [BitVec.toNat_setWidth, BitVec.toNat_signExtend]
    split <;> split <;> omega
  rw [← e]
  exact Nat.and_two_pow_sub_one_eq_mod _ 8
theorem pair_says {c : Int32} (h0 : ¬ c < 0) (h1 : ¬ 65535 < c) : pairCh (lo8 c) (hi8 c) = c := by
  rw [Int32.lt_iff_toInt_lt] at h0 h1
  have e0 : (0 : Int32).toInt = 0 := rfl
  have e1 : (65535 : Int32).toInt = 65535 := rfl
  have hc : c.toInt = c.toBitVec.toNat := by
    have := c.toBitVec.isLt
    have e : c.toInt = c.toBitVec.toInt := rfl
    rw [e] at h0 h1
    rw [e]
    rw [BitVec.toInt_eq_toNat_cond] at h0 h1 ⊢
    split at h0 <;> split <;> omega
  have hn : c.toBitVec.toNat < 65536 := by omega
  have a1 := lo8_and c
  have a2 : (hi8 c &&& 255).toBitVec.toNat = c.toBitVec.toNat / 256 := by
    rw [hi8, lo8_and]
    have e : ((8 : Int32) &&& 31) = 8 := by decide
    rw [e, Int32.toBitVec_shiftRight]
    have e2 : ((8 : Int32).toBitVec.smod 32) = 8#32 := by decide
    rw [e2, BitVec.sshiftRight_eq', BitVec.toNat_sshiftRight_of_msb_false (by rw [BitVec.msb_eq_false_iff_two_mul_lt]; omega)]
    show c.toBitVec.toNat >>> 8 % 256 = _
    rw [Nat.shiftRight_eq_div_pow]
    omega
  unfold pairCh
  apply Int32.toBitVec_inj.mp
  apply BitVec.eq_of_toNat_eq
  have f0 : ((0 : Int32) &&& 31) = 0 := by decide
  have f8 : ((8 : Int32) &&& 31) = 8 := by decide
  rw [f0, f8]
  have g : (((lo8 c &&& 255) <<< (0 : Int32)) ||| ((hi8 c &&& 255) <<< (8 : Int32))).toBitVec.toNat = c.toBitVec.toNat := by
    rw [Int32.toBitVec_or, Int32.toBitVec_shiftLeft, Int32.toBitVec_shiftLeft]
    have s0 : ((0 : Int32).toBitVec.smod 32) = 0#32 := by decide
    have s8 : ((8 : Int32).toBitVec.smod 32) = 8#32 := by decide
    rw [s0, s8, BitVec.toNat_or]
    simp only [BitVec.shiftLeft_eq', BitVec.toNat_shiftLeft, a1, a2]
    show (c.toBitVec.toNat % 256) <<< 0 % 2 ^ 32 ||| (c.toBitVec.toNat / 256) <<< 8 % 2 ^ 32 = _
    rw [Nat.shiftLeft_zero, Nat.mod_eq_of_lt (show c.toBitVec.toNat % 256 < 2 ^ 32 by omega), Nat.mod_eq_of_lt (show (c.toBitVec.toNat / 256) <<< 8 < 2 ^ 32 by rw [Nat.shiftLeft_eq]; omega), Nat.or_comm, ← Nat.shiftLeft_add_eq_or_of_lt (by omega), Nat.shiftLeft_eq]
    omega
  show BitVec.toNat (((((lo8 c &&& 255) <<< (0 : Int32)) ||| ((hi8 c &&& 255) <<< (8 : Int32))).toBitVec.setWidth 16).setWidth 32) = _
  rw [BitVec.toNat_setWidth, BitVec.toNat_setWidth, g]
  omega
end StrChars
namespace StrChars
open Jvm Sem ClassFile Op Lib Jvm.Stand Jvm.Free.XT Jvm.Free.ALB Jvm.Free.JM Jvm.Free
open Jvm.Lib.Cold (StaticIs)
/-- the array's cell V codes the n chars f 0 .. f (n - 1) by the coder cd, as the JDK does: coder 1 just where some char is above 255 -/
def Cod (cd : Int32) (n : Nat) (f : Nat → Int32) (V : Cell) : Prop := (cd = 0 ∧ V.slots.size = n ∧ ∀ j, j < n → V.slots[j]? = some (.int (lo8 (f j))) ∧ ¬ 255 < f j) ∨ (cd = 1 ∧ V.slots.size = 2 * n ∧ (∀ j, j < n → V.slots[2 * j]? = some (.int (lo8 (f j))) ∧ V.slots[2 * j + 1]? = some (.int (hi8 (f j)))) ∧ ∃ j, j < n ∧ 255 < f j)
/-- **x is a String of the n chars f 0 .. f (n - 1)**, Latin-1 or UTF-16; its array at t has the cell V -/
def Txt (x t : Addr) (V : Cell) (cd : Int32) (n : Nat) (f : Nat → Int32) (U : State) : Prop := Exact "java/lang/String" x U ∧ Has x "java/lang/String" "value" "[B" (.ref t) U ∧ Has x "java/lang/String" "coder" "B" (.int cd) U ∧ XT.Arr .byte t V U ∧ Cod cd n f V ∧ ∀ j, j < n → ¬ f j < 0 ∧ ¬ 65535 < f j
theorem Txt.mv {x t : Addr} {V : Cell} {cd : Int32} {n : Nat} {f : Nat → Int32} {U U' : State} (h : Txt x t V cd n f U) (hal : U.vm.Alike U'.vm) (hh : U'.heap = U.heap) : Txt x t V cd n f U' := ⟨h.1.mv hal hh, h.2.1.mv hal hh, h.2.2.1.mv hal hh, h.2.2.2.1.mv hal hh, h.2.2.2.2⟩
end StrChars
namespace StrChars.Road
open Jvm Sem ClassFile Op Lib Jvm.Stand Jvm.Free Jvm.Free.XT
open Jvm.Lib.Cold (StaticIs)
theorem consq {a : Array Value} {s : State} {c : Jvm.Cond} {L : List Jvm.Cond} (h0 : c.before a s = true) (h : ∀ w ∈ L, w.before a s = true) : ∀ w ∈ c :: L, w.before a s = true := fun w hw => (List.mem_cons.mp hw).elim (fun e => e ▸ h0) (h w)
/-- the bytes of the chars cs, low before high -/
def wideBytes : List Int32 → List Value
  | [] => []
  | c :: cs => .int (lo8 c) :: .int (hi8 c) :: wideBytes cs
theorem wide_lo (d : Value) : ∀ (cs : List Int32) (j : Nat), j < cs.length → (wideBytes cs).getD (2 * j) d = .int (lo8 (cs.getD j 0))
  | [], j, h => absurd h (Nat.not_lt_zero j)
  | c :: cs, 0, _ => rfl
  | c :: cs, j + 1, h => by
    have q := wide_lo d cs j (by simpa using h)
    rw [show 2 * (j + 1) = 2 * j + 1 + 1 from by omega]
    simpa [wideBytes] using q
theorem wide_hi (d : Value) : ∀ (cs : List Int32) (j : Nat), j < cs.length → (wideBytes cs).getD (2 * j + 1) d = .int (hi8 (cs.getD j 0))
  | [], j, h => absurd h (Nat.not_lt_zero j)
  | c :: cs, 0, _ => rfl
  | c :: cs, j + 1, h => by
    have q := wide_hi d cs j (by simpa using h)
    rw [show 2 * (j + 1) + 1 = 2 * j + 1 + 1 + 1 from by omega]
    simpa [wideBytes] using q
theorem low_at (d : Value) (cs : List Int32) (j : Nat) (h : j < cs.length) : (cs.map fun c => Value.int (lo8 c)).getD j d = .int (lo8 (cs.getD j 0)) := by
  simp [List.getD_eq_getElem?_getD, h]
/-- an array of N2 bytes vs codes the chars cs by the coder cd -/
def CodA (cs : List Int32) (cd N2 : Int32) (vs : List Value) : Prop := (cd = 0 ∧ N2 = Int32.ofNat cs.length ∧ vs = (cs.map fun c => Value.int (lo8 c)) ∧ ∀ c ∈ cs, ¬ 255 < c) ∨ (cd = 1 ∧ N2 = Int32.ofNat (2 * cs.length) ∧ vs = wideBytes cs ∧ ∃ c ∈ cs, 255 < c)
theorem CodA.cod {cs : List Int32} {cd N2 : Int32} {vs : List Value} {V : Cell} (h : CodA cs cd N2 vs) (hn : 2 * cs.length < 2 ^ 31) (hs : V.slots.size = N2.toNatClampNeg) (hv : RoadKit.Has V vs (.int 0)) : Cod cd cs.length (fun j => cs.getD j 0) V := by
  rcases h with ⟨rfl, rfl, rfl, h⟩ | ⟨rfl, rfl, rfl, c, hc, hw⟩
  · rw [n32 (by omega)] at hs
    exact Or.inl ⟨rfl, hs, fun j hj => ⟨by rw [hv j (by omega), low_at _ _ _ hj], by
      have e : cs.getD j 0 = cs[j] := by simp [List.getD_eq_getElem?_getD, hj]
      show ¬ 255 < cs.getD j 0
      rw [e]; exact h _ (List.getElem_mem _)⟩⟩
  · rw [n32 (by omega)] at hs
    obtain ⟨j, hj, rfl⟩ := List.getElem_of_mem hc
    exact Or.inr ⟨rfl, hs, fun j hj => ⟨by rw [hv _ (by omega), wide_lo _ _ _ hj], by rw [hv _ (by omega), wide_hi _ _ _ hj]⟩, j, hj, by
      have e : cs.getD j 0 = cs[j] := by simp [List.getD_eq_getElem?_getD, hj]
      show 255 < cs.getD j 0
      rw [e]; exact hw⟩
/-- an object of exactly java/lang/String, its two fields found: as the laws ask it -/
theorem strObj {Z U : State} {a0 : Array Value} {kI : Nat} (wi : (Jvm.Cond.instantiable ST kI).before a0 Z = true) (al : Z.vm.Alike U.vm) {x : Addr} {v0 c0 : Value} (E : RoadKit.Exa Z U.heap x ST) (V : RoadKit.Fld Z U.heap x ST "value" "[B" v0) (C : RoadKit.Fld Z U.heap x ST "coder" "B" c0) :
    ∃ (D : Cell) (fV fC : Field), Blank ST x D U ∧ Found ST "value" "[B" fV U ∧ Found ST "coder" "B" fC U ∧ D.slots[fV.slot]? = some v0 ∧ D.slots[fC.slot]? = some c0 ∧ RoadKit.slotOf Z ST "value" "[B" = fV.slot ∧ RoadKit.slotOf Z ST "coder" "B" = fC.slot := by
  obtain ⟨D, cfV, kV, iV, fV, hD, gV, stV, knV, obV, asV, slV⟩ := V
  obtain ⟨D', cfC, kC, iC, fC, hD', gC, stC, -, -, asC, slC⟩ := C
  cases hD.symm.trans hD'
  obtain ⟨D2, kD, e1, e2, e3, e4, e5⟩ := E
  cases hD.symm.trans e1
  obtain ⟨c2, k2, i1, i2, i3, -⟩ := Cond.instantiable_spec wi
  cases e2.symm.trans i1
  cases e3.symm.trans i2
  obtain ⟨kU, u1, u2⟩ := al.2.2 _ _ e3
  exact ⟨D, fV, fC, ⟨hD, ⟨knV, fun q hq => by rw [hq] at obV; cases obV⟩, by rw [al.findClass]; exact e2, kU, u1, by rw [u2]; exact i3, by rw [u2]; exact e5 i3⟩, ⟨SBG.found_only al ⟨cfV, kV, iV, gV⟩, stV⟩, ⟨SBG.found_only al ⟨cfC, kC, iC, gC⟩, stC⟩, slV, slC, by simp [RoadKit.slotOf, gV], by simp [RoadKit.slotOf, gC]⟩
theorem sta_is {Z U : State} (al : Z.vm.Alike U.vm) {C n d : String} {v : Value} (S : RoadKit.Sta Z U.heap C n d v) : StaticIs U C n d v := by
  obtain ⟨cfS, iS, kS, fS, st, cS, t1, t2, t3, t4, t5, t6, t7⟩ := S
  exact StaticIs.there (s := { Z with heap := U.heap }) ⟨cfS, iS, kS, fS, st, cS, t1, t2, t3, t4, t5, (fun q => by rw [q] at t6; cases t6), t7⟩ al rfl
end StrChars.Road
namespace StrChars
open Jvm Sem ClassFile Op Lib Jvm.Stand Jvm.Free.XT Jvm.Free.ALB Jvm.Free.JM Jvm.Free
open Jvm.Lib.Cold (StaticIs)
/-- what place i of a byte[]'s cell holds -/
def yv (A : Cell) (i : Nat) : Int32 := match A.slots[i]? with | some (.int x) => x | _ => 0
theorem yv_get {a : Addr} {A : Cell} {U : State} (h : XT.Arr .byte a A U) (ht : Typed .byte A) {i : Nat} (hi : i < A.slots.size) : A.slots[i]? = some (.int (yv A i)) := by
  have e := Array.getElem?_eq_getElem hi
  have f := ht i _ e
  unfold yv; rw [e]
  generalize A.slots[i] = v at f
  cases v <;> simp [fits] at f ⊢
/-- the two arrays are equal, place for place -/
def EqC (A B : Cell) : Prop := A.slots.size = B.slots.size ∧ ∀ i, i < A.slots.size → yv A i = yv B i
/-- a boolean that says whether p -/
def Says01 (q : Prop) (r : Option Value) (s u : State) : Prop := ∃ v : Int32, r = some (.int v) ∧ u.heap = s.heap ∧ ((v = 1 ∧ q) ∨ (v = 0 ∧ ¬ q))
theorem Says01.mv {q : Prop} : ∀ r (U U' V V' : State), U'.heap = U.heap → V.vm.Alike V'.vm → V'.heap = V.heap → Says01 q r U V → Says01 q r U' V' :=
  fun r U U' V V' h1 _ h2 ⟨v, a, b, c⟩ => ⟨v, a, by rw [h1, h2]; exact b, c⟩
namespace LEq
def yN : MethodName := ⟨"java/lang/StringLatin1", "equals", "([B[B)Z"⟩
abbrev yB : ByteArray := jdk_43_method_13_code
theorem d0 : decode yB 0 = .ok (.aload_n 0, 1) := by decide +kernel
theorem d1 : decode yB 1 = .ok (.arraylength, 1) := by decide +kernel
theorem d2 : decode yB 2 = .ok (.aload_n 1, 1) := by decide +kernel
theorem d3 : decode yB 3 = .ok (.arraylength, 1) := by decide +kernel
theorem d4 : decode yB 4 = .ok (.if_icmp (.ne) 30, 3) := by decide +kernel
theorem d7 : decode yB 7 = .ok (.iconst 0, 1) := by decide +kernel
theorem d8 : decode yB 8 = .ok (.istore_n 2, 1) := by decide +kernel
theorem d9 : decode yB 9 = .ok (.iload_n 2, 1) := by decide +kernel
theorem d10 : decode yB 10 = .ok (.aload_n 0, 1) := by decide +kernel
theorem d11 : decode yB 11 = .ok (.arraylength, 1) := by decide +kernel
theorem d12 : decode yB 12 = .ok (.if_icmp (.ge) 20, 3) := by decide +kernel
theorem d15 : decode yB 15 = .ok (.aload_n 0, 1) := by decide +kernel
theorem d16 : decode yB 16 = .ok (.iload_n 2, 1) := by decide +kernel
theorem d17 : decode yB 17 = .ok (.baload, 1) := by decide +kernel
theorem d18 : decode yB 18 = .ok (.aload_n 1, 1) := by decide +kernel
theorem d19 : decode yB 19 = .ok (.iload_n 2, 1) := by decide +kernel
theorem d20 : decode yB 20 = .ok (.baload, 1) := by decide +kernel
theorem d21 : decode yB 21 = .ok (.if_icmp (.eq) 5, 3) := by decide +kernel
theorem d24 : decode yB 24 = .ok (.iconst 0, 1) := by decide +kernel
theorem d25 : decode yB 25 = .ok (.ireturn, 1) := by decide +kernel
theorem d26 : decode yB 26 = .ok (.iinc 2 1, 3) := by decide +kernel
theorem d29 : decode yB 29 = .ok (.goto (-20), 3) := by decide +kernel
theorem d32 : decode yB 32 = .ok (.iconst 1, 1) := by decide +kernel
theorem d33 : decode yB 33 = .ok (.ireturn, 1) := by decide +kernel
theorem d34 : decode yB 34 = .ok (.iconst 0, 1) := by decide +kernel
theorem d35 : decode yB 35 = .ok (.ireturn, 1) := by decide +kernel
def site : List Cond := []
def tab : Cond := tabOf yN yB 3 (some .boolean) site
def P (a : Addr) (A : Cell) (b : Addr) (B : Cell) (args : Array Value) (s : State) : Prop := args = #[.ref a, .ref b] ∧ XT.Arr .byte a A s ∧ Typed .byte A ∧ XT.Arr .byte b B s ∧ Typed .byte B
/-- whether two byte[] are equal, place for place -/
theorem law (l : Launch) (a : Addr) (A : Cell) (b : Addr) (B : Cell) : Law l yN 2 2 0 0 yB 3 (some .boolean) site (P a A b B) (Says01 (EqC A B)) [] 0 0 := by
  refine Law.of_walk (plainFor_of_name (by decide +kernel)) (by decide +kernel) (by decide +kernel) (by decide) (fun _ _ h => by rw [h.1]; rfl) (fun _ U U' hal hh h => ⟨h.1, h.2.1.mv hal hh, h.2.2.1, h.2.2.2.1.mv hal hh, h.2.2.2.2⟩) (fun r U U' V V' h1 hal h2 h => Says01.mv r U U' V V' h1 hal h2 h) ?_
  intro p e s m args below meth c s₁ X0 hexec hbytes hml hret hlk hnm hown hh0 W hP
  obtain ⟨rfl, hA, tA, hB, tB⟩ := hP
  have a31 := hA.2.2.2
  have b31 := hB.2.2.2
  have hA0 := hA.mv X0.warmed.alike hh0
  have hB0 := hB.mv X0.warmed.alike hh0
  have c1 : Steps p.tables e below (s₁.setTop (entryFrame m #[.ref a, .ref b] 3)) (s₁.setTop (mkF m 0 #[.val (.ref a), .val (.ref b), .unset] [])) := entry rfl
  have c2 : Steps p.tables e below (s₁.setTop (entryFrame m #[.ref a, .ref b] 3)) (s₁.setTop (mkF m 4 #[.val (.ref a), .val (.ref b), .unset] [.int (Int32.ofNat B.slots.size), .int (Int32.ofNat A.slots.size)])) := c1.trans (by
    refine XS.aloadN X0.here hexec rfl (hb hbytes d0) rfl rfl ?_
    refine X0.alen hexec hA0 rfl rfl (hb hbytes d1) ?_
    refine XS.aloadN X0.here hexec rfl (hb hbytes d2) rfl rfl ?_
    refine X0.alen hexec hB0 rfl rfl (hb hbytes d3) ?_
    exact Steps.refl _)
  by_cases hs : A.slots.size = B.slots.size
  · have c3 : Steps p.tables e below (s₁.setTop (entryFrame m #[.ref a, .ref b] 3)) (s₁.setTop (mkF m 9 #[.val (.ref a), .val (.ref b), .val (.int 0)] [])) := c2.trans (by
      refine XS.icmpNo X0.here hexec rfl (hb hbytes d4) rfl (ii_ne_f (by rw [hs])) ?_
      refine iconstV X0.here hexec rfl 0 (hb hbytes d7) (by decide) ?_
      refine XS.istoreN X0.here hexec rfl (hb hbytes d8) rfl rfl ?_
      exact Steps.refl _)
    have loop : ∀ (r i : Nat), i + r = A.slots.size → (∀ j, j < i → yv A j = yv B j) → Steps p.tables e below (s₁.setTop (entryFrame m #[.ref a, .ref b] 3)) (s₁.setTop (mkF m 9 #[.val (.ref a), .val (.ref b), .val (.int (Int32.ofNat i))] [])) → ∃ (pc : Nat) (Ls : Array Slot) (v : Int32), (pc = 25 ∨ pc = 33) ∧ ((v = 1 ∧ EqC A B) ∨ (v = 0 ∧ ¬ EqC A B)) ∧ Steps p.tables e below (s₁.setTop (entryFrame m #[.ref a, .ref b] 3)) (s₁.setTop (mkF m pc Ls [.int v])) := by
      intro r
      induction r with
      | zero =>
        intro i hi he cl
        exact ⟨33, _, 1, Or.inr rfl, Or.inl ⟨rfl, hs, fun j hj => he j (by omega)⟩, cl.trans (by
          refine XS.iloadN X0.here hexec rfl (hb hbytes d9) rfl ?_
          refine XS.aloadN X0.here hexec rfl (hb hbytes d10) rfl rfl ?_
          refine X0.alen hexec hA0 rfl rfl (hb hbytes d11) ?_
          refine XS.icmpYes X0.here hexec rfl (pc0 := 12) rfl (hb hbytes d12) rfl (ii_ge_t (nlt32 (by omega) (by omega))) (by decide) rfl ?_
          refine iconstV X0.here hexec rfl 1 (hb hbytes d32) (by decide) ?_
          exact Steps.refl _)⟩
      | succ r ih =>
        intro i hi he cl
        have c4 : Steps p.tables e below (s₁.setTop (entryFrame m #[.ref a, .ref b] 3)) (s₁.setTop (mkF m 21 #[.val (.ref a), .val (.ref b), .val (.int (Int32.ofNat i))] [.int (yv B i), .int (yv A i)])) := cl.trans (by
          refine XS.iloadN X0.here hexec rfl (hb hbytes d9) rfl ?_
          refine XS.aloadN X0.here hexec rfl (hb hbytes d10) rfl rfl ?_
          refine X0.alen hexec hA0 rfl rfl (hb hbytes d11) ?_
          refine XS.icmpNo X0.here hexec rfl (hb hbytes d12) rfl (ii_ge_f (lt32 (by omega) (by omega))) ?_
          refine XS.aloadN X0.here hexec rfl (hb hbytes d15) rfl rfl ?_
          refine XS.iloadN X0.here hexec rfl (hb hbytes d16) rfl ?_
          refine X0.aget hexec hA0 rfl (yv_get hA tA (i := i) (by omega)) rfl rfl (hb hbytes d17) ?_
          refine XS.aloadN X0.here hexec rfl (hb hbytes d18) rfl rfl ?_
          refine XS.iloadN X0.here hexec rfl (hb hbytes d19) rfl ?_
          refine X0.aget hexec hB0 rfl (yv_get hB tB (i := i) (by omega)) rfl rfl (hb hbytes d20) ?_
          exact Steps.refl _)
        by_cases hv : yv A i = yv B i
        · have c5 : Steps p.tables e below (s₁.setTop (entryFrame m #[.ref a, .ref b] 3)) (s₁.setTop (mkF m 9 #[.val (.ref a), .val (.ref b), .val (.int (Int32.ofNat i + 1))] [])) := c4.trans (by
            refine XS.icmpYes X0.here hexec rfl (pc0 := 21) rfl (hb hbytes d21) rfl (ii_eq_t hv) (by decide) rfl ?_
            refine iincV X0.here hexec rfl 1 (hb hbytes d26) (by decide) rfl rfl ?_
            refine XS.goto X0.here hexec rfl (pc0 := 29) rfl (hb hbytes d29) (by decide) rfl ?_
            exact Steps.refl _)
          rw [succ32] at c5
          exact ih (i + 1) (by omega) (fun j hj => by
            by_cases e : j = i
            · rw [e]; exact hv
            · exact he j (by omega)) c5
        · exact ⟨25, _, 0, Or.inl rfl, Or.inr ⟨rfl, fun q => hv (q.2 i (by omega))⟩, c4.trans (by
            refine XS.icmpNo X0.here hexec rfl (hb hbytes d21) rfl (ii_eq_f hv) ?_
            refine iconstV X0.here hexec rfl 0 (hb hbytes d24) (by decide) ?_
            exact Steps.refl _)⟩
    obtain ⟨pc, Ls, v, hpc, hv, cz⟩ := loop A.slots.size 0 (by omega) (fun j hj => absurd hj (Nat.not_lt_zero j)) c3
    have nv : narrow .boolean (.int v) = .int v := by rcases hv with ⟨rfl, -⟩ | ⟨rfl, -⟩ <;> rfl
    rcases hpc with rfl | rfl
    · exact ⟨s₁, some (.int v), _, _, _, X0, rfl, rfl, rfl, (fun h => by cases h), ⟨v, rfl, hh0, hv⟩, fun fs hl => cz.trans (X0.ireturnOut hexec hret nv (Or.inr (Or.inl rfl)) (hb hbytes d25) hl)⟩
    · exact ⟨s₁, some (.int v), _, _, _, X0, rfl, rfl, rfl, (fun h => by cases h), ⟨v, rfl, hh0, hv⟩, fun fs hl => cz.trans (X0.ireturnOut hexec hret nv (Or.inr (Or.inl rfl)) (hb hbytes d33) hl)⟩
  · have c3 : Steps p.tables e below (s₁.setTop (entryFrame m #[.ref a, .ref b] 3)) (s₁.setTop (mkF m 35 #[.val (.ref a), .val (.ref b), .unset] [.int 0])) := c2.trans (by
      refine XS.icmpYes X0.here hexec rfl (pc0 := 4) rfl (hb hbytes d4) rfl (ii_ne_t (ne32 a31 b31 hs)) (by decide) rfl ?_
      refine iconstV X0.here hexec rfl 0 (hb hbytes d34) (by decide) ?_
      exact Steps.refl _)
    exact ⟨s₁, some (.int 0), _, _, _, X0, rfl, rfl, rfl, (fun h => by cases h), ⟨0, rfl, hh0, Or.inr ⟨rfl, fun q => hs q.1⟩⟩, fun fs hl => c3.trans (X0.ireturnOut hexec hret rfl (Or.inr (Or.inl rfl)) (hb hbytes d35) hl)⟩
end LEq
theorem Cod.ty {cd : Int32} {n : Nat} {f : Nat → Int32} {V : Cell} (h : Cod cd n f V) : Typed .byte V := fun i v hv => by
  have hi : i < V.slots.size := (Array.getElem?_eq_some_iff.mp hv).1
  rcases h with ⟨-, k1, k2⟩ | ⟨-, k1, k2, -⟩
  · rw [(k2 i (by omega)).1] at hv; cases hv; exact fits_lo8 _
  · rcases Nat.mod_two_eq_zero_or_one i with e | e
    · obtain ⟨j, rfl⟩ : ∃ j, i = 2 * j := ⟨i / 2, by omega⟩
      rw [(k2 j (by omega)).1] at hv; cases hv; exact fits_lo8 _
    · obtain ⟨j, rfl⟩ : ∃ j, i = 2 * j + 1 := ⟨i / 2, by omega⟩
      rw [(k2 j (by omega)).2] at hv; cases hv; exact fits_lo8 _
/-- the same text -/
def SameT (n : Nat) (f : Nat → Int32) (k : Nat) (g : Nat → Int32) : Prop := n = k ∧ ∀ j, j < n → f j = g j
theorem lo8_inj {x y : Int32} (h0 : ¬ x < 0) (h1 : ¬ 255 < x) (k0 : ¬ y < 0) (k1 : ¬ 255 < y) (h : lo8 x = lo8 y) : x = y := by
  rw [← lo8_mask h0 h1, ← lo8_mask k0 k1, h]
/-- arrays coded by one coder are equal just where the texts are -/
theorem Cod.eqv {cd : Int32} {n k : Nat} {f g : Nat → Int32} {V V' : Cell} (h : Cod cd n f V) (h' : Cod cd k g V') (hf : ∀ j, j < n → ¬ f j < 0 ∧ ¬ 65535 < f j) (hg : ∀ j, j < k → ¬ g j < 0 ∧ ¬ 65535 < g j) : EqC V V' ↔ SameT n f k g := by
  have yvv : ∀ {W : Cell} {i : Nat} {x : Int32}, W.slots[i]? = some (.int x) → yv W i = x := fun q => by unfold yv; rw [q]
  rcases h with ⟨rfl, k1, k2⟩ | ⟨rfl, k1, k2, -⟩
  · rcases h' with ⟨-, m1, m2⟩ | ⟨e, -⟩
    · constructor
      · rintro ⟨e1, e2⟩
        refine ⟨by omega, fun j hj => ?_⟩
        have q := e2 j (by omega)
        rw [yvv (k2 j hj).1, yvv (m2 j (by omega)).1] at q
        exact lo8_inj (hf j hj).1 (k2 j hj).2 (hg j (by omega)).1 (m2 j (by omega)).2 q
      · rintro ⟨rfl, e2⟩
        refine ⟨by omega, fun j hj => ?_⟩
        rw [yvv (k2 j (by omega)).1, yvv (m2 j (by omega)).1, e2 j (by omega)]
    · exact absurd e (by decide)
  · rcases h' with ⟨e, -⟩ | ⟨-, m1, m2, -⟩
    · exact absurd e (by decide)
    · constructor
      · rintro ⟨e1, e2⟩
        refine ⟨by omega, fun j hj => ?_⟩
        have q1 := e2 (2 * j) (by omega)
        have q2 := e2 (2 * j + 1) (by omega)
        rw [yvv (k2 j hj).1, yvv (m2 j (by omega)).1] at q1
        rw [yvv (k2 j hj).2, yvv (m2 j (by omega)).2] at q2
        rw [← pair_says (hf j hj).1 (hf j hj).2, ← pair_says (hg j (by omega)).1 (hg j (by omega)).2, q1, q2]
      · rintro ⟨rfl, e2⟩
        refine ⟨by omega, fun i hi => ?_⟩
        rcases Nat.mod_two_eq_zero_or_one i with e | e
        · obtain ⟨j, rfl⟩ : ∃ j, i = 2 * j := ⟨i / 2, by omega⟩
          rw [yvv (k2 j (by omega)).1, yvv (m2 j (by omega)).1, e2 j (by omega)]
        · obtain ⟨j, rfl⟩ : ∃ j, i = 2 * j + 1 := ⟨i / 2, by omega⟩
          rw [yvv (k2 j (by omega)).2, yvv (m2 j (by omega)).2, e2 j (by omega)]
/-- two codings differ: so do the texts -/
theorem Cod.dif {cd cd' : Int32} {n k : Nat} {f g : Nat → Int32} {V V' : Cell} (h : Cod cd n f V) (h' : Cod cd' k g V') (hne : ¬ cd = cd') : ¬ SameT n f k g := by
  rintro ⟨rfl, e⟩
  rcases h with ⟨rfl, -, k2⟩ | ⟨rfl, -, -, j, hj, hw⟩
  · rcases h' with ⟨rfl, -⟩ | ⟨-, -, -, j, hj, hw⟩
    · exact hne rfl
    · exact (k2 j hj).2 (by rw [e j hj]; exact hw)
  · rcases h' with ⟨-, -, m2⟩ | ⟨rfl, -⟩
    · exact (m2 j hj).2 (by rw [← e j hj]; exact hw)
    · exact hne rfl
/-- an object of exactly C is an instance of C -/
theorem cinst {p : Program} {l : Launch} {e : Env} {R : Room} {s : State} {m : MethodId} {args : Array Value} {below : List Frame} {meth : Method} {c : Code} {T : State} {locs : List Loc} {cells slots : Nat} (X : Stand p l e R s m args below meth c T locs cells slots) (hexec : p.tables.exec = Jvm.exec) {own C : String} {index : Nat} (hown : s.vm.findClass own = some m.cls) (hlink : (Cond.classLink own index C).before args s = true) {a : Addr} (hE : Exact C a T)
    {g : JFrame} (hg : g.method = m) {rest : List Value} (hstack : g.stack = .ref a :: rest) (hdg : decode c.code g.pc = .ok (.instanceof index, 3)) :
    ∃ T', Stand p l e R s m args below meth c T' locs cells slots ∧ T'.heap = T.heap ∧ ∀ target, Steps p.tables e below (T'.setTop { g with pc := g.pc + 3, stack := .int 1 :: rest }) target → Steps p.tables e below (T.setTop g) target := by
  obtain ⟨cB, h1, D, h2, h3, h4⟩ := hE
  have h1' : s.vm.findClass C = some cB := by rw [← X.warmed.alike.findClass]; exact h1
  obtain ⟨vm', X', st⟩ := X.instanceofYes hexec hown hlink h2 h4 h1' (by rw [h3]; exact Jvm.Free.SB.assignable_self _ _) hg hstack hdg
  exact ⟨_, X', rfl, st⟩
theorem cself {p : Program} {l : Launch} {e : Env} {R : Room} {s : State} {m : MethodId} {args : Array Value} {below : List Frame} {meth : Method} {c : Code} {T : State} {locs : List Loc} {cells slots : Nat} (X : Stand p l e R s m args below meth c T locs cells slots) (hexec : p.tables.exec = Jvm.exec) {own C : String} {index : Nat} (hown : s.vm.findClass own = some m.cls) (hlink : (Cond.classLink own index C).before args s = true) {a : Addr} (hE : Exact C a T)
    {g : JFrame} (hg : g.method = m) {rest : List Value} (hstack : g.stack = .ref a :: rest) (hdg : decode c.code g.pc = .ok (.checkcast index, 3)) :
    ∃ T', Stand p l e R s m args below meth c T' locs cells slots ∧ T'.heap = T.heap ∧ ∀ target, Steps p.tables e below (T'.setTop { g with pc := g.pc + 3, stack := .ref a :: rest }) target → Steps p.tables e below (T.setTop g) target := by
  obtain ⟨cB, h1, D, h2, h3, h4⟩ := hE
  have h1' : s.vm.findClass C = some cB := by rw [← X.warmed.alike.findClass]; exact h1
  obtain ⟨vm', X', st⟩ := X.checkcastYes hexec hown hlink h2 h4 h1' (by rw [h3]; exact Jvm.Free.SB.assignable_self _ _) hg hstack hdg
  exact ⟨_, X', rfl, fun t h => st t (by rw [← hstack] at h; exact h)⟩
namespace SEq
def yN : MethodName := ⟨"java/lang/String", "equals", "(Ljava/lang/Object;)Z"⟩
abbrev yB : ByteArray := jdk_42_method_66_code
theorem d0 : decode yB 0 = .ok (.aload_n 0, 1) := by decide +kernel
theorem d1 : decode yB 1 = .ok (.aload_n 1, 1) := by decide +kernel
theorem d2 : decode yB 2 = .ok (.if_acmp (.ne) 5, 3) := by decide +kernel
theorem d5 : decode yB 5 = .ok (.iconst 1, 1) := by decide +kernel
theorem d6 : decode yB 6 = .ok (.ireturn, 1) := by decide +kernel
theorem d7 : decode yB 7 = .ok (.aload_n 1, 1) := by decide +kernel
theorem d8 : decode yB 8 = .ok (.instanceof 10, 3) := by decide +kernel
theorem d11 : decode yB 11 = .ok (.ifCond (.eq) 43, 3) := by decide +kernel
theorem d14 : decode yB 14 = .ok (.aload_n 1, 1) := by decide +kernel
theorem d15 : decode yB 15 = .ok (.checkcast 10, 3) := by decide +kernel
theorem d18 : decode yB 18 = .ok (.astore_n 2, 1) := by decide +kernel
theorem d19 : decode yB 19 = .ok (.getstatic 38, 3) := by decide +kernel
theorem d22 : decode yB 22 = .ok (.ifCond (.eq) 14, 3) := by decide +kernel
theorem d25 : decode yB 25 = .ok (.aload_n 0, 1) := by decide +kernel
theorem d26 : decode yB 26 = .ok (.getfield 15, 3) := by decide +kernel
theorem d29 : decode yB 29 = .ok (.aload_n 2, 1) := by decide +kernel
theorem d30 : decode yB 30 = .ok (.getfield 15, 3) := by decide +kernel
theorem d33 : decode yB 33 = .ok (.if_icmp (.ne) 21, 3) := by decide +kernel
theorem d36 : decode yB 36 = .ok (.aload_n 0, 1) := by decide +kernel
theorem d37 : decode yB 37 = .ok (.getfield 9, 3) := by decide +kernel
theorem d40 : decode yB 40 = .ok (.aload_n 2, 1) := by decide +kernel
theorem d41 : decode yB 41 = .ok (.getfield 9, 3) := by decide +kernel
theorem d44 : decode yB 44 = .ok (.invokestatic 541, 3) := by decide +kernel
theorem d47 : decode yB 47 = .ok (.ifCond (.eq) 7, 3) := by decide +kernel
theorem d50 : decode yB 50 = .ok (.iconst 1, 1) := by decide +kernel
theorem d51 : decode yB 51 = .ok (.goto 4, 3) := by decide +kernel
theorem d54 : decode yB 54 = .ok (.iconst 0, 1) := by decide +kernel
theorem d55 : decode yB 55 = .ok (.ireturn, 1) := by decide +kernel
def site : List Cond := [.classLink "java/lang/String" 10 "java/lang/String", .fieldLink "java/lang/String" 38 "java/lang/String" "COMPACT_STRINGS" "Z", .fieldLink "java/lang/String" 15 "java/lang/String" "coder" "B", .fieldLink "java/lang/String" 9 "java/lang/String" "value" "[B", LEq.tab] ++ staticW "java/lang/String" 541 LEq.yN
def tab : Cond := tabOf yN yB 3 (some .boolean) site
def P (x t : Addr) (V : Cell) (cd : Int32) (n : Nat) (f : Nat → Int32) (y t' : Addr) (V' : Cell) (cd' : Int32) (k : Nat) (g : Nat → Int32) (z : Int32) (args : Array Value) (s : State) : Prop := args = #[.ref x, .ref y] ∧ Txt x t V cd n f s ∧ Txt y t' V' cd' k g s ∧ StaticIs s "java/lang/String" "COMPACT_STRINGS" "Z" (.int z) ∧ ¬ z = 0
/-- equals(Object) of two Strings: whether the texts are the same -/
theorem law (l : Launch) (x t : Addr) (V : Cell) (cd : Int32) (n : Nat) (f : Nat → Int32) (y t' : Addr) (V' : Cell) (cd' : Int32) (k : Nat) (g : Nat → Int32) (z : Int32) : Law l yN 2 1 1 14 yB 3 (some .boolean) site (P x t V cd n f y t' V' cd' k g z) (Says01 (SameT n f k g)) [] 0 0 := by
  refine Law.of_walk (plainFor_of_name (by decide +kernel)) (by decide +kernel) (by decide +kernel) (by decide) (fun _ _ h => by rw [h.1]; rfl) (fun _ U U' hal hh h => ⟨h.1, h.2.1.mv hal hh, h.2.2.1.mv hal hh, h.2.2.2.1.there hal hh, h.2.2.2.2⟩) (fun r U U' V V' h1 hal h2 h => Says01.mv r U U' V V' h1 hal h2 h) ?_
  intro p e s m args below meth c s₁ X0 hexec hbytes hml hret hlk hnm hown hh0 W hP
  obtain ⟨rfl, hx, hy, s1, hz⟩ := hP
  have c1 : Steps p.tables e below (s₁.setTop (entryFrame m #[.ref x, .ref y] 3)) (s₁.setTop (mkF m 2 #[.val (.ref x), .val (.ref y), .unset] [.ref y, .ref x])) := Steps.trans (entry rfl) (by
    show Steps p.tables e below (s₁.setTop (mkF m 0 #[.val (.ref x), .val (.ref y), .unset] [])) _
    refine XS.aloadN X0.here hexec rfl (hb hbytes d0) rfl rfl ?_
    refine XS.aloadN X0.here hexec rfl (hb hbytes d1) rfl rfl ?_
    exact Steps.refl _)
  by_cases hxy : x = y
  · have c2 : Steps p.tables e below (s₁.setTop (entryFrame m #[.ref x, .ref y] 3)) (s₁.setTop (mkF m 6 #[.val (.ref x), .val (.ref y), .unset] [.int 1])) := c1.trans (by
      refine acmpNo X0.here hexec rfl (hb hbytes d2) rfl rfl rfl (by simp [acmp, hxy]) ?_
      refine iconstV X0.here hexec rfl 1 (hb hbytes d5) (by decide) ?_
      exact Steps.refl _)
    subst hxy
    have ec : cd = cd' := by
      obtain ⟨D, fd, a1, a2, a3⟩ := hx.2.2.1
      obtain ⟨D', fd', b1, b2, b3⟩ := hy.2.2.1
      cases a1.symm.trans b1
      obtain ⟨q1, q2, q3, q4⟩ := a2.1
      obtain ⟨r1, r2, r3, r4⟩ := b2.1
      cases q4.symm.trans r4
      cases a3.symm.trans b3; rfl
    have et : t = t' := by
      obtain ⟨D, fd, a1, a2, a3⟩ := hx.2.1
      obtain ⟨D', fd', b1, b2, b3⟩ := hy.2.1
      cases a1.symm.trans b1
      obtain ⟨q1, q2, q3, q4⟩ := a2.1
      obtain ⟨r1, r2, r3, r4⟩ := b2.1
      cases q4.symm.trans r4
      cases a3.symm.trans b3; rfl
    subst ec et
    have ev : V = V' := by cases hx.2.2.2.1.1.symm.trans hy.2.2.2.1.1; rfl
    subst ev
    have hs : SameT n f k g := (Cod.eqv hx.2.2.2.2.1 hy.2.2.2.2.1 hx.2.2.2.2.2 hy.2.2.2.2.2).mp ⟨rfl, fun _ _ => rfl⟩
    exact ⟨s₁, some (.int 1), _, _, _, X0, rfl, rfl, rfl, (fun h => by cases h), ⟨1, rfl, hh0, Or.inl ⟨rfl, hs⟩⟩, fun fs hl => c2.trans (X0.ireturnOut hexec hret rfl (Or.inr (Or.inl rfl)) (hb hbytes d6) hl)⟩
  · have c2 : Steps p.tables e below (s₁.setTop (entryFrame m #[.ref x, .ref y] 3)) (s₁.setTop (mkF m 8 #[.val (.ref x), .val (.ref y), .unset] [.ref y])) := c1.trans (by
      refine acmpYes X0.here hexec rfl (pc0 := 2) rfl (hb hbytes d2) rfl rfl rfl (by simp [acmp, hxy]) (by decide) rfl ?_
      refine XS.aloadN X0.here hexec rfl (hb hbytes d7) rfl rfl ?_
      exact Steps.refl _)
    obtain ⟨T3, X3, q3, st3⟩ := cinst X0 hexec hown (wk W (.classLink "java/lang/String" 10 "java/lang/String")) (hy.mv X0.warmed.alike hh0).1 (g := (mkF m 8 #[.val (.ref x), .val (.ref y), .unset] [.ref y])) rfl (rest := []) rfl (hb hbytes d8)
    have hh3 := q3.trans hh0
    have c4 : Steps p.tables e below (s₁.setTop (entryFrame m #[.ref x, .ref y] 3)) (T3.setTop (mkF m 15 #[.val (.ref x), .val (.ref y), .unset] [.ref y])) := (c2.trans (st3 _ (Steps.refl _))).trans (by
      refine XS.ifNo X3.here hexec rfl (hb hbytes d11) rfl (i0_eq_f (by decide)) ?_
      refine XS.aloadN X3.here hexec rfl (hb hbytes d14) rfl rfl ?_
      exact Steps.refl _)
    obtain ⟨T5, X5, q5, st5⟩ := cself X3 hexec hown (wk W (.classLink "java/lang/String" 10 "java/lang/String")) (hy.mv X3.warmed.alike hh3).1 (g := (mkF m 15 #[.val (.ref x), .val (.ref y), .unset] [.ref y])) rfl (rest := []) rfl (hb hbytes d15)
    have hh5 := q5.trans hh3
    have c6 : Steps p.tables e below (s₁.setTop (entryFrame m #[.ref x, .ref y] 3)) (T5.setTop (mkF m 19 #[.val (.ref x), .val (.ref y), .val (.ref y)] [])) := (c4.trans (st5 _ (Steps.refl _))).trans (by
      refine XS.astoreN X5.here hexec rfl (hb hbytes d18) rfl rfl rfl ?_
      exact Steps.refl _)
    obtain ⟨T7, X7, q7, st7⟩ := X5.sget hexec hown (wk W (.fieldLink "java/lang/String" 38 "java/lang/String" "COMPACT_STRINGS" "Z")) s1 (fun _ _ h => by rw [hh5]; exact h) (g := (mkF m 19 #[.val (.ref x), .val (.ref y), .val (.ref y)] [])) rfl (hb hbytes d19)
    have hh7 := q7.trans hh5
    have c8 : Steps p.tables e below (s₁.setTop (entryFrame m #[.ref x, .ref y] 3)) (T7.setTop (mkF m 26 #[.val (.ref x), .val (.ref y), .val (.ref y)] [.ref x])) := (c6.trans (st7 _ (Steps.refl _))).trans (by
      refine XS.ifNo X7.here hexec rfl (hb hbytes d22) rfl (i0_eq_f hz) ?_
      refine XS.aloadN X7.here hexec rfl (hb hbytes d25) rfl rfl ?_
      exact Steps.refl _)
    obtain ⟨T9, X9, q9, st9⟩ := X7.hget hexec hown (wk W (.fieldLink "java/lang/String" 15 "java/lang/String" "coder" "B")) (hx.mv X7.warmed.alike hh7).2.2.1 (g := (mkF m 26 #[.val (.ref x), .val (.ref y), .val (.ref y)] [.ref x])) rfl (rest := []) rfl (hb hbytes d26)
    have hh9 := q9.trans hh7
    have c10 : Steps p.tables e below (s₁.setTop (entryFrame m #[.ref x, .ref y] 3)) (T9.setTop (mkF m 30 #[.val (.ref x), .val (.ref y), .val (.ref y)] [.ref y, .int cd])) := (c8.trans (st9 _ (Steps.refl _))).trans (by
      refine XS.aloadN X9.here hexec rfl (hb hbytes d29) rfl rfl ?_
      exact Steps.refl _)
    obtain ⟨T11, X11, q11, st11⟩ := X9.hget hexec hown (wk W (.fieldLink "java/lang/String" 15 "java/lang/String" "coder" "B")) (hy.mv X9.warmed.alike hh9).2.2.1 (g := (mkF m 30 #[.val (.ref x), .val (.ref y), .val (.ref y)] [.ref y, .int cd])) rfl (rest := [.int cd]) rfl (hb hbytes d30)
    have hh11 := q11.trans hh9
    have c12 : Steps p.tables e below (s₁.setTop (entryFrame m #[.ref x, .ref y] 3)) (T11.setTop (mkF m 33 #[.val (.ref x), .val (.ref y), .val (.ref y)] [.int cd', .int cd])) := c10.trans (st11 _ (Steps.refl _))
    by_cases hcd : cd = cd'
    · subst hcd
      have c13 : Steps p.tables e below (s₁.setTop (entryFrame m #[.ref x, .ref y] 3)) (T11.setTop (mkF m 37 #[.val (.ref x), .val (.ref y), .val (.ref y)] [.ref x])) := c12.trans (by
        refine XS.icmpNo X11.here hexec rfl (hb hbytes d33) rfl (ii_ne_f rfl) ?_
        refine XS.aloadN X11.here hexec rfl (hb hbytes d36) rfl rfl ?_
        exact Steps.refl _)
      obtain ⟨T14, X14, q14, st14⟩ := X11.hget hexec hown (wk W (.fieldLink "java/lang/String" 9 "java/lang/String" "value" "[B")) (hx.mv X11.warmed.alike hh11).2.1 (g := (mkF m 37 #[.val (.ref x), .val (.ref y), .val (.ref y)] [.ref x])) rfl (rest := []) rfl (hb hbytes d37)
      have hh14 := q14.trans hh11
      have c15 : Steps p.tables e below (s₁.setTop (entryFrame m #[.ref x, .ref y] 3)) (T14.setTop (mkF m 41 #[.val (.ref x), .val (.ref y), .val (.ref y)] [.ref y, .ref t])) := (c13.trans (st14 _ (Steps.refl _))).trans (by
        refine XS.aloadN X14.here hexec rfl (hb hbytes d40) rfl rfl ?_
        exact Steps.refl _)
      obtain ⟨T16, X16, q16, st16⟩ := X14.hget hexec hown (wk W (.fieldLink "java/lang/String" 9 "java/lang/String" "value" "[B")) (hy.mv X14.warmed.alike hh14).2.1 (g := (mkF m 41 #[.val (.ref x), .val (.ref y), .val (.ref y)] [.ref y, .ref t])) rfl (rest := [.ref t]) rfl (hb hbytes d41)
      have hh16 := q16.trans hh14
      have c17 : Steps p.tables e below (s₁.setTop (entryFrame m #[.ref x, .ref y] 3)) (T16.setTop (mkF m 44 #[.val (.ref x), .val (.ref y), .val (.ref y)] [.ref t', .ref t])) := c15.trans (st16 _ (Steps.refl _))
      obtain ⟨v18, T18, X18, E18, g18⟩ := X16.callS hexec (LEq.law l t V t' V') hown (wks W (staticW "java/lang/String" 541 LEq.yN)) (wk W LEq.tab) (W := 0) (Nat.le_of_ble_eq_true rfl) (Nat.le_of_ble_eq_true rfl) (Nat.le_refl _) (Nat.le_refl _) (g := (mkF m 44 #[.val (.ref x), .val (.ref y), .val (.ref y)] [.ref t', .ref t])) rfl (by rw [hml]; rfl) c17 (argsL := [.ref t, .ref t']) (rest := []) rfl rfl (by show 2 * 0 + 0 ≤ _; decide) (hb hbytes d44) (⟨rfl, hx.2.2.2.1.mv X16.warmed.alike hh16, hx.2.2.2.2.1.ty, hy.2.2.2.1.mv X16.warmed.alike hh16, hy.2.2.2.2.1.ty⟩)
      obtain ⟨v, rfl, q18, hv⟩ := E18
      have iff := Cod.eqv hx.2.2.2.2.1 hy.2.2.2.2.1 hx.2.2.2.2.2 hy.2.2.2.2.2
      rcases hv with ⟨rfl, he⟩ | ⟨rfl, he⟩
      · have c19 : Steps p.tables e below (s₁.setTop (entryFrame m #[.ref x, .ref y] 3)) (T18.setTop (mkF m 55 #[.val (.ref x), .val (.ref y), .val (.ref y)] [.int 1])) := Steps.trans g18 (by
          refine XS.ifNo X18.here hexec rfl (hb hbytes d47) rfl (i0_eq_f (by decide)) ?_
          refine iconstV X18.here hexec rfl 1 (hb hbytes d50) (by decide) ?_
          refine XS.goto X18.here hexec rfl (pc0 := 51) rfl (hb hbytes d51) (by decide) rfl ?_
          exact Steps.refl _)
        exact ⟨T18, some (.int 1), _, _, _, X18, rfl, rfl, rfl, (fun h => by cases h), ⟨1, rfl, q18.trans hh16, Or.inl ⟨rfl, iff.mp he⟩⟩, fun fs hl => c19.trans (X18.ireturnOut hexec hret rfl (Or.inr (Or.inl rfl)) (hb hbytes d55) hl)⟩
      · have c19 : Steps p.tables e below (s₁.setTop (entryFrame m #[.ref x, .ref y] 3)) (T18.setTop (mkF m 55 #[.val (.ref x), .val (.ref y), .val (.ref y)] [.int 0])) := Steps.trans g18 (by
          refine XS.ifYes X18.here hexec rfl (pc0 := 47) rfl (hb hbytes d47) rfl (i0_eq_t rfl) (by decide) rfl ?_
          refine iconstV X18.here hexec rfl 0 (hb hbytes d54) (by decide) ?_
          exact Steps.refl _)
        exact ⟨T18, some (.int 0), _, _, _, X18, rfl, rfl, rfl, (fun h => by cases h), ⟨0, rfl, q18.trans hh16, Or.inr ⟨rfl, fun q => he (iff.mpr q)⟩⟩, fun fs hl => c19.trans (X18.ireturnOut hexec hret rfl (Or.inr (Or.inl rfl)) (hb hbytes d55) hl)⟩
    · have c13 : Steps p.tables e below (s₁.setTop (entryFrame m #[.ref x, .ref y] 3)) (T11.setTop (mkF m 55 #[.val (.ref x), .val (.ref y), .val (.ref y)] [.int 0])) := c12.trans (by
        refine XS.icmpYes X11.here hexec rfl (pc0 := 33) rfl (hb hbytes d33) rfl (ii_ne_t hcd) (by decide) rfl ?_
        refine iconstV X11.here hexec rfl 0 (hb hbytes d54) (by decide) ?_
        exact Steps.refl _)
      exact ⟨T11, some (.int 0), _, _, _, X11, rfl, rfl, rfl, (fun h => by cases h), ⟨0, rfl, hh11, Or.inr ⟨rfl, Cod.dif hx.2.2.2.2.1 hy.2.2.2.2.1 hcd⟩⟩, fun fs hl => c13.trans (X11.ireturnOut hexec hret rfl (Or.inr (Or.inl rfl)) (hb hbytes d55) hl)⟩
theorem pays {l : Launch} {R : Room} {p : Program} {e : Env} {below : List Frame} {s : State} {sargs : Array Value} {len W : Nat} (x t : Addr) (V : Cell) (cd : Int32) (n : Nat) (f : Nat → Int32) (y t' : Addr) (V' : Cell) (cd' : Int32) (k : Nat) (g : Nat → Int32) (z : Int32) (htab : tab.before sargs s = true) (hfr : 2 ≤ R.frames) (hlo : W + 28 ≤ R.locals) :
    Back l R p e below s sargs yN len W (fun A₁ a₁ => A₁.cells + 0 ≤ R.cells ∧ A₁.slots + 0 ≤ R.slots ∧ P x t V cd n f y t' V' cd' k g z a₁ A₁.U) (fun A₁ _ v₁ B₁ => Says01 (SameT n f k g) v₁ A₁.U B₁.U ∧ B₁.locs = A₁.locs ++ [] ∧ B₁.cells = A₁.cells + 0 ∧ B₁.slots = A₁.slots + 0) :=
  (law l x t V cd n f y t' V' cd' k g z).pays htab hfr (by omega)
end SEq
end StrChars
namespace StrChars.Road
open Jvm Sem ClassFile Op Lib Jvm.Stand Jvm.Free Jvm.Free.XT
open Jvm.Lib.Cold (StaticIs)
/-- the words of String.equals(Object) -/
abbrev wordsEq : List Jvm.Cond := [.code SEq.yN SEq.yB 3 (some .boolean), .initialized ST, .classLink ST 10 ST, .fieldLink ST 38 ST "COMPACT_STRINGS" "Z", .fieldLink ST 15 ST "coder" "B", .fieldLink ST 9 ST "value" "[B", .methodLink ST 541 LEq.yN, .static LEq.yN, .code LEq.yN LEq.yB 3 (some .boolean), .initialized "java/lang/StringLatin1"]
theorem tabEq_of {a : Array Value} {s : State} (h : ∀ w ∈ wordsEq, w.before a s = true) : SEq.tab.before a s = true := by
  have hl : LEq.tab.before a s = true := unparts (wk h (.code LEq.yN LEq.yB 3 (some .boolean))) (wks h (.initialized LEq.yN.cls :: LEq.site))
  have q := consq hl h
  exact unparts (wk q (.code SEq.yN SEq.yB 3 (some .boolean))) (wks q (.initialized SEq.yN.cls :: SEq.site))
theorem movedEq {Z s : State} {a0 args : Array Value} (hZ : Z.Warmed39 s.vm) (hw : ∀ d ∈ wordsEq, d.before a0 Z = true) : ∀ d ∈ wordsEq, d.before args s = true := fun d hd => by
  have t : ∀ d ∈ wordsEq, (d.onTables && d.keepsFace) = true := by decide +kernel
  exact RoadKit.mv hZ (hw d hd) (t d hd)
/-- the road's facts of a String, as the laws ask it -/
theorem txt_of {Z U : State} {a0 : Array Value} {kI : Nat} (wi : (Jvm.Cond.instantiable ST kI).before a0 Z = true) (al : Z.vm.Alike U.vm) {x t : Addr} {kb : ClassId} {cs : List Int32} {cd N2 : Int32} {vs : List Value} (E : RoadKit.Exa Z U.heap x ST) (V : RoadKit.Fld Z U.heap x ST "value" "[B" (.ref t)) (C : RoadKit.Fld Z U.heap x ST "coder" "B" (.int cd)) (K : RoadKit.Arv Z U.heap t kb .byte N2 vs (.int 0)) (hc : CodA cs cd N2 vs) (hb : ∀ c ∈ cs, ¬ c < 0 ∧ ¬ (65535 : Int32) < c) (l2 : cs.length ≤ 4000) :
    ∃ A, Txt x t A cd cs.length (fun j => cs.getD j 0) U := by
  obtain ⟨A, K1, K2, K3, K4, K5, K6⟩ := K
  have hcod := hc.cod (by omega) K3 K5
  obtain ⟨D, fV, fC, hB, F1, F2, g1, g2, -, -⟩ := strObj wi al E V C
  exact ⟨A, ⟨_, hB.2.2.1, D, hB.1, rfl, by cases q : D.vm <;> first | rfl | exact absurd q (hB.2.1.2 _)⟩, Has.of hB F1 g1, Has.of hB F2 g2, ⟨K1.1, State.isArrayOf_alike al K1.2.1, K1.2.2, by rcases hcod with ⟨-, q, -⟩ | ⟨-, q, -⟩ <;> omega⟩, hcod, fun j hj => by
    have e : cs.getD j 0 = cs[j] := by simp [List.getD_eq_getElem?_getD, hj]
    show ¬ cs.getD j 0 < 0 ∧ ¬ 65535 < cs.getD j 0
    rw [e]; exact hb _ (List.getElem_mem _)⟩
theorem same_list (cs ds : List Int32) : SameT cs.length (fun j => cs.getD j 0) ds.length (fun j => ds.getD j 0) ↔ cs = ds := by
  constructor
  · rintro ⟨e, q⟩
    refine List.ext_getElem e fun j h1 h2 => ?_
    have := q j h1
    simpa [List.getD_eq_getElem?_getD, h1, h2] using this
  · rintro rfl
    exact ⟨rfl, fun _ _ => rfl⟩
/-- **equals(Object) OF TWO SUCH STRINGS**: 1 just where the chars are the same -/
theorem eqW {p : Program} {l : Launch} {e : Env} {R : Room} {s : State} {args : Array Value} {below : List Frame} {len W : Nat} {Z : State} {a0 : Array Value} {h : Heap} (hZ : Z.Warmed39 s.vm) (hw : ∀ d ∈ wordsEq, d.before a0 Z = true) {kI : Nat} (wi : (Jvm.Cond.instantiable ST kI).before a0 Z = true)
    {x t : Addr} {kb : ClassId} {cs : List Int32} {cd N2 : Int32} {vs : List Value} (E : RoadKit.Exa Z h x ST) (V : RoadKit.Fld Z h x ST "value" "[B" (.ref t)) (C : RoadKit.Fld Z h x ST "coder" "B" (.int cd)) (K : RoadKit.Arv Z h t kb .byte N2 vs (.int 0)) (hc : CodA cs cd N2 vs) (hb : ∀ c ∈ cs, ¬ c < 0 ∧ ¬ (65535 : Int32) < c) (l2 : cs.length ≤ 4000)
    {y t' : Addr} {kb' : ClassId} {ds : List Int32} {cd' N2' : Int32} {vs' : List Value} (E' : RoadKit.Exa Z h y ST) (V' : RoadKit.Fld Z h y ST "value" "[B" (.ref t')) (C' : RoadKit.Fld Z h y ST "coder" "B" (.int cd')) (K' : RoadKit.Arv Z h t' kb' .byte N2' vs' (.int 0)) (hc' : CodA ds cd' N2' vs') (hb' : ∀ c ∈ ds, ¬ c < 0 ∧ ¬ (65535 : Int32) < c) (l2' : ds.length ≤ 4000)
    {z : Int32} (S : RoadKit.Sta Z h ST "COMPACT_STRINGS" "Z" (.int z)) (hz : ¬ z = 0) (hfr : 2 ≤ R.frames) (hlo : W + 28 ≤ R.locals) :
    Back l R p e below s args (⟨"java/lang/String", "equals", "(Ljava/lang/Object;)Z"⟩ : MethodName) len W (fun P a => a = #[.ref x, .ref y] ∧ P.U.heap = h ∧ P.cells + 0 ≤ R.cells ∧ P.slots + 0 ≤ R.slots)
      (fun P _ v B => ∃ L, (((v = some (.int 1) ∧ cs = ds) ∨ (v = some (.int 0) ∧ ¬ cs = ds)) ∧ L = [] ∧ B.U.heap = h) ∧ B.locs = P.locs ++ L ∧ B.cells = P.cells + 0 ∧ B.slots = P.slots + 0) := by
  intro m meth c P g ig mk a X hg hsize hdg hW hn hp'
  obtain ⟨rfl, rfl, r1, r2⟩ := hp'
  have al : Z.vm.Alike P.U.vm := hZ.alike.trans X.warmed.alike
  obtain ⟨A, hx⟩ := txt_of wi al E V C K hc hb l2
  obtain ⟨A', hy⟩ := txt_of wi al E' V' C' K' hc' hb' l2'
  obtain ⟨v, B, X', ⟨⟨w, hv, hh, hq⟩, hl, hk, hs⟩, st⟩ := SEq.pays x t A cd cs.length (fun j => cs.getD j 0) y t' A' cd' ds.length (fun j => ds.getD j 0) z (tabEq_of (movedEq hZ hw)) hfr hlo m meth c P g ig mk _ X hg hsize hdg hW hn ⟨r1, r2, rfl, hx, hy, sta_is al S, hz⟩
  refine ⟨v, B, X', ⟨[], ⟨?_, rfl, hh⟩, hl, hk, hs⟩, st⟩
  rcases hq with ⟨rfl, q⟩ | ⟨rfl, q⟩
  · exact Or.inl ⟨hv, (same_list cs ds).mp q⟩
  · exact Or.inr ⟨hv, fun e => q ((same_list cs ds).mpr e)⟩
end StrChars.Road
namespace StrChars.Road
open Jvm Sem ClassFile Op Lib Jvm.Stand Jvm.Free Jvm.Free.XT
open Jvm.Lib.Cold (StaticIs)
/-- what backV says of its String, as the contracts of this text ask it: cs's low bytes, coder 0 -/
theorem codOf {cs : List Int32} {n : Nat} (hn : cs.length = n) (hb : ∀ c ∈ cs, ¬ 255 < c) : CodA cs 0 (Int32.ofNat n) ((cs.map lo8).map Value.int) := Or.inl ⟨rfl, by rw [hn], by simp [List.map_map, Function.comp_def], hb⟩
end StrChars.Road
end Jvm.Pilot.@@N@@
namespace Jvm.Pilot.@@N@@
open Jvm Jvm.ClassFile Sem Op Lib Jvm.Free Jvm.Stand Jvm.LawKit Jvm.RoadKit Bundle Jvm.Pilot.@@N@@.Jvm.D
theorem own_ch (x : Int32) : ¬ nar .char ((x &&& (255 : Int32)).toUInt32.toUInt16.toUInt32.toInt32) < 0 ∧ ¬ (255 : Int32) < nar .char ((x &&& (255 : Int32)).toUInt32.toUInt16.toUInt32.toInt32) := by
  have t : ∀ k : Fin 256, ¬ nar .char ((Int32.ofNat k.val).toUInt32.toUInt16.toUInt32.toInt32) < 0 ∧ ¬ (255 : Int32) < nar .char ((Int32.ofNat k.val).toUInt32.toUInt16.toUInt32.toInt32) := by decide +kernel
  have h : (x &&& 255).toBitVec.toNat < 256 := by
    simp only [Int32.toBitVec_and, BitVec.toNat_and]
    exact Nat.lt_succ_of_le Nat.and_le_right
  have e : (x &&& 255) = Int32.ofNat (x &&& 255).toBitVec.toNat := by
    apply Int32.toBitVec_inj.mp
    show _ = BitVec.ofNat 32 _
    rw [BitVec.ofNat_toNat]; simp
  rw [e]
  exact t ⟨_, h⟩
theorem own_eqv {l : Launch} {R : Room} {p : Program} {e : Env} {below : List Frame} {s : State} {args : Array Value} {y : MethodName} {len W n0 : Nat} {Pre : Pt → Array Value → Prop} {cs ds : List Int32} {h : Heap}
    (hB : Back l R p e below s args y len W Pre (fun P _ v B => ∃ L, (((v = some (.int 1) ∧ cs = ds) ∨ (v = some (.int 0) ∧ ¬ cs = ds)) ∧ L = [] ∧ B.U.heap = h) ∧ B.locs = P.locs ++ L ∧ B.cells = P.cells + 0 ∧ B.slots = P.slots + 0)) :
    Back l R p e below s args y len W Pre (fun P _ v B => ∃ L, (v = some (.int (bit (cs = ds))) ∧ Fr n0 L ∧ B.U.heap = h) ∧ B.locs = P.locs ++ L ∧ B.cells = P.cells + 0 ∧ B.slots = P.slots + 0) :=
  Back.mono hB (fun _ _ q => q) (fun P a v B _ hq => by
    obtain ⟨L, ⟨hv, rfl, hh⟩, r⟩ := hq
    refine ⟨[], ⟨?_, Fr.nil _, hh⟩, r⟩
    rcases hv with ⟨rfl, q⟩ | ⟨rfl, q⟩
    · rw [bit_t q]
    · rw [bit_f q])
theorem own_bit1 {P : Prop} [Decidable P] (h : ¬ bit P = 0) : P := by
  by_cases q : P
  · exact q
  · exact absurd (bit_f q) h
theorem own_bit0 {P : Prop} [Decidable P] (h : bit P = 0) : ¬ P := fun q => by rw [bit_t q] at h; exact absurd h (by decide)
theorem own_up {c : Int32} (h : ¬ c < 0 ∧ ¬ (255 : Int32) < c) : ¬ c < 0 ∧ ¬ (65535 : Int32) < c := ⟨h.1, fun q => h.2 (Int32.lt_trans (by decide) q)⟩
theorem own_arv {Z : State} {args : Array Value} {t : Term} {a : Addr} {ty : FieldType} {z : Int32} {vs : List Value} {dv : Value} (hf : Fit Z) (ev : t.eval args Z none [] Z = some (.ref a)) (h1 : (Jvm.Cond.arrayOf t ty).value args Z none Z [] = some true)
    (h2 : (Jvm.Cond.eq (Term.length t) (Term.int z)).value args Z none Z [] = some true) (hz : ¬ z < 0) (hl : z.toNatClampNeg = vs.length) (H : ∀ c, Z.heap[a]? = some c → HasL c 0 vs) : ∃ k, Arv Z Z.heap a k ty z vs dv := by
  obtain ⟨c, A⟩ := Arr.start ev h1
  obtain ⟨x, y, g1, g2, -, g4⟩ := cmp_v (Or.inl h2)
  obtain rfl : Value.int z = y := Option.some.inj g2
  obtain ⟨w, rfl⟩ := g4
  have q : w = z := by simpa [Cond.value, g1, g2] using h2
  subst q
  obtain ⟨a', cell, e1, e2, e3⟩ := Term.length_spec g1
  cases ev.symm.trans e1
  cases A.1.symm.trans (State.arrayAt?_spec e2).1
  have hs : c.slots.size < 2 ^ 31 := by
    by_cases q : c.slots.size < 2 ^ 31
    · exact q
    · simp [Term.eval, ev, e2, q] at g1
  exact ⟨_, Arv.start hf A hs (Value.int.inj e3).symm hz hl (H c A.1)⟩
theorem own_elI {Z : State} {args : Array Value} {t : Term} {a : Addr} {j k : Int32} {c : Cell} (ev : t.eval args Z none [] Z = some (.ref a)) (hc : Z.heap[a]? = some c) (h : (Jvm.Cond.eq (Term.elem t (Term.int j)) (Term.int k)).value args Z none Z [] = some true) : c.slots[j.toNatClampNeg]? = some (.int k) := by
  obtain ⟨x, y, g1, g2, -, g4⟩ := cmp_v (Or.inl h)
  obtain rfl : Value.int k = y := Option.some.inj g2
  obtain ⟨w, rfl⟩ := g4
  have q : w = k := by simpa [Cond.value, g1, g2] using h
  subst q
  exact (elem_in g1 ev (Term.int_eval j) hc).2
theorem own_elR {Z : State} {args : Array Value} {t u : Term} {a b : Addr} {j : Int32} {c : Cell} (ev : t.eval args Z none [] Z = some (.ref a)) (eu : u.eval args Z none [] Z = some (.ref b)) (hc : Z.heap[a]? = some c) (h : (Jvm.Cond.eq (Term.elem t (Term.int j)) u).value args Z none Z [] = some true) : c.slots[j.toNatClampNeg]? = some (.ref b) := by
  obtain ⟨x, y, g1, g2, g3, g4⟩ := cmp_v (Or.inl h)
  cases eu.symm.trans g2
  have q : x = .ref b := by
    cases x <;> simp [Cond.value, g1, eu, Kin, Value.isRef] at h g3 g4 ⊢ <;> first | exact h | exact absurd g3 (by simp)
  subst q
  exact (elem_in g1 ev (Term.int_eval j) hc).2
theorem own_small (x : Int32) (h : ¬ x < 0 ∧ ¬ (255 : Int32) < x) : ∃ k : Fin 256, x = Int32.ofNat k.val := by
  have h1 : 0 ≤ x.toInt := by have := h.1; rw [Int32.lt_iff_toInt_lt] at this; simpa using this
  have h2 : x.toInt ≤ 255 := by have := h.2; rw [Int32.lt_iff_toInt_lt] at this; simpa using this
  refine ⟨⟨x.toInt.toNat, by omega⟩, ?_⟩
  apply Int32.toInt_inj.mp
  show x.toInt = _
  rw [Int32.toInt_ofNat_small (show x.toInt.toNat < 2 ^ 31 by omega)]
  show x.toInt = ((x.toInt.toNat : Nat) : Int)
  omega
theorem own_ncq {x : Int32} (h : ¬ x < 0 ∧ ¬ (255 : Int32) < x) : nar .char x = x := by
  obtain ⟨k, rfl⟩ := own_small x h
  exact (by decide +kernel : ∀ k : Fin 256, nar .char (Int32.ofNat k.val) = Int32.ofNat k.val) k
theorem own_nc {x : Int32} (h : ¬ x < 0 ∧ ¬ (255 : Int32) < x) : ¬ nar .char x < 0 ∧ ¬ (255 : Int32) < nar .char x := by rw [own_ncq h]; exact h
theorem own_nb {x : Int32} : nar .byte x.toInt8.toInt32 = StrChars.lo8 x := by
  show x.toInt8.toInt32.toInt8.toInt32 = x.toInt8.toInt32
  rw [Int8.toInt8_toInt32]
theorem own_chb (x : Int32) : ¬ (x &&& (255 : Int32)).toUInt32.toUInt16.toUInt32.toInt32 < 0 ∧ ¬ (255 : Int32) < (x &&& (255 : Int32)).toUInt32.toUInt16.toUInt32.toInt32 := by
  have t : ∀ k : Fin 256, ¬ (Int32.ofNat k.val).toUInt32.toUInt16.toUInt32.toInt32 < 0 ∧ ¬ (255 : Int32) < (Int32.ofNat k.val).toUInt32.toUInt16.toUInt32.toInt32 := by decide +kernel
  have h : (x &&& 255).toBitVec.toNat < 256 := by
    simp only [Int32.toBitVec_and, BitVec.toNat_and]
    exact Nat.lt_succ_of_le Nat.and_le_right
  have e : (x &&& 255) = Int32.ofNat (x &&& 255).toBitVec.toNat := by
    apply Int32.toBitVec_inj.mp
    show _ = BitVec.ofNat 32 _
    rw [BitVec.ofNat_toNat]; simp
  rw [e]
  exact t ⟨_, h⟩
theorem own_st0 {s : Int32} {P : Prop} (h : (s = 0 ∧ ¬ P) ∨ (s = 1 ∧ P)) (q : s = 0) : ¬ P := by
  rcases h with h | h
  · exact h.2
  · rw [h.1] at q; exact absurd q (by decide)
theorem own_st1 {s : Int32} {P : Prop} (h : (s = 0 ∧ ¬ P) ∨ (s = 1 ∧ P)) (q : ¬ s = 0) : P := by
  rcases h with h | h
  · exact absurd h.1 q
  · exact h.2
theorem own_words : ∀ d ∈ StrChars.Road.words, d ∈ tables_1 := by decide +kernel
theorem own_wordsE : ∀ d ∈ StrChars.Road.wordsEq, d ∈ tables_1 := by decide +kernel
theorem own_EW {Z : State} {a0 : Array Value} (hw : ∀ d ∈ tables_1, d.before a0 Z = true) : EW Z a0 consts_1 := EW.cons (hw _ (List.mem_of_getElem? (i := 13) rfl)) (by decide) (EW.cons (hw _ (List.mem_of_getElem? (i := 105) rfl)) (by decide) EW.nil)
def own_cs (n c d : Int32) : List Int32 := if n = 0 then [] else if n = 1 then [c] else [c, d]
theorem own_csb {n c d : Int32} (hc : ¬ c < 0 ∧ ¬ (255 : Int32) < c) (hd : ¬ d < 0 ∧ ¬ (255 : Int32) < d) : ∀ z ∈ own_cs n c d, ¬ z < 0 ∧ ¬ (65535 : Int32) < z := by
  intro z hz
  unfold own_cs at hz
  split at hz
  · nomatch hz
  · split at hz
    · simp only [List.mem_cons, List.not_mem_nil, or_false] at hz; subst hz; exact own_up hc
    · simp only [List.mem_cons, List.not_mem_nil, or_false] at hz; rcases hz with rfl | rfl <;> first | exact own_up hc | exact own_up hd
theorem own_csl (n c d : Int32) : (own_cs n c d).length ≤ 4000 := by
  unfold own_cs
  split
  · decide
  · split <;> simp
theorem own_m3 (x : Int32) : (x &&& (3 : Int32)) - ((x &&& (3 : Int32)) / (3 : Int32)) * (3 : Int32) = 0 ∨ (x &&& (3 : Int32)) - ((x &&& (3 : Int32)) / (3 : Int32)) * (3 : Int32) = 1 ∨ (x &&& (3 : Int32)) - ((x &&& (3 : Int32)) / (3 : Int32)) * (3 : Int32) = 2 := by
  have t : ∀ k : Fin 4, (Int32.ofNat k.val) - ((Int32.ofNat k.val) / (3 : Int32)) * (3 : Int32) = 0 ∨ (Int32.ofNat k.val) - ((Int32.ofNat k.val) / (3 : Int32)) * (3 : Int32) = 1 ∨ (Int32.ofNat k.val) - ((Int32.ofNat k.val) / (3 : Int32)) * (3 : Int32) = 2 := by decide +kernel
  have h : (x &&& 3).toBitVec.toNat < 4 := by
    simp only [Int32.toBitVec_and, BitVec.toNat_and]
    exact Nat.lt_succ_of_le Nat.and_le_right
  have e : (x &&& 3) = Int32.ofNat (x &&& 3).toBitVec.toNat := by
    apply Int32.toBitVec_inj.mp
    show _ = BitVec.ofNat 32 _
    rw [BitVec.ofNat_toNat]; simp
  rw [e]
  exact t ⟨_, h⟩
def own_fill (z : Int32) (w i g : Addr) : Addr := if z - (z / 3) * 3 = 0 then w else if z - (z / 3) * 3 = 1 then i else g
/-- the plain law: the code's comparison of the parts is the comparison of the texts -/
theorem own_same {la lb a b c d sty : Int32} (ha : la = 0 ∨ la = 1 ∨ la = 2) (hb : lb = 0 ∨ lb = 1 ∨ lb = 2) (h : sty = (if la = lb then (if la < (1 : Int32) then (if la < (2 : Int32) then (1 : Int32) else (if b = d then (1 : Int32) else (0 : Int32))) else (if a = c then (if la < (2 : Int32) then (1 : Int32) else (if b = d then (1 : Int32) else (0 : Int32))) else (0 : Int32))) else (0 : Int32))) : (sty = 0 ∧ ¬ own_cs lb c d = own_cs la a b) ∨ (sty = 1 ∧ own_cs lb c d = own_cs la a b) := by
  subst h
  rcases ha with rfl | rfl | rfl <;> rcases hb with rfl | rfl | rfl <;> simp [own_cs] <;> (try (by_cases h1 : a = c <;> by_cases h2 : b = d <;> simp [h1, h2, eq_comm, Ne.symm] <;> (try (intro q; first | exact absurd q.symm h1 | exact absurd q.symm h2)) <;> (try (intro q r; first | exact absurd r.symm h2 | exact absurd q.symm h1))))
theorem pn_java_lang_StringLatin1 : plainName "java/lang/StringLatin1" = true := by first | (simp [plainName, overriddenIn]; done) | decide +kernel
theorem ef_rm_can (m : MethodId) (x0 : Int32) : entryFrame m #[(.int x0)] 1 = mkF m 0 #[.val (.int x0)] [] := by first | (simp [entryFrame, mkF, argsToLocals, Value.category]; done) | rfl
def Q_rm_can (Z : State) (ch : Int32) (h0 : Heap) (n0 : Nat) (v : Option Value) (h : Heap) (L : List Loc) : Prop := v = some (.int 1) ∧ Fr n0 L ∧ h = h0
theorem d4_0 : decode jdk_43_method_3_code 0 = .ok (.iload_n 0, 1) := by decide +kernel
theorem d4_1 : decode jdk_43_method_3_code 1 = .ok (.sipush 255, 3) := by decide +kernel
theorem d4_4 : decode jdk_43_method_3_code 4 = .ok (.if_icmp .gt 7, 3) := by decide +kernel
theorem d4_7 : decode jdk_43_method_3_code 7 = .ok (.iconst 1, 1) := by decide +kernel
theorem d4_8 : decode jdk_43_method_3_code 8 = .ok (.goto 4, 3) := by decide +kernel
theorem d4_12 : decode jdk_43_method_3_code 12 = .ok (.ireturn, 1) := by decide +kernel
set_option maxRecDepth 65536 in
set_option maxHeartbeats 40000000 in
theorem rm_can (l : Launch) (Z : State) (a0 : Array Value) (hw : ∀ d ∈ tables_1, d.before a0 Z = true) (ws : List Jvm.Cond) (ch : Int32) (h0 : Heap) (n0 : Nat) (O : Old Z n0 h0) (hc : ¬ ch < 0 ∧ ¬ (255 : Int32) < ch) :
    MetFree l (⟨"java/lang/StringLatin1", "canEncode", "(C)Z"⟩ : MethodName) (head1 (Jvm.Cond.code (⟨"java/lang/StringLatin1", "canEncode", "(C)Z"⟩ : MethodName) jdk_43_method_3_code 1 (some .boolean) :: ws) ({ frames := 0, cells := 0, slots := 0, locals := 0 } : Room)) (fun aa U => aa = #[(.int ch)] ∧ Z.Warmed39 U.vm ∧ U.heap = h0) (fun _ _ _ _ _ => True) (fun _ U o U' => ∃ v L, o = .returned v ∧ Q_rm_can Z ch h0 n0 v U'.heap L ∧ FrameEnd U o U' L ({ frames := 0, cells := 0, slots := 0, locals := 0 } : Room).cells ({ frames := 0, cells := 0, slots := 0, locals := 0 } : Room).slots) := by
  refine MetFree.of_bodySF (plainFor_of_name pn_java_lang_StringLatin1) hisR ?_
  intro p e s m args below meth c s₁ Bd hml0 hP hK
  obtain ⟨rfl, hZ, hh⟩ := hP
  have hx := Bd.exec
  have hby := Bd.bytes
  have hml : c.maxLocals = 1 := hml0
  have hown : s.vm.findClass "java/lang/StringLatin1" = some m.cls := findClass_of_methodNamed Bd.named
  have hnm := (name_of_methodNamed Bd.named Bd.method).1
  have X0 : Stand p l e ({ frames := 0, cells := 0, slots := 0, locals := 0 } : Room) s m #[(.int ch)] below meth c s₁ [] 0 0 := Stand.of_body Bd
  have e0 : s₁.heap = h0 := by rw [← hh, Bd.state]; rfl
  have N0 := Fr.nil n0
  show Goes p e below s FrameEnd ({ frames := 0, cells := 0, slots := 0, locals := 0 } : Room).cells ({ frames := 0, cells := 0, slots := 0, locals := 0 } : Room).slots (Q_rm_can Z ch h0 n0) s₁ (entryFrame m #[(.int ch)] 1)
  refine Goes.cast (ef_rm_can m ch) ?_
  refine Goes.to (T' := s₁) (mkF m 1 #[.val (.int ch)] [(.int ch)]) (fun t k => XS.iloadN X0.here hx rfl (hb hby d4_0) rfl k) ?_
  refine Goes.to (T' := s₁) (mkF m 4 #[.val (.int ch)] [(.int (255 : Int32)), (.int ch)]) (fun t k => XS.sipush X0.here hx rfl (hb hby d4_1) k) ?_
  refine Goes.to (T' := s₁) (mkF m 7 #[.val (.int ch)] []) (fun t k => XS.icmpNo X0.here hx rfl (hb hby d4_4) rfl (flt (hc.2 : ¬ ((255 : Int32) < ch))).2.2.1 k) ?_
  refine Goes.to (T' := s₁) (mkF m 8 #[.val (.int ch)] [(.int (1 : Int32))]) (fun t k => XS.iconst X0.here hx rfl (hb hby d4_7) k) ?_
  refine Goes.to (T' := s₁) (mkF m 12 #[.val (.int ch)] [(.int (1 : Int32))]) (fun t k => XS.goto X0.here hx rfl (pc0 := 8) (pc' := 12) rfl (hb hby d4_8) (by decide) (by decide) k) ?_
  refine Goes.retN X0 hx Bd.notSynchronized (t := .boolean) Bd.returns (by simp) (hb hby d4_12) (by decide) (by decide) ?_
  rw [e0]
  exact ⟨rfl, N0, rfl⟩
theorem ef_rm_tob (m : MethodId) (x0 : Int32) : entryFrame m #[(.int x0)] 1 = mkF m 0 #[.val (.int x0)] [] := by first | (simp [entryFrame, mkF, argsToLocals, Value.category]; done) | rfl
def Q_rm_tob (Z : State) (ch : Int32) (h0 : Heap) (n0 : Nat) (v : Option Value) (h : Heap) (L : List Loc) : Prop := Fr n0 L ∧ Keep h0 h [] ∧ ∃ (b : Addr) (kb : ClassId), v = some (.ref b) ∧ n0 ≤ b ∧ h0.size ≤ b ∧ Arv Z h b kb .byte 1 [(.int (StrChars.lo8 ch))] (.int 0)
theorem d5_0 : decode jdk_43_method_46_code 0 = .ok (.iconst 1, 1) := by decide +kernel
theorem d5_1 : decode jdk_43_method_46_code 1 = .ok (.newarray .byte, 2) := by decide +kernel
theorem d5_3 : decode jdk_43_method_46_code 3 = .ok (.dup, 1) := by decide +kernel
theorem d5_4 : decode jdk_43_method_46_code 4 = .ok (.iconst 0, 1) := by decide +kernel
theorem d5_5 : decode jdk_43_method_46_code 5 = .ok (.iload_n 0, 1) := by decide +kernel
theorem d5_6 : decode jdk_43_method_46_code 6 = .ok (.i2b, 1) := by decide +kernel
theorem d5_7 : decode jdk_43_method_46_code 7 = .ok (.bastore, 1) := by decide +kernel
theorem d5_8 : decode jdk_43_method_46_code 8 = .ok (.areturn, 1) := by decide +kernel
set_option maxRecDepth 65536 in
set_option maxHeartbeats 40000000 in
theorem rm_tob (l : Launch) (Z : State) (a0 : Array Value) (hw : ∀ d ∈ tables_1, d.before a0 Z = true) (ws : List Jvm.Cond) (ch : Int32) (h0 : Heap) (n0 : Nat) (O : Old Z n0 h0) :
    MetFree l (⟨"java/lang/StringLatin1", "toBytes", "(C)[B"⟩ : MethodName) (head1 (Jvm.Cond.code (⟨"java/lang/StringLatin1", "toBytes", "(C)[B"⟩ : MethodName) jdk_43_method_46_code 1 (some (.array .byte)) :: ws) ({ frames := 0, cells := 1, slots := 1, locals := 0 } : Room)) (fun aa U => aa = #[(.int ch)] ∧ Z.Warmed39 U.vm ∧ U.heap = h0) (fun _ _ _ _ _ => True) (fun _ U o U' => ∃ v L, o = .returned v ∧ Q_rm_tob Z ch h0 n0 v U'.heap L ∧ FrameEnd U o U' L ({ frames := 0, cells := 1, slots := 1, locals := 0 } : Room).cells ({ frames := 0, cells := 1, slots := 1, locals := 0 } : Room).slots) := by
  refine MetFree.of_bodySF (plainFor_of_name pn_java_lang_StringLatin1) hisR ?_
  intro p e s m args below meth c s₁ Bd hml0 hP hK
  obtain ⟨rfl, hZ, hh⟩ := hP
  have hx := Bd.exec
  have hby := Bd.bytes
  have hml : c.maxLocals = 1 := hml0
  have hown : s.vm.findClass "java/lang/StringLatin1" = some m.cls := findClass_of_methodNamed Bd.named
  have hnm := (name_of_methodNamed Bd.named Bd.method).1
  have X0 : Stand p l e ({ frames := 0, cells := 1, slots := 1, locals := 0 } : Room) s m #[(.int ch)] below meth c s₁ [] 0 0 := Stand.of_body Bd
  have e0 : s₁.heap = h0 := by rw [← hh, Bd.state]; rfl
  have N0 := Fr.nil n0
  have K : Keep h0 h0 [] := Keep.refl _ _
  show Goes p e below s FrameEnd ({ frames := 0, cells := 1, slots := 1, locals := 0 } : Room).cells ({ frames := 0, cells := 1, slots := 1, locals := 0 } : Room).slots (Q_rm_tob Z ch h0 n0) s₁ (entryFrame m #[(.int ch)] 1)
  refine Goes.cast (ef_rm_tob m ch) ?_
  refine Goes.to (T' := s₁) (mkF m 1 #[.val (.int ch)] [(.int (1 : Int32))]) (fun t k => XS.iconst X0.here hx rfl (hb hby d5_0) k) ?_
  obtain ⟨T1, h1, k1, X1, e1, E1, A1, st1⟩ := newP X0 hx hZ (hw _ (List.mem_of_getElem? (i := 16) rfl)) e0 (g := (mkF m 1 #[.val (.int ch)] [(.int (1 : Int32))])) rfl (hb hby d5_1) rfl (by decide) (cap := 1) (by decide) (by decide) (by decide) (by decide)
  obtain ⟨b1, g1⟩ : ∃ z, z = h0.size := ⟨_, rfl⟩
  rw [← g1] at A1 st1
  have g_b1 : n0 ≤ b1 := Nat.le_trans (O.1 ▸ O.2.1) (Nat.le_of_eq g1.symm)
  have sz_b1 : h0.size ≤ b1 := Nat.le_trans K.1 (Nat.le_of_eq g1.symm)
  replace O := O.ext E1
  replace K := K.ext E1
  have V_b1 : Arv Z h1 b1 k1 .byte (1 : Int32) [(.int (0 : Int32))] (.int (0 : Int32)) := (Arv.new A1 (by decide)).pad (pad_rep [] (.int (0 : Int32)) 1)
  refine Goes.to (T' := T1) (mkF m 3 #[.val (.int ch)] [(.ref b1)]) st1 ?_
  refine Goes.to (T' := T1) (mkF m 4 #[.val (.int ch)] [(.ref b1), (.ref b1)]) (fun t k => XS.dup X1.here hx rfl (hb hby d5_3) rfl rfl k) ?_
  refine Goes.to (T' := T1) (mkF m 5 #[.val (.int ch)] [(.int (0 : Int32)), (.ref b1), (.ref b1)]) (fun t k => XS.iconst X1.here hx rfl (hb hby d5_4) k) ?_
  refine Goes.to (T' := T1) (mkF m 6 #[.val (.int ch)] [(.int ch), (.int (0 : Int32)), (.ref b1), (.ref b1)]) (fun t k => XS.iloadN X1.here hx rfl (hb hby d5_5) rfl k) ?_
  refine Goes.to (T' := T1) (mkF m 7 #[.val (.int ch)] [(.int (ch.toInt8.toInt32)), (.int (0 : Int32)), (.ref b1), (.ref b1)]) (fun t k => XS.i2b X1.here hx rfl (hb hby d5_6) rfl k) ?_
  obtain ⟨cl2, Ar2, q2, S2, M2, H2, G2⟩ := V_b1
  have hin2 : ¬ ((0 : Int32) < 0 ∨ cl2.slots.size ≤ ((0 : Int32)).toNatClampNeg) := inb_of S2 ⟨by decide, by decide⟩
  obtain ⟨T3, h3, X3, e3, W3, st3⟩ := stB X1 hx hZ e1 Ar2 (j := (0 : Int32)) hin2 (g := (mkF m 7 #[.val (.int ch)] [(.int (ch.toInt8.toInt32)), (.int (0 : Int32)), (.ref b1), (.ref b1)])) rfl rfl (hb hby d5_7)
  have V_b1 : Arv Z h3 b1 k1 .byte (1 : Int32) [(.int (nar .byte (ch.toInt8.toInt32)))] (.int (0 : Int32)) := Arv.set Ar2 q2 S2 M2 H2 G2 (fits_nar_byte _) W3 0 rfl (Nat.le_of_ble_eq_true rfl)
  replace O := O.wr W3 g_b1
  replace K := K.wr W3 (Or.inr sz_b1)
  have N3 := Fr.snoc X3 N0 g_b1
  refine Goes.to (T' := T3) (mkF m 8 #[.val (.int ch)] [(.ref b1)]) st3 ?_
  refine Goes.retA X3 hx Bd.notSynchronized rfl Bd.returns rfl (hb hby d5_8) (by decide) (by decide) ?_
  rw [e3]
  exact ⟨N3, K, _, _, rfl, g_b1, sz_b1, by rw [← own_nb]; exact V_b1⟩
theorem pn_java_lang_String : plainName "java/lang/String" = true := by first | (simp [plainName, overriddenIn]; done) | decide +kernel
theorem ef_rm_bb (m : MethodId) (x0 : Addr) (x1 : Addr) (x2 : Int32) : entryFrame m #[(.ref x0), (.ref x1), (.int x2)] 3 = mkF m 0 #[.val (.ref x0), .val (.ref x1), .val (.int x2)] [] := by first | (simp [entryFrame, mkF, argsToLocals, Value.category]; done) | rfl
def Q_rm_bb (Z : State) (a t1 : Addr) (u0 u1 : Value) (h0 : Heap) (n0 : Nat) (v : Option Value) (h : Heap) (L : List Loc) : Prop := v = none ∧ Fr n0 L ∧ Keep h0 h [a] ∧ Fld Z h a "java/lang/String" "value" "[B" (.ref t1) ∧ Fld Z h a "java/lang/String" "coder" "B" (.int 0)
theorem d6_0 : decode jdk_42_method_151_code 0 = .ok (.aload_n 0, 1) := by decide +kernel
theorem d6_1 : decode jdk_42_method_151_code 1 = .ok (.invokespecial 1, 3) := by decide +kernel
theorem d6_4 : decode jdk_42_method_151_code 4 = .ok (.aload_n 0, 1) := by decide +kernel
theorem d6_5 : decode jdk_42_method_151_code 5 = .ok (.aload_n 1, 1) := by decide +kernel
theorem d6_6 : decode jdk_42_method_151_code 6 = .ok (.putfield 9, 3) := by decide +kernel
theorem d6_9 : decode jdk_42_method_151_code 9 = .ok (.aload_n 0, 1) := by decide +kernel
theorem d6_10 : decode jdk_42_method_151_code 10 = .ok (.iload_n 2, 1) := by decide +kernel
theorem d6_11 : decode jdk_42_method_151_code 11 = .ok (.putfield 15, 3) := by decide +kernel
theorem d6_14 : decode jdk_42_method_151_code 14 = .ok (.return_, 1) := by decide +kernel
set_option maxRecDepth 65536 in
set_option maxHeartbeats 40000000 in
theorem rm_bb (l : Launch) (Z : State) (a0 : Array Value) (hw : ∀ d ∈ tables_1, d.before a0 Z = true) (ws : List Jvm.Cond) (a t1 : Addr) (u0 u1 : Value) (h0 : Heap) (n0 : Nat) (O : Old Z n0 h0) (E_a : Exa Z h0 a "java/lang/String") (F_value_a : Fld Z h0 a "java/lang/String" "value" "[B" u0) (F_coder_a : Fld Z h0 a "java/lang/String" "coder" "B" u1) (g_a : n0 ≤ a) :
    MetFree l (⟨"java/lang/String", "<init>", "([BB)V"⟩ : MethodName) (head1 (Jvm.Cond.code (⟨"java/lang/String", "<init>", "([BB)V"⟩ : MethodName) jdk_42_method_151_code 3 none :: ws) ({ frames := 1, cells := 0, slots := 0, locals := 12 } : Room)) (fun aa U => aa = #[(.ref a), (.ref t1), (.int (0 : Int32))] ∧ Z.Warmed39 U.vm ∧ U.heap = h0) (fun _ _ _ _ _ => True) (fun _ U o U' => ∃ v L, o = .returned v ∧ Q_rm_bb Z a t1 u0 u1 h0 n0 v U'.heap L ∧ FrameEnd U o U' L ({ frames := 1, cells := 0, slots := 0, locals := 12 } : Room).cells ({ frames := 1, cells := 0, slots := 0, locals := 12 } : Room).slots) := by
  refine MetFree.of_bodySF (plainFor_of_name pn_java_lang_String) hisR ?_
  intro p e s m args below meth c s₁ Bd hml0 hP hK
  obtain ⟨rfl, hZ, hh⟩ := hP
  have hx := Bd.exec
  have hby := Bd.bytes
  have hml : c.maxLocals = 3 := hml0
  have hown : s.vm.findClass "java/lang/String" = some m.cls := findClass_of_methodNamed Bd.named
  have hnm := (name_of_methodNamed Bd.named Bd.method).1
  have X0 : Stand p l e ({ frames := 1, cells := 0, slots := 0, locals := 12 } : Room) s m #[(.ref a), (.ref t1), (.int (0 : Int32))] below meth c s₁ [] 0 0 := Stand.of_body Bd
  have e0 : s₁.heap = h0 := by rw [← hh, Bd.state]; rfl
  have N0 := Fr.nil n0
  have K : Keep h0 h0 [a] := Keep.refl _ _
  show Goes p e below s FrameEnd ({ frames := 1, cells := 0, slots := 0, locals := 12 } : Room).cells ({ frames := 1, cells := 0, slots := 0, locals := 12 } : Room).slots (Q_rm_bb Z a t1 u0 u1 h0 n0) s₁ (entryFrame m #[(.ref a), (.ref t1), (.int (0 : Int32))] 3)
  refine Goes.cast (ef_rm_bb m a t1 (0 : Int32)) ?_
  refine Goes.to (T' := s₁) (mkF m 1 #[.val (.ref a), .val (.ref t1), .val (.int (0 : Int32))] [(.ref a)]) (fun t k => XS.aloadN X0.here hx rfl (hb hby d6_0) rfl rfl k) ?_
  obtain ⟨T1, X1, e1, st1⟩ := initO X0 hx hZ hown (hw _ (List.mem_of_getElem? (i := 37) rfl)) (hw _ (List.mem_of_getElem? (i := 38) rfl)) (hw _ (List.mem_of_getElem? (i := 39) rfl)) e0 (g := (mkF m 1 #[.val (.ref a), .val (.ref t1), .val (.int (0 : Int32))] [(.ref a)])) rfl (by rw [hml]; rfl) rfl (hb hby d6_1) (by decide) (W := 0) (by show 2 * 0 + _ ≤ _; exact Nat.le_of_eq rfl) (by decide)
  refine Goes.to (T' := T1) (mkF m 4 #[.val (.ref a), .val (.ref t1), .val (.int (0 : Int32))] []) st1 ?_
  refine Goes.to (T' := T1) (mkF m 5 #[.val (.ref a), .val (.ref t1), .val (.int (0 : Int32))] [(.ref a)]) (fun t k => XS.aloadN X1.here hx rfl (hb hby d6_4) rfl rfl k) ?_
  refine Goes.to (T' := T1) (mkF m 6 #[.val (.ref a), .val (.ref t1), .val (.int (0 : Int32))] [(.ref t1), (.ref a)]) (fun t k => XS.aloadN X1.here hx rfl (hb hby d6_5) rfl rfl k) ?_
  obtain ⟨T2, h2, X2, e2, W2, st2⟩ := putF X1 hx hZ hown (host := "") (Or.inl (hw _ (List.mem_of_getElem? (i := 40) rfl))) Via.refl e1 F_value_a E_a (Or.inr ⟨(hw _ (List.mem_of_getElem? (i := 17) rfl)), rfl, hnm⟩) (hw _ (List.mem_of_getElem? (i := 15) rfl)) (ty := (.array .byte)) (by decide) rfl rfl (g := (mkF m 6 #[.val (.ref a), .val (.ref t1), .val (.int (0 : Int32))] [(.ref t1), (.ref a)])) rfl rfl (hb hby d6_6)
  replace E_a := E_a.wr W2
  replace F_value_a := F_value_a.same W2
  replace F_coder_a := F_coder_a.other W2 (Or.inr (slot_ne (Or.inr (hw _ (List.mem_of_getElem? (i := 18) rfl))) (Or.inr (hw _ (List.mem_of_getElem? (i := 17) rfl))) (by decide) (t := .byte) (t' := (.array .byte)) (by decide) (by decide)))
  replace O := O.wr W2 g_a
  replace K := K.wr W2 (Or.inl (by simp))
  have N2 := Fr.snoc X2 N0 g_a
  refine Goes.to (T' := T2) (mkF m 9 #[.val (.ref a), .val (.ref t1), .val (.int (0 : Int32))] []) st2 ?_
  refine Goes.to (T' := T2) (mkF m 10 #[.val (.ref a), .val (.ref t1), .val (.int (0 : Int32))] [(.ref a)]) (fun t k => XS.aloadN X2.here hx rfl (hb hby d6_9) rfl rfl k) ?_
  refine Goes.to (T' := T2) (mkF m 11 #[.val (.ref a), .val (.ref t1), .val (.int (0 : Int32))] [(.int (0 : Int32)), (.ref a)]) (fun t k => XS.iloadN X2.here hx rfl (hb hby d6_10) rfl k) ?_
  obtain ⟨T3, h3, X3, e3, W3, st3⟩ := putFN X2 hx hZ hown (hw _ (List.mem_of_getElem? (i := 41) rfl)) Via.refl e2 F_coder_a E_a (Or.inr ⟨(hw _ (List.mem_of_getElem? (i := 18) rfl)), rfl, hnm⟩) (hw _ (List.mem_of_getElem? (i := 15) rfl)) (ty := .byte) (v' := .int (nar .byte (0 : Int32))) (by decide) rfl (fits_nar_byte _) (g := (mkF m 11 #[.val (.ref a), .val (.ref t1), .val (.int (0 : Int32))] [(.int (0 : Int32)), (.ref a)])) rfl rfl (hb hby d6_11)
  replace E_a := E_a.wr W3
  replace F_value_a := F_value_a.other W3 (Or.inr (slot_ne (Or.inr (hw _ (List.mem_of_getElem? (i := 17) rfl))) (Or.inr (hw _ (List.mem_of_getElem? (i := 18) rfl))) (by decide) (t := (.array .byte)) (t' := .byte) (by decide) (by decide)))
  replace F_coder_a := F_coder_a.same W3
  replace O := O.wr W3 g_a
  replace K := K.wr W3 (Or.inl (by simp))
  have N3 := Fr.snoc X3 N2 g_a
  refine Goes.to (T' := T3) (mkF m 14 #[.val (.ref a), .val (.ref t1), .val (.int (0 : Int32))] []) st3 ?_
  refine Goes.retV X3 hx Bd.notSynchronized Bd.returns (hb hby d6_14) (by decide) (by decide) ?_
  rw [e3]
  exact ⟨rfl, N3, K, F_value_a, F_coder_a⟩
theorem ef_rm_vof (m : MethodId) (x0 : Int32) : entryFrame m #[(.int x0)] 1 = mkF m 0 #[.val (.int x0)] [] := by first | (simp [entryFrame, mkF, argsToLocals, Value.category]; done) | rfl
def Q_rm_vof (Z : State) (ch cz : Int32) (h0 : Heap) (n0 : Nat) (v : Option Value) (h : Heap) (L : List Loc) : Prop := Fr n0 L ∧ Keep h0 h [] ∧ ∃ (b t : Addr) (kb : ClassId) (N2 : Int32) (vs : List Value), v = some (.ref b) ∧ Exa Z h b "java/lang/String" ∧ Fld Z h b "java/lang/String" "value" "[B" (.ref t) ∧ Fld Z h b "java/lang/String" "coder" "B" (.int 0) ∧ Arv Z h t kb .byte N2 vs (.int 0) ∧ StrChars.Road.CodA [ch] 0 N2 vs
theorem d3_0 : decode jdk_42_method_139_code 0 = .ok (.getstatic 38, 3) := by decide +kernel
theorem d3_3 : decode jdk_42_method_139_code 3 = .ok (.ifCond .eq 23, 3) := by decide +kernel
theorem d3_6 : decode jdk_42_method_139_code 6 = .ok (.iload_n 0, 1) := by decide +kernel
theorem d3_7 : decode jdk_42_method_139_code 7 = .ok (.invokestatic 1015, 3) := by decide +kernel
theorem pd_0 : parseMethodDescriptor "(C)Z" = some ⟨[.char], some .boolean⟩ := by decide +kernel
theorem d3_10 : decode jdk_42_method_139_code 10 = .ok (.ifCond .eq 16, 3) := by decide +kernel
theorem d3_13 : decode jdk_42_method_139_code 13 = .ok (.new 10, 3) := by decide +kernel
theorem d3_16 : decode jdk_42_method_139_code 16 = .ok (.dup, 1) := by decide +kernel
theorem d3_17 : decode jdk_42_method_139_code 17 = .ok (.iload_n 0, 1) := by decide +kernel
theorem d3_18 : decode jdk_42_method_139_code 18 = .ok (.invokestatic 1018, 3) := by decide +kernel
theorem pd_1 : parseMethodDescriptor "(C)[B" = some ⟨[.char], some (.array .byte)⟩ := by decide +kernel
theorem d3_21 : decode jdk_42_method_139_code 21 = .ok (.iconst 0, 1) := by decide +kernel
theorem d3_22 : decode jdk_42_method_139_code 22 = .ok (.invokespecial 209, 3) := by decide +kernel
theorem pd_2 : parseMethodDescriptor "([BB)V" = some ⟨[(.array .byte), .byte], none⟩ := by decide +kernel
theorem d3_25 : decode jdk_42_method_139_code 25 = .ok (.areturn, 1) := by decide +kernel
set_option maxRecDepth 65536 in
set_option maxHeartbeats 40000000 in
theorem rm_vof (l : Launch) (Z : State) (a0 : Array Value) (hw : ∀ d ∈ tables_1, d.before a0 Z = true) (ws : List Jvm.Cond) (ch cz : Int32) (h0 : Heap) (n0 : Nat) (O : Old Z n0 h0) (hc : ¬ ch < 0 ∧ ¬ (255 : Int32) < ch) (S_CS : Sta Z Z.heap "java/lang/String" "COMPACT_STRINGS" "Z" (.int cz)) (hcz : ¬ cz = 0) :
    MetFree l (⟨"java/lang/String", "valueOf", "(C)Ljava/lang/String;"⟩ : MethodName) (head1 (Jvm.Cond.code (⟨"java/lang/String", "valueOf", "(C)Ljava/lang/String;"⟩ : MethodName) jdk_42_method_139_code 1 (some (.object "java/lang/String")) :: ws) ({ frames := 2, cells := 2, slots := 5, locals := 40 } : Room)) (fun aa U => aa = #[(.int ch)] ∧ Z.Warmed39 U.vm ∧ U.heap = h0) (fun _ _ _ _ _ => True) (fun _ U o U' => ∃ v L, o = .returned v ∧ Q_rm_vof Z ch cz h0 n0 v U'.heap L ∧ FrameEnd U o U' L ({ frames := 2, cells := 2, slots := 5, locals := 40 } : Room).cells ({ frames := 2, cells := 2, slots := 5, locals := 40 } : Room).slots) := by
  refine MetFree.of_bodySF (plainFor_of_name pn_java_lang_String) hisR ?_
  intro p e s m args below meth c s₁ Bd hml0 hP hK
  obtain ⟨rfl, hZ, hh⟩ := hP
  have hx := Bd.exec
  have hby := Bd.bytes
  have hml : c.maxLocals = 1 := hml0
  have hown : s.vm.findClass "java/lang/String" = some m.cls := findClass_of_methodNamed Bd.named
  have hnm := (name_of_methodNamed Bd.named Bd.method).1
  have X0 : Stand p l e ({ frames := 2, cells := 2, slots := 5, locals := 40 } : Room) s m #[(.int ch)] below meth c s₁ [] 0 0 := Stand.of_body Bd
  have e0 : s₁.heap = h0 := by rw [← hh, Bd.state]; rfl
  have N0 := Fr.nil n0
  have K : Keep h0 h0 [] := Keep.refl _ _
  show Goes p e below s FrameEnd ({ frames := 2, cells := 2, slots := 5, locals := 40 } : Room).cells ({ frames := 2, cells := 2, slots := 5, locals := 40 } : Room).slots (Q_rm_vof Z ch cz h0 n0) s₁ (entryFrame m #[(.int ch)] 1)
  refine Goes.cast (ef_rm_vof m ch) ?_
  obtain ⟨T1, X1, e1, st1⟩ := getS2 X0 hx hZ hown (host := "") (Or.inl (hw _ (List.mem_of_getElem? (i := 24) rfl))) Via.refl e0 (S_CS.ext O.2) (g := (mkF m 0 #[.val (.int ch)] [])) rfl (hb hby d3_0)
  refine Goes.to (T' := T1) (mkF m 3 #[.val (.int ch)] [(.int cz)]) st1 ?_
  refine Goes.to (T' := T1) (mkF m 6 #[.val (.int ch)] []) (fun t k => XS.ifNo X1.here hx rfl (hb hby d3_3) rfl ((if0 _ _).trans (feq (hcz : ¬ (cz = (0 : Int32)))).1) k) ?_
  refine Goes.to (T' := T1) (mkF m 7 #[.val (.int ch)] [(.int ch)]) (fun t k => XS.iloadN X1.here hx rfl (hb hby d3_6) rfl k) ?_
  obtain ⟨_, _, ⟨T2, L2, k2, n2⟩, -, X2, ⟨Lc2, hQ2, l2, y2, z2⟩, st2⟩ := Jvm.LawKit.callS X1 hx (y := (⟨"java/lang/StringLatin1", "canEncode", "(C)Z"⟩ : MethodName)) hown (mvT hZ (hw _ (List.mem_of_getElem? (i := 25) rfl))) (mvT hZ (hw _ (List.mem_of_getElem? (i := 26) rfl))) (mvT hZ (hw _ (List.mem_of_getElem? (i := 27) rfl))) (mvT hZ (hw _ (List.mem_of_getElem? (i := 28) rfl))) (by decide) (backOf (W := 0) (rm_can l Z a0 hw [] ch h0 n0 O hc) hZ (hw _ (List.mem_of_getElem? (i := 28) rfl)) (hw _ (List.mem_of_getElem? (i := 27) rfl)) (by decide) (by decide)) (g := (mkF m 7 #[.val (.int ch)] [(.int ch)])) rfl (by rw [hml]; rfl) (argsL := [(.int ch)]) (rest := []) (lenOf pd_0 rfl) rfl (by show 2 * 0 + _ ≤ _; exact Nat.le_of_eq rfl) (hb hby d3_7) (fun _ _ => ⟨rfl, e1, (by decide : 0 + 0 ≤ _), (by decide : 0 + 0 ≤ _)⟩)
  dsimp only [Pt.U, Pt.locs, Pt.cells, Pt.slots] at X2 l2 y2 z2 st2 hQ2
  subst l2 y2 z2
  obtain ⟨rfl, N2, hs2⟩ := hQ2
  have N2' := Fr.app N0 N2
  refine Goes.to (T' := T2) (mkF m 10 #[.val (.int ch)] [(.int (1 : Int32))]) (fun t k => st2 t k) ?_
  refine Goes.to (T' := T2) (mkF m 13 #[.val (.int ch)] []) (fun t k => XS.ifNo X2.here hx rfl (hb hby d3_10) rfl ((if0 _ _).trans (feq ((by decide) : ¬ ((1 : Int32) = (0 : Int32)))).1) k) ?_
  obtain ⟨T3, h3, X3, e3, E3, A3, D3, -, st3⟩ := newO X2 hx hZ hown (hw _ (List.mem_of_getElem? (i := 29) rfl)) (hw _ (List.mem_of_getElem? (i := 15) rfl)) (hw _ (List.mem_of_getElem? (i := 14) rfl)) hs2 (g := (mkF m 13 #[.val (.int ch)] [])) rfl (hb hby d3_13) (by decide) (by decide)
  obtain ⟨b3, g3⟩ : ∃ z, z = h0.size := ⟨_, rfl⟩
  rw [← g3] at A3 D3 st3
  have g_b3 : n0 ≤ b3 := Nat.le_trans (O.1 ▸ O.2.1) (Nat.le_of_eq g3.symm)
  have sz_b3 : h0.size ≤ b3 := Nat.le_trans K.1 (Nat.le_of_eq g3.symm)
  replace O := O.ext E3
  replace K := K.ext E3
  have E_b3 : Exa Z h3 b3 "java/lang/String" := A3
  have F_value_b3 : Fld Z h3 b3 "java/lang/String" "value" "[B" .null := D3 (Or.inr (hw _ (List.mem_of_getElem? (i := 17) rfl))) (ty := (.array .byte)) (by decide)
  have F_coder_b3 : Fld Z h3 b3 "java/lang/String" "coder" "B" (.int (0 : Int32)) := D3 (Or.inr (hw _ (List.mem_of_getElem? (i := 18) rfl))) (ty := .byte) (by decide)
  refine Goes.to (T' := T3) (mkF m 16 #[.val (.int ch)] [(.ref b3)]) st3 ?_
  refine Goes.to (T' := T3) (mkF m 17 #[.val (.int ch)] [(.ref b3), (.ref b3)]) (fun t k => XS.dup X3.here hx rfl (hb hby d3_16) rfl rfl k) ?_
  refine Goes.to (T' := T3) (mkF m 18 #[.val (.int ch)] [(.int ch), (.ref b3), (.ref b3)]) (fun t k => XS.iloadN X3.here hx rfl (hb hby d3_17) rfl k) ?_
  have lt_b3 := E_b3.lt
  obtain ⟨_, _, ⟨T4, L4, k4, n4⟩, -, X4, ⟨Lc4, hQ4, l4, y4, z4⟩, st4⟩ := Jvm.LawKit.callS X3 hx (y := (⟨"java/lang/StringLatin1", "toBytes", "(C)[B"⟩ : MethodName)) hown (mvT hZ (hw _ (List.mem_of_getElem? (i := 30) rfl))) (mvT hZ (hw _ (List.mem_of_getElem? (i := 31) rfl))) (mvT hZ (hw _ (List.mem_of_getElem? (i := 27) rfl))) (mvT hZ (hw _ (List.mem_of_getElem? (i := 32) rfl))) (by decide) (backOf (W := 2) (rm_tob l Z a0 hw [] ch h3 n0 O) hZ (hw _ (List.mem_of_getElem? (i := 32) rfl)) (hw _ (List.mem_of_getElem? (i := 27) rfl)) (by decide) (by decide)) (g := (mkF m 18 #[.val (.int ch)] [(.int ch), (.ref b3), (.ref b3)])) rfl (by rw [hml]; rfl) (argsL := [(.int ch)]) (rest := [(.ref b3), (.ref b3)]) (lenOf pd_1 rfl) rfl (by show 2 * 0 + _ ≤ _; exact Nat.le_of_eq rfl) (hb hby d3_18) (fun _ _ => ⟨rfl, e3, (by decide : 1 + 1 ≤ _), (by decide : 4 + 1 ≤ _)⟩)
  dsimp only [Pt.U, Pt.locs, Pt.cells, Pt.slots] at X4 l4 y4 z4 st4 hQ4
  subst l4 y4 z4
  obtain ⟨N4, K4, tb, kb, rfl, g_tb, sz_tb, V_tb⟩ := hQ4
  have N4' := Fr.app N2' N4
  replace E_b3 := E_b3.keep K4
  replace F_value_b3 := F_value_b3.keep K4 nin0
  replace F_coder_b3 := F_coder_b3.keep K4 nin0
  replace O := O.keep K4 all0
  replace K := K.trans K4 all0
  have ne_tb : b3 ≠ tb := Nat.ne_of_lt (Nat.lt_of_lt_of_le lt_b3 sz_tb)
  refine Goes.to (T' := T4) (mkF m 21 #[.val (.int ch)] [(.ref tb), (.ref b3), (.ref b3)]) (fun t k => st4 t k) ?_
  refine Goes.to (T' := T4) (mkF m 22 #[.val (.int ch)] [(.int (0 : Int32)), (.ref tb), (.ref b3), (.ref b3)]) (fun t k => XS.iconst X4.here hx rfl (hb hby d3_21) k) ?_
  obtain ⟨_, _, ⟨T5, L5, k5, n5⟩, -, X5, ⟨Lc5, hQ5, l5, y5, z5⟩, st5⟩ := X4.specialBack hx (y := (⟨"java/lang/String", "<init>", "([BB)V"⟩ : MethodName)) rfl hown (mvT hZ (hw _ (List.mem_of_getElem? (i := 33) rfl))) (mvT hZ (hw _ (List.mem_of_getElem? (i := 34) rfl))) (mvT hZ (hw _ (List.mem_of_getElem? (i := 36) rfl))) (by decide) (backOf (W := 1) (rm_bb l Z a0 hw [] b3 tb _ _ T4.heap n0 O E_b3 F_value_b3 F_coder_b3 g_b3) hZ (hw _ (List.mem_of_getElem? (i := 36) rfl)) (hw _ (List.mem_of_getElem? (i := 14) rfl)) (by decide) (by decide)) (g := (mkF m 22 #[.val (.int ch)] [(.int (0 : Int32)), (.ref tb), (.ref b3), (.ref b3)])) rfl (by rw [hml]; rfl) (Steps.refl _) (a := b3) (argsL := [(.ref tb), (.int (0 : Int32))]) (rest := [(.ref b3)]) (lenOf pd_2 rfl) rfl (by show 2 * 0 + _ ≤ _; exact Nat.le_of_eq rfl) (hb hby d3_22) (fun _ _ => ⟨rfl, rfl, (by decide : 2 + 0 ≤ _), (by decide : 5 + 0 ≤ _)⟩)
  dsimp only [Pt.U, Pt.locs, Pt.cells, Pt.slots] at X5 l5 y5 z5 st5 hQ5
  subst l5 y5 z5
  obtain ⟨rfl, N5, K5, F_value_b3, F_coder_b3⟩ := hQ5
  have N5' := Fr.app N4' N5
  replace E_b3 := E_b3.keep K5
  replace V_tb := V_tb.keep K5 (ninS (Ne.symm ne_tb) (nin0))
  replace O := O.keep K5 (allS g_b3 all0)
  replace K := K.trans K5 (allS (Or.inr sz_b3) all0)
  refine Goes.to (T' := T5) (mkF m 25 #[.val (.int ch)] [(.ref b3)]) (fun t k => st5.trans k) ?_
  refine Goes.retA X5 hx Bd.notSynchronized rfl Bd.returns rfl (hb hby d3_25) (by decide) (by decide) ?_
  exact ⟨N5', K, _, _, _, _, _, rfl, E_b3, F_value_b3, F_coder_b3, V_tb, Or.inl ⟨rfl, rfl, rfl, fun z hz => by simp only [List.mem_cons, List.not_mem_nil, or_false] at hz; subst hz; exact hc.2⟩⟩
theorem pn_com_example_forest_in_rows_forestinrows_OwnColumnDefinitionStandsAsPinLaw : plainName "com/example/forest_in_rows/forestinrows/OwnColumnDefinitionStandsAsPinLaw" = true := by first | (simp [plainName, overriddenIn]; done) | decide +kernel
theorem ef_rm_str (m : MethodId) (x0 : Int32) (x1 : Int32) (x2 : Int32) : entryFrame m #[(.int x0), (.int x1), (.int x2)] 4 = mkF m 0 #[.val (.int x0), .val (.int x1), .val (.int x2), .unset] [] := by first | (simp [entryFrame, mkF, argsToLocals, Value.category]; done) | rfl
def Q_rm_str (Z : State) (ln ch dh cz : Int32) (h0 : Heap) (n0 : Nat) (v : Option Value) (h : Heap) (L : List Loc) : Prop := Fr n0 L ∧ Keep h0 h [] ∧ ∃ (b t : Addr) (kb : ClassId) (N2 : Int32) (vs : List Value), v = some (.ref b) ∧ Exa Z h b "java/lang/String" ∧ Fld Z h b "java/lang/String" "value" "[B" (.ref t) ∧ Fld Z h b "java/lang/String" "coder" "B" (.int 0) ∧ Arv Z h t kb .byte N2 vs (.int 0) ∧ StrChars.Road.CodA (own_cs ln ch dh) 0 N2 vs
theorem own_strs : ∀ a ∈ Bundle.stringAtoms, a ∈ tables_1 := by decide +kernel
theorem d2_0 : decode method_2_code 0 = .ok (.iload_n 0, 1) := by decide +kernel
theorem d2_1 : decode method_2_code 1 = .ok (.ifCond .ne 6, 3) := by decide +kernel
theorem d2_4 : decode method_2_code 4 = .ok (.ldc 7, 2) := by decide +kernel
theorem d2_6 : decode method_2_code 6 = .ok (.areturn, 1) := by decide +kernel
theorem d2_7 : decode method_2_code 7 = .ok (.iload_n 0, 1) := by decide +kernel
theorem d2_8 : decode method_2_code 8 = .ok (.iconst 1, 1) := by decide +kernel
theorem d2_9 : decode method_2_code 9 = .ok (.if_icmp .ne 8, 3) := by decide +kernel
theorem d2_12 : decode method_2_code 12 = .ok (.iload_n 1, 1) := by decide +kernel
theorem d2_13 : decode method_2_code 13 = .ok (.invokestatic 9, 3) := by decide +kernel
theorem pd_3 : parseMethodDescriptor "(C)Ljava/lang/String;" = some ⟨[.char], some (.object "java/lang/String")⟩ := by decide +kernel
theorem d2_16 : decode method_2_code 16 = .ok (.areturn, 1) := by decide +kernel
theorem d2_17 : decode method_2_code 17 = .ok (.iconst 2, 1) := by decide +kernel
theorem d2_18 : decode method_2_code 18 = .ok (.newarray .char, 2) := by decide +kernel
theorem d2_20 : decode method_2_code 20 = .ok (.astore_n 3, 1) := by decide +kernel
theorem d2_21 : decode method_2_code 21 = .ok (.aload_n 3, 1) := by decide +kernel
theorem d2_22 : decode method_2_code 22 = .ok (.iconst 0, 1) := by decide +kernel
theorem d2_23 : decode method_2_code 23 = .ok (.iload_n 1, 1) := by decide +kernel
theorem d2_24 : decode method_2_code 24 = .ok (.castore, 1) := by decide +kernel
theorem d2_25 : decode method_2_code 25 = .ok (.aload_n 3, 1) := by decide +kernel
theorem d2_26 : decode method_2_code 26 = .ok (.iconst 1, 1) := by decide +kernel
theorem d2_27 : decode method_2_code 27 = .ok (.iload_n 2, 1) := by decide +kernel
theorem d2_28 : decode method_2_code 28 = .ok (.castore, 1) := by decide +kernel
theorem d2_29 : decode method_2_code 29 = .ok (.new 10, 3) := by decide +kernel
theorem d2_32 : decode method_2_code 32 = .ok (.dup, 1) := by decide +kernel
theorem d2_33 : decode method_2_code 33 = .ok (.aload_n 3, 1) := by decide +kernel
theorem d2_34 : decode method_2_code 34 = .ok (.invokespecial 15, 3) := by decide +kernel
theorem pd_4 : parseMethodDescriptor "([C)V" = some ⟨[(.array .char)], none⟩ := by decide +kernel
theorem d2_37 : decode method_2_code 37 = .ok (.areturn, 1) := by decide +kernel
set_option maxRecDepth 65536 in
set_option maxHeartbeats 40000000 in
theorem rm_str (l : Launch) (Z : State) (a0 : Array Value) (hw : ∀ d ∈ tables_1, d.before a0 Z = true) (ws : List Jvm.Cond) (ln ch dh cz : Int32) (h0 : Heap) (n0 : Nat) (O : Old Z n0 h0) (hc : ¬ ch < 0 ∧ ¬ (255 : Int32) < ch) (hd : ¬ dh < 0 ∧ ¬ (255 : Int32) < dh) (S_CS : Sta Z Z.heap "java/lang/String" "COMPACT_STRINGS" "Z" (.int cz)) (hcz : ¬ cz = 0) :
    MetFree l (⟨"com/example/forest_in_rows/forestinrows/OwnColumnDefinitionStandsAsPinLaw", "str", "(ICC)Ljava/lang/String;"⟩ : MethodName) (head1 (Jvm.Cond.code (⟨"com/example/forest_in_rows/forestinrows/OwnColumnDefinitionStandsAsPinLaw", "str", "(ICC)Ljava/lang/String;"⟩ : MethodName) method_2_code 4 (some (.object "java/lang/String")) :: ws) ({ frames := 4, cells := 4, slots := 14, locals := 80 } : Room)) (fun aa U => aa = #[(.int ln), (.int ch), (.int dh)] ∧ Z.Warmed39 U.vm ∧ U.heap = h0 ∧ CHv Z consts_1 U.vm h0) (fun _ _ _ _ _ => True) (fun _ U o U' => ∃ v L, o = .returned v ∧ Q_rm_str Z ln ch dh cz h0 n0 v U'.heap L ∧ CHr Z consts_1 U.vm U.heap U'.vm U'.heap ∧ ReturnedEndW U o U' L ({ frames := 4, cells := 4, slots := 14, locals := 80 } : Room).cells ({ frames := 4, cells := 4, slots := 14, locals := 80 } : Room).slots) := by
  refine MetFree.of_bodySF (plainFor_of_name pn_com_example_forest_in_rows_forestinrows_OwnColumnDefinitionStandsAsPinLaw) hisR ?_
  intro p e s m args below meth c s₁ Bd hml0 hP hK
  obtain ⟨rfl, hZ, hh, hC⟩ := hP
  have hx := Bd.exec
  have hby := Bd.bytes
  have hml : c.maxLocals = 4 := hml0
  have hown : s.vm.findClass "com/example/forest_in_rows/forestinrows/OwnColumnDefinitionStandsAsPinLaw" = some m.cls := findClass_of_methodNamed Bd.named
  have hnm := (name_of_methodNamed Bd.named Bd.method).1
  have X0 : Stand p l e ({ frames := 4, cells := 4, slots := 14, locals := 80 } : Room) (s.setVm s.vm) m #[(.int ln), (.int ch), (.int dh)] below meth c s₁ [] 0 0 := Stand.of_body Bd
  have e0 : s₁.heap = h0 := by rw [← hh, Bd.state]; rfl
  have N0 := Fr.nil n0
  have K : Keep h0 h0 [] := Keep.refl _ _
  have hS0 : s.Since s.vm 0 := (State.WarmedH.refl s).since 0
  have hk0 : 0 ≤ h0.size := Nat.zero_le _
  replace hZ : Z.Warmed39 (s.setVm s.vm).vm := hZ
  replace hown : (s.setVm s.vm).vm.findClass "com/example/forest_in_rows/forestinrows/OwnColumnDefinitionStandsAsPinLaw" = some m.cls := hown
  have C : CHr Z consts_1 s.vm s.heap s.vm h0 := by rw [hh]; exact CHr.refl hC
  have hEL : EW Z a0 consts_1 := own_EW hw
  show Goes p e below s (HeldEnd Z consts_1) ({ frames := 4, cells := 4, slots := 14, locals := 80 } : Room).cells ({ frames := 4, cells := 4, slots := 14, locals := 80 } : Room).slots (Q_rm_str Z ln ch dh cz h0 n0) s₁ (entryFrame m #[(.int ln), (.int ch), (.int dh)] 4)
  refine Goes.cast (ef_rm_str m ln ch dh) ?_
  refine Goes.to (T' := s₁) (mkF m 1 #[.val (.int ln), .val (.int ch), .val (.int dh), .unset] [(.int ln)]) (fun t k => XS.iloadN X0.here hx rfl (hb hby d2_0) rfl k) ?_
  by_cases hc1_1 : ln = (0 : Int32)
  · refine Goes.to (T' := s₁) (mkF m 4 #[.val (.int ln), .val (.int ch), .val (.int dh), .unset] []) (fun t k => XS.ifNo X0.here hx rfl (hb hby d2_1) rfl ((if0 _ _).trans (teq hc1_1).2) k) ?_
    obtain ⟨str2, T2, h2, k2, sb2, kb2, X2, e2, E2, hS2, hk2, hZ2, hown2, E_str2, F_coder_str2, F_value_str2, V_sb2, lt_str2, lt_sb2, R2, -, hne2, st2⟩ := ldcCH X0 hx hZ hown (hw _ (List.mem_of_getElem? (i := 13) rfl)) (fun a ha => hw a (own_strs a ha)) e0 hS0 hk0 hEL (by decide) C.1 (vs := []) (z := 0) ⟨by decide, rfl⟩ (by decide) rfl (g := (mkF m 4 #[.val (.int ln), .val (.int ch), .val (.int dh), .unset] [])) rfl (hb hby d2_4) (n := 0) (by decide) (by decide) (by decide) (by decide)
    replace C := C.trans R2
    replace O := O.ext E2
    replace K := K.ext E2
    replace hS0 := hS2
    replace hk0 := hk2
    replace hZ := hZ2
    replace hown := hown2
    refine Goes.to (T' := T2) (mkF m 6 #[.val (.int ln), .val (.int ch), .val (.int dh), .unset] [(.ref str2)]) st2 ?_
    refine Goes.retAH X2 hx Bd.notSynchronized hS0 (by rw [e2]; exact hk0) hZ hEL (by rw [e2]; exact C) rfl Bd.returns rfl (hb hby d2_6) (by decide) (by decide) ?_
    rw [e2]
    exact ⟨N0, K, _, _, _, _, _, rfl, E_str2, F_value_str2, F_coder_str2, V_sb2, by rw [own_cs, if_pos hc1_1]; exact Or.inl ⟨rfl, rfl, rfl, fun _ q => nomatch q⟩⟩
  · refine Goes.to (T' := s₁) (mkF m 7 #[.val (.int ln), .val (.int ch), .val (.int dh), .unset] []) (fun t k => XS.ifYes X0.here hx rfl (pc0 := 1) (pc' := 7) rfl (hb hby d2_1) rfl ((if0 _ _).trans (feq hc1_1).2) (by decide) (by decide) k) ?_
    refine Goes.to (T' := s₁) (mkF m 8 #[.val (.int ln), .val (.int ch), .val (.int dh), .unset] [(.int ln)]) (fun t k => XS.iloadN X0.here hx rfl (hb hby d2_7) rfl k) ?_
    refine Goes.to (T' := s₁) (mkF m 9 #[.val (.int ln), .val (.int ch), .val (.int dh), .unset] [(.int (1 : Int32)), (.int ln)]) (fun t k => XS.iconst X0.here hx rfl (hb hby d2_8) k) ?_
    by_cases hc9_3 : ln = (1 : Int32)
    · refine Goes.to (T' := s₁) (mkF m 12 #[.val (.int ln), .val (.int ch), .val (.int dh), .unset] []) (fun t k => XS.icmpNo X0.here hx rfl (hb hby d2_9) rfl (teq hc9_3).2 k) ?_
      refine Goes.to (T' := s₁) (mkF m 13 #[.val (.int ln), .val (.int ch), .val (.int dh), .unset] [(.int ch)]) (fun t k => XS.iloadN X0.here hx rfl (hb hby d2_12) rfl k) ?_
      obtain ⟨_, _, ⟨T4, L4, k4, n4⟩, -, X4, ⟨Lc4, hQ4, l4, y4, z4⟩, st4⟩ := Jvm.LawKit.callS X0 hx (y := (⟨"java/lang/String", "valueOf", "(C)Ljava/lang/String;"⟩ : MethodName)) hown (mvT hZ (hw _ (List.mem_of_getElem? (i := 21) rfl))) (mvT hZ (hw _ (List.mem_of_getElem? (i := 22) rfl))) (mvT hZ (hw _ (List.mem_of_getElem? (i := 14) rfl))) (mvT hZ (hw _ (List.mem_of_getElem? (i := 23) rfl))) (by decide) (backOf (W := 0) (rm_vof l Z a0 hw [] ch cz h0 n0 O hc S_CS hcz) hZ (hw _ (List.mem_of_getElem? (i := 23) rfl)) (hw _ (List.mem_of_getElem? (i := 14) rfl)) (by decide) (by decide)) (g := (mkF m 13 #[.val (.int ln), .val (.int ch), .val (.int dh), .unset] [(.int ch)])) rfl (by rw [hml]; rfl) (argsL := [(.int ch)]) (rest := []) (lenOf pd_3 rfl) rfl (by show 2 * 0 + _ ≤ _; exact Nat.le_of_eq rfl) (hb hby d2_13) (fun _ _ => ⟨rfl, e0, (by decide : 0 + 2 ≤ _), (by decide : 0 + 5 ≤ _)⟩)
      dsimp only [Pt.U, Pt.locs, Pt.cells, Pt.slots] at X4 l4 y4 z4 st4 hQ4
      subst l4 y4 z4
      obtain ⟨N4, K4, sb, stb, skb, sN2, svs, rfl, E_sb, F_vsb, F_csb, V_stb, hcd⟩ := hQ4
      have N4' := Fr.app N0 N4
      have C' := C.trans (CHr.keep K4 sf0 C.1)
      replace C := C'
      replace O := O.keep K4 all0
      replace hk0 := Nat.le_trans hk0 K4.1
      replace K := K.trans K4 all0
      refine Goes.to (T' := T4) (mkF m 16 #[.val (.int ln), .val (.int ch), .val (.int dh), .unset] [(.ref sb)]) (fun t k => st4 t k) ?_
      refine Goes.retAH X4 hx Bd.notSynchronized hS0 hk0 hZ hEL C rfl Bd.returns rfl (hb hby d2_16) (by decide) (by decide) ?_
      exact ⟨N4', K, _, _, _, _, _, rfl, E_sb, F_vsb, F_csb, V_stb, by rw [own_cs, if_neg hc1_1, if_pos hc9_3]; exact hcd⟩
    · refine Goes.to (T' := s₁) (mkF m 17 #[.val (.int ln), .val (.int ch), .val (.int dh), .unset] []) (fun t k => XS.icmpYes X0.here hx rfl (pc0 := 9) (pc' := 17) rfl (hb hby d2_9) rfl (feq hc9_3).2 (by decide) (by decide) k) ?_
      refine Goes.to (T' := s₁) (mkF m 18 #[.val (.int ln), .val (.int ch), .val (.int dh), .unset] [(.int (2 : Int32))]) (fun t k => XS.iconst X0.here hx rfl (hb hby d2_17) k) ?_
      obtain ⟨T5, h5, k5, X5, e5, E5, A5, st5⟩ := newP X0 hx hZ (hw _ (List.mem_of_getElem? (i := 109) rfl)) e0 (g := (mkF m 18 #[.val (.int ln), .val (.int ch), .val (.int dh), .unset] [(.int (2 : Int32))])) rfl (hb hby d2_18) rfl (by decide) (cap := 2) (by decide) (by decide) (by decide) (by decide)
      obtain ⟨b5, g5⟩ : ∃ z, z = h0.size := ⟨_, rfl⟩
      rw [← g5] at A5 st5
      have g_b5 : n0 ≤ b5 := Nat.le_trans (O.1 ▸ O.2.1) (Nat.le_of_eq g5.symm)
      have sz_b5 : h0.size ≤ b5 := Nat.le_trans K.1 (Nat.le_of_eq g5.symm)
      replace C := C.trans (CHr.ext E5 C.1)
      replace O := O.ext E5
      replace hk0 := Nat.le_trans hk0 E5.1
      replace K := K.ext E5
      have V_b5 : Arv Z h5 b5 k5 .char (2 : Int32) [(.int (0 : Int32)), (.int (0 : Int32))] (.int (0 : Int32)) := (Arv.new A5 (by decide)).pad (pad_rep [] (.int (0 : Int32)) 2)
      refine Goes.to (T' := T5) (mkF m 20 #[.val (.int ln), .val (.int ch), .val (.int dh), .unset] [(.ref b5)]) st5 ?_
      refine Goes.to (T' := T5) (mkF m 21 #[.val (.int ln), .val (.int ch), .val (.int dh), .val (.ref b5)] []) (fun t k => XS.astoreN X5.here hx rfl (hb hby d2_20) rfl rfl (l' := #[.val (.int ln), .val (.int ch), .val (.int dh), .val (.ref b5)]) rfl k) ?_
      refine Goes.to (T' := T5) (mkF m 22 #[.val (.int ln), .val (.int ch), .val (.int dh), .val (.ref b5)] [(.ref b5)]) (fun t k => XS.aloadN X5.here hx rfl (hb hby d2_21) rfl rfl k) ?_
      refine Goes.to (T' := T5) (mkF m 23 #[.val (.int ln), .val (.int ch), .val (.int dh), .val (.ref b5)] [(.int (0 : Int32)), (.ref b5)]) (fun t k => XS.iconst X5.here hx rfl (hb hby d2_22) k) ?_
      refine Goes.to (T' := T5) (mkF m 24 #[.val (.int ln), .val (.int ch), .val (.int dh), .val (.ref b5)] [(.int ch), (.int (0 : Int32)), (.ref b5)]) (fun t k => XS.iloadN X5.here hx rfl (hb hby d2_23) rfl k) ?_
      obtain ⟨cl6, Ar6, q6, S6, M6, H6, G6⟩ := V_b5
      have hin6 : ¬ ((0 : Int32) < 0 ∨ cl6.slots.size ≤ ((0 : Int32)).toNatClampNeg) := inb_of S6 ⟨by decide, by decide⟩
      obtain ⟨T7, h7, X7, e7, W7, st7⟩ := stC X5 hx hZ e5 Ar6 (j := (0 : Int32)) hin6 (g := (mkF m 24 #[.val (.int ln), .val (.int ch), .val (.int dh), .val (.ref b5)] [(.int ch), (.int (0 : Int32)), (.ref b5)])) rfl rfl (hb hby d2_24)
      have V_b5 : Arv Z h7 b5 k5 .char (2 : Int32) [(.int (nar .char ch)), (.int (0 : Int32))] (.int (0 : Int32)) := Arv.set Ar6 q6 S6 M6 H6 G6 (fits_nar_char _) W7 0 rfl (Nat.le_of_ble_eq_true rfl)
      have C' := C.trans (CHr.wr W7 (Safe.arr hZ.alike Ar6 (by decide)) C.1)
      replace C := C'
      replace O := O.wr W7 g_b5
      replace hk0 := Nat.le_trans hk0 (Nat.le_of_eq W7.size.symm)
      replace K := K.wr W7 (Or.inr sz_b5)
      have N7 := Fr.snoc X7 N0 g_b5
      refine Goes.to (T' := T7) (mkF m 25 #[.val (.int ln), .val (.int ch), .val (.int dh), .val (.ref b5)] []) st7 ?_
      refine Goes.to (T' := T7) (mkF m 26 #[.val (.int ln), .val (.int ch), .val (.int dh), .val (.ref b5)] [(.ref b5)]) (fun t k => XS.aloadN X7.here hx rfl (hb hby d2_25) rfl rfl k) ?_
      refine Goes.to (T' := T7) (mkF m 27 #[.val (.int ln), .val (.int ch), .val (.int dh), .val (.ref b5)] [(.int (1 : Int32)), (.ref b5)]) (fun t k => XS.iconst X7.here hx rfl (hb hby d2_26) k) ?_
      refine Goes.to (T' := T7) (mkF m 28 #[.val (.int ln), .val (.int ch), .val (.int dh), .val (.ref b5)] [(.int dh), (.int (1 : Int32)), (.ref b5)]) (fun t k => XS.iloadN X7.here hx rfl (hb hby d2_27) rfl k) ?_
      obtain ⟨cl8, Ar8, q8, S8, M8, H8, G8⟩ := V_b5
      have hin8 : ¬ ((1 : Int32) < 0 ∨ cl8.slots.size ≤ ((1 : Int32)).toNatClampNeg) := inb_of S8 ⟨by decide, by decide⟩
      obtain ⟨T9, h9, X9, e9, W9, st9⟩ := stC X7 hx hZ e7 Ar8 (j := (1 : Int32)) hin8 (g := (mkF m 28 #[.val (.int ln), .val (.int ch), .val (.int dh), .val (.ref b5)] [(.int dh), (.int (1 : Int32)), (.ref b5)])) rfl rfl (hb hby d2_28)
      have V_b5 : Arv Z h9 b5 k5 .char (2 : Int32) [(.int (nar .char ch)), (.int (nar .char dh))] (.int (0 : Int32)) := Arv.set Ar8 q8 S8 M8 H8 G8 (fits_nar_char _) W9 1 rfl (Nat.le_of_ble_eq_true rfl)
      have C' := C.trans (CHr.wr W9 (Safe.arr hZ.alike Ar8 (by decide)) C.1)
      replace C := C'
      replace O := O.wr W9 g_b5
      replace hk0 := Nat.le_trans hk0 (Nat.le_of_eq W9.size.symm)
      replace K := K.wr W9 (Or.inr sz_b5)
      have N9 := Fr.snoc X9 N7 g_b5
      refine Goes.to (T' := T9) (mkF m 29 #[.val (.int ln), .val (.int ch), .val (.int dh), .val (.ref b5)] []) st9 ?_
      obtain ⟨T10, h10, X10, e10, E10, A10, D10, -, st10⟩ := newO X9 hx hZ hown (hw _ (List.mem_of_getElem? (i := 110) rfl)) (hw _ (List.mem_of_getElem? (i := 15) rfl)) (hw _ (List.mem_of_getElem? (i := 14) rfl)) e9 (g := (mkF m 29 #[.val (.int ln), .val (.int ch), .val (.int dh), .val (.ref b5)] [])) rfl (hb hby d2_29) (by decide) (by decide)
      obtain ⟨b10, g10⟩ : ∃ z, z = h9.size := ⟨_, rfl⟩
      rw [← g10] at A10 D10 st10
      have g_b10 : n0 ≤ b10 := Nat.le_trans (O.1 ▸ O.2.1) (Nat.le_of_eq g10.symm)
      have sz_b10 : h0.size ≤ b10 := Nat.le_trans K.1 (Nat.le_of_eq g10.symm)
      have ne_b5_b10 : b5 ≠ b10 := Nat.ne_of_lt (Nat.lt_of_lt_of_le V_b5.lt (Nat.le_of_eq g10.symm))
      have C0 := C
      replace C := C.trans (CHr.ext E10 C.1)
      replace O := O.ext E10
      replace hk0 := Nat.le_trans hk0 E10.1
      replace V_b5 := V_b5.ext E10
      replace K := K.ext E10
      have Z_b10 := Safe.ext (EL := consts_1) E10 C0.1 (Safe.new (Nat.le_of_eq g10.symm) : Safe Z consts_1 _ _ b10)
      have E_b10 : Exa Z h10 b10 "java/lang/String" := A10
      have F_value_b10 : Fld Z h10 b10 "java/lang/String" "value" "[B" .null := D10 (Or.inr (hw _ (List.mem_of_getElem? (i := 17) rfl))) (ty := (.array .byte)) (by decide)
      have F_coder_b10 : Fld Z h10 b10 "java/lang/String" "coder" "B" (.int (0 : Int32)) := D10 (Or.inr (hw _ (List.mem_of_getElem? (i := 18) rfl))) (ty := .byte) (by decide)
      refine Goes.to (T' := T10) (mkF m 32 #[.val (.int ln), .val (.int ch), .val (.int dh), .val (.ref b5)] [(.ref b10)]) st10 ?_
      refine Goes.to (T' := T10) (mkF m 33 #[.val (.int ln), .val (.int ch), .val (.int dh), .val (.ref b5)] [(.ref b10), (.ref b10)]) (fun t k => XS.dup X10.here hx rfl (hb hby d2_32) rfl rfl k) ?_
      refine Goes.to (T' := T10) (mkF m 34 #[.val (.int ln), .val (.int ch), .val (.int dh), .val (.ref b5)] [(.ref b5), (.ref b10), (.ref b10)]) (fun t k => XS.aloadN X10.here hx rfl (hb hby d2_33) rfl rfl k) ?_
      have hp : ∀ c ∈ ([(nar .char ch), (nar .char dh)] : List Int32), ¬ c < 0 ∧ ¬ (255 : Int32) < c := by
        intro c hc
        simp only [List.mem_cons, List.not_mem_nil, or_false] at hc
        rcases hc with rfl | rfl <;> first | exact own_nc hc | exact own_nc hd
      obtain ⟨_, _, ⟨T11, L11, k11, n11⟩, -, X11, ⟨Lc11, hQ11, l11, y11, z11⟩, st11⟩ := X10.specialBack hx (y := (⟨"java/lang/String", "<init>", "([C)V"⟩ : MethodName)) rfl hown (mvT hZ (hw _ (List.mem_of_getElem? (i := 111) rfl))) (mvT hZ (hw _ (List.mem_of_getElem? (i := 112) rfl))) (mvT hZ (hw _ (List.mem_of_getElem? (i := 113) rfl))) (by decide) (StrChars.Road.backV (W := 1) hZ (fun d hd => hw d (own_words d hd)) (kI := 4) (hw _ (List.mem_of_getElem? (i := 15) rfl)) (cs := ([(nar .char ch), (nar .char dh)] : List Int32)) (bs := (([(nar .char ch), (nar .char dh)] : List Int32)).map (fun c => c.toInt8.toInt32)) (n := 2) g_b10 (O.1 ▸ O.2.1) E_b10 F_value_b10 F_coder_b10 V_b5 (S_CS.ext O.2) hcz rfl rfl (by decide) (by decide) hp rfl (by decide) (by decide)) (g := (mkF m 34 #[.val (.int ln), .val (.int ch), .val (.int dh), .val (.ref b5)] [(.ref b5), (.ref b10), (.ref b10)])) rfl (by rw [hml]; rfl) (Steps.refl _) (a := b10) (argsL := [(.ref b5)]) (rest := [(.ref b10)]) (lenOf pd_4 rfl) rfl (by show 2 * 0 + _ ≤ _; exact Nat.le_of_eq rfl) (hb hby d2_34) (fun _ _ => ⟨rfl, e10, (by decide : 2 + 1 ≤ _), (by decide : 6 + 2 ≤ _)⟩)
      dsimp only [Pt.U, Pt.locs, Pt.cells, Pt.slots] at X11 l11 y11 z11 st11 hQ11
      subst l11 y11 z11
      obtain ⟨rfl, N11, K11, E', F_csb, stb, skb, -, -, -, F_vsb, V_stb⟩ := hQ11
      have N11' := Fr.app N9 N11
      have C' := C.trans (CHr.keep K11 (sfS Z_b10 sf0) C.1)
      have zz0 := Safe.keep K11 (sfS Z_b10 sf0) C.1 Z_b10
      replace Z_b10 := zz0
      replace C := C'
      replace V_b5 := V_b5.keep K11 (ninS ne_b5_b10 (nin0))
      replace E_b10 := E_b10.keep K11
      replace O := O.keep K11 (allS g_b10 all0)
      replace hk0 := Nat.le_trans hk0 K11.1
      replace K := K.trans K11 (allS (Or.inr sz_b10) all0)
      have hcd := StrChars.Road.codOf (cs := ([(nar .char ch), (nar .char dh)] : List Int32)) (n := 2) rfl (fun c hc => (hp c hc).2)
      refine Goes.to (T' := T11) (mkF m 37 #[.val (.int ln), .val (.int ch), .val (.int dh), .val (.ref b5)] [(.ref b10)]) (fun t k => st11.trans k) ?_
      refine Goes.retAH X11 hx Bd.notSynchronized hS0 hk0 hZ hEL C rfl Bd.returns rfl (hb hby d2_37) (by decide) (by decide) ?_
      exact ⟨N11', K, _, _, _, _, _, rfl, E', F_vsb, F_csb, V_stb, by rw [own_cs, if_neg hc1_1, if_neg hc9_3]; rw [own_ncq hc, own_ncq hd] at hcd; rw [own_ncq hc, own_ncq hd]; exact hcd⟩
theorem ef_rm_fill (m : MethodId) (x0 : Int32) : entryFrame m #[(.int x0)] 2 = mkF m 0 #[.val (.int x0), .unset] [] := by first | (simp [entryFrame, mkF, argsToLocals, Value.category]; done) | rfl
def Q_rm_fill (Z : State) (x : Int32) (a_WRITTEN a_IDENTITY a_GENERATED : Addr) (h0 : Heap) (n0 : Nat) (v : Option Value) (h : Heap) (L : List Loc) : Prop := v = some (.ref (own_fill (x &&& 2147483647) a_WRITTEN a_IDENTITY a_GENERATED)) ∧ Fr n0 L ∧ h = h0
theorem d1_0 : decode method_3_code 0 = .ok (.iload_n 0, 1) := by decide +kernel
theorem d1_1 : decode method_3_code 1 = .ok (.ldc 18, 2) := by decide +kernel
theorem d1_3 : decode method_3_code 3 = .ok (.iand, 1) := by decide +kernel
theorem d1_4 : decode method_3_code 4 = .ok (.iconst 3, 1) := by decide +kernel
theorem d1_5 : decode method_3_code 5 = .ok (.irem, 1) := by decide +kernel
theorem d1_6 : decode method_3_code 6 = .ok (.istore_n 1, 1) := by decide +kernel
theorem d1_7 : decode method_3_code 7 = .ok (.iload_n 1, 1) := by decide +kernel
theorem d1_8 : decode method_3_code 8 = .ok (.ifCond .ne 7, 3) := by decide +kernel
theorem d1_11 : decode method_3_code 11 = .ok (.getstatic 19, 3) := by decide +kernel
theorem d1_14 : decode method_3_code 14 = .ok (.areturn, 1) := by decide +kernel
theorem d1_15 : decode method_3_code 15 = .ok (.iload_n 1, 1) := by decide +kernel
theorem d1_16 : decode method_3_code 16 = .ok (.iconst 1, 1) := by decide +kernel
theorem d1_17 : decode method_3_code 17 = .ok (.if_icmp .ne 7, 3) := by decide +kernel
theorem d1_20 : decode method_3_code 20 = .ok (.getstatic 25, 3) := by decide +kernel
theorem d1_23 : decode method_3_code 23 = .ok (.areturn, 1) := by decide +kernel
theorem d1_24 : decode method_3_code 24 = .ok (.getstatic 28, 3) := by decide +kernel
theorem d1_27 : decode method_3_code 27 = .ok (.areturn, 1) := by decide +kernel
set_option maxRecDepth 65536 in
set_option maxHeartbeats 40000000 in
theorem rm_fill (l : Launch) (Z : State) (a0 : Array Value) (hw : ∀ d ∈ tables_1, d.before a0 Z = true) (ws : List Jvm.Cond) (x : Int32) (a_WRITTEN a_IDENTITY a_GENERATED : Addr) (h0 : Heap) (n0 : Nat) (O : Old Z n0 h0) (S_WRITTEN : Sta Z Z.heap "com/example/forest_in_rows/forestinrows/CatalogColumn$Filling" "WRITTEN" "Lcom/example/forest_in_rows/forestinrows/CatalogColumn$Filling;" (.ref a_WRITTEN)) (S_IDENTITY : Sta Z Z.heap "com/example/forest_in_rows/forestinrows/CatalogColumn$Filling" "IDENTITY" "Lcom/example/forest_in_rows/forestinrows/CatalogColumn$Filling;" (.ref a_IDENTITY)) (S_GENERATED : Sta Z Z.heap "com/example/forest_in_rows/forestinrows/CatalogColumn$Filling" "GENERATED" "Lcom/example/forest_in_rows/forestinrows/CatalogColumn$Filling;" (.ref a_GENERATED)) :
    MetFree l (⟨"com/example/forest_in_rows/forestinrows/OwnColumnDefinitionStandsAsPinLaw", "filling", "(I)Lcom/example/forest_in_rows/forestinrows/CatalogColumn$Filling;"⟩ : MethodName) (head1 (Jvm.Cond.code (⟨"com/example/forest_in_rows/forestinrows/OwnColumnDefinitionStandsAsPinLaw", "filling", "(I)Lcom/example/forest_in_rows/forestinrows/CatalogColumn$Filling;"⟩ : MethodName) method_3_code 2 (some (.object "com/example/forest_in_rows/forestinrows/CatalogColumn$Filling")) :: ws) ({ frames := 0, cells := 0, slots := 0, locals := 0 } : Room)) (fun aa U => aa = #[(.int x)] ∧ Z.Warmed39 U.vm ∧ U.heap = h0) (fun _ _ _ _ _ => True) (fun _ U o U' => ∃ v L, o = .returned v ∧ Q_rm_fill Z x a_WRITTEN a_IDENTITY a_GENERATED h0 n0 v U'.heap L ∧ FrameEnd U o U' L ({ frames := 0, cells := 0, slots := 0, locals := 0 } : Room).cells ({ frames := 0, cells := 0, slots := 0, locals := 0 } : Room).slots) := by
  refine MetFree.of_bodySF (plainFor_of_name pn_com_example_forest_in_rows_forestinrows_OwnColumnDefinitionStandsAsPinLaw) hisR ?_
  intro p e s m args below meth c s₁ Bd hml0 hP hK
  obtain ⟨rfl, hZ, hh⟩ := hP
  have hx := Bd.exec
  have hby := Bd.bytes
  have hml : c.maxLocals = 2 := hml0
  have hown : s.vm.findClass "com/example/forest_in_rows/forestinrows/OwnColumnDefinitionStandsAsPinLaw" = some m.cls := findClass_of_methodNamed Bd.named
  have hnm := (name_of_methodNamed Bd.named Bd.method).1
  have X0 : Stand p l e ({ frames := 0, cells := 0, slots := 0, locals := 0 } : Room) s m #[(.int x)] below meth c s₁ [] 0 0 := Stand.of_body Bd
  have e0 : s₁.heap = h0 := by rw [← hh, Bd.state]; rfl
  have N0 := Fr.nil n0
  show Goes p e below s FrameEnd ({ frames := 0, cells := 0, slots := 0, locals := 0 } : Room).cells ({ frames := 0, cells := 0, slots := 0, locals := 0 } : Room).slots (Q_rm_fill Z x a_WRITTEN a_IDENTITY a_GENERATED h0 n0) s₁ (entryFrame m #[(.int x)] 2)
  refine Goes.cast (ef_rm_fill m x) ?_
  refine Goes.to (T' := s₁) (mkF m 1 #[.val (.int x), .unset] [(.int x)]) (fun t k => XS.iloadN X0.here hx rfl (hb hby d1_0) rfl k) ?_
  refine Goes.to (T' := s₁) (mkF m 3 #[.val (.int x), .unset] [(.int (2147483647 : Int32)), (.int x)]) (fun t k => X0.ldcInt hx hown (mvT hZ (hw _ (List.mem_of_getElem? (i := 4) rfl))) (g := (mkF m 1 #[.val (.int x), .unset] [(.int x)])) rfl (hb hby d1_1) _ k) ?_
  refine Goes.to (T' := s₁) (mkF m 4 #[.val (.int x), .unset] [(.int (x &&& (2147483647 : Int32)))]) (fun t k => XS.iand X0.here hx rfl (hb hby d1_3) rfl k) ?_
  refine Goes.to (T' := s₁) (mkF m 5 #[.val (.int x), .unset] [(.int (3 : Int32)), (.int (x &&& (2147483647 : Int32)))]) (fun t k => XS.iconst X0.here hx rfl (hb hby d1_4) k) ?_
  refine Goes.to (T' := s₁) (mkF m 6 #[.val (.int x), .unset] [(.int ((x &&& (2147483647 : Int32)) - ((x &&& (2147483647 : Int32)) / (3 : Int32)) * (3 : Int32)))]) (fun t k => XS.irem X0.here hx rfl (hb hby d1_5) rfl (by decide) k) ?_
  refine Goes.to (T' := s₁) (mkF m 7 #[.val (.int x), .val (.int ((x &&& (2147483647 : Int32)) - ((x &&& (2147483647 : Int32)) / (3 : Int32)) * (3 : Int32)))] []) (fun t k => XS.istoreN X0.here hx rfl (hb hby d1_6) rfl (l' := #[.val (.int x), .val (.int ((x &&& (2147483647 : Int32)) - ((x &&& (2147483647 : Int32)) / (3 : Int32)) * (3 : Int32)))]) rfl k) ?_
  refine Goes.to (T' := s₁) (mkF m 8 #[.val (.int x), .val (.int ((x &&& (2147483647 : Int32)) - ((x &&& (2147483647 : Int32)) / (3 : Int32)) * (3 : Int32)))] [(.int ((x &&& (2147483647 : Int32)) - ((x &&& (2147483647 : Int32)) / (3 : Int32)) * (3 : Int32)))]) (fun t k => XS.iloadN X0.here hx rfl (hb hby d1_7) rfl k) ?_
  by_cases hc8_1 : ((x &&& (2147483647 : Int32)) - ((x &&& (2147483647 : Int32)) / (3 : Int32)) * (3 : Int32)) = (0 : Int32)
  · refine Goes.to (T' := s₁) (mkF m 11 #[.val (.int x), .val (.int ((x &&& (2147483647 : Int32)) - ((x &&& (2147483647 : Int32)) / (3 : Int32)) * (3 : Int32)))] []) (fun t k => XS.ifNo X0.here hx rfl (hb hby d1_8) rfl ((if0 _ _).trans (teq hc8_1).2) k) ?_
    obtain ⟨T2, X2, e2, st2⟩ := getS2 X0 hx hZ hown (host := "") (Or.inl (hw _ (List.mem_of_getElem? (i := 8) rfl))) Via.refl e0 (S_WRITTEN.ext O.2) (g := (mkF m 11 #[.val (.int x), .val (.int ((x &&& (2147483647 : Int32)) - ((x &&& (2147483647 : Int32)) / (3 : Int32)) * (3 : Int32)))] [])) rfl (hb hby d1_11)
    refine Goes.to (T' := T2) (mkF m 14 #[.val (.int x), .val (.int ((x &&& (2147483647 : Int32)) - ((x &&& (2147483647 : Int32)) / (3 : Int32)) * (3 : Int32)))] [(.ref a_WRITTEN)]) st2 ?_
    refine Goes.retA X2 hx Bd.notSynchronized rfl Bd.returns rfl (hb hby d1_14) (by decide) (by decide) ?_
    rw [e2]
    exact ⟨by rw [own_fill, if_pos hc8_1], N0, rfl⟩
  · refine Goes.to (T' := s₁) (mkF m 15 #[.val (.int x), .val (.int ((x &&& (2147483647 : Int32)) - ((x &&& (2147483647 : Int32)) / (3 : Int32)) * (3 : Int32)))] []) (fun t k => XS.ifYes X0.here hx rfl (pc0 := 8) (pc' := 15) rfl (hb hby d1_8) rfl ((if0 _ _).trans (feq hc8_1).2) (by decide) (by decide) k) ?_
    refine Goes.to (T' := s₁) (mkF m 16 #[.val (.int x), .val (.int ((x &&& (2147483647 : Int32)) - ((x &&& (2147483647 : Int32)) / (3 : Int32)) * (3 : Int32)))] [(.int ((x &&& (2147483647 : Int32)) - ((x &&& (2147483647 : Int32)) / (3 : Int32)) * (3 : Int32)))]) (fun t k => XS.iloadN X0.here hx rfl (hb hby d1_15) rfl k) ?_
    refine Goes.to (T' := s₁) (mkF m 17 #[.val (.int x), .val (.int ((x &&& (2147483647 : Int32)) - ((x &&& (2147483647 : Int32)) / (3 : Int32)) * (3 : Int32)))] [(.int (1 : Int32)), (.int ((x &&& (2147483647 : Int32)) - ((x &&& (2147483647 : Int32)) / (3 : Int32)) * (3 : Int32)))]) (fun t k => XS.iconst X0.here hx rfl (hb hby d1_16) k) ?_
    by_cases hc17_3 : ((x &&& (2147483647 : Int32)) - ((x &&& (2147483647 : Int32)) / (3 : Int32)) * (3 : Int32)) = (1 : Int32)
    · refine Goes.to (T' := s₁) (mkF m 20 #[.val (.int x), .val (.int ((x &&& (2147483647 : Int32)) - ((x &&& (2147483647 : Int32)) / (3 : Int32)) * (3 : Int32)))] []) (fun t k => XS.icmpNo X0.here hx rfl (hb hby d1_17) rfl (teq hc17_3).2 k) ?_
      obtain ⟨T4, X4, e4, st4⟩ := getS2 X0 hx hZ hown (host := "") (Or.inl (hw _ (List.mem_of_getElem? (i := 5) rfl))) Via.refl e0 (S_IDENTITY.ext O.2) (g := (mkF m 20 #[.val (.int x), .val (.int ((x &&& (2147483647 : Int32)) - ((x &&& (2147483647 : Int32)) / (3 : Int32)) * (3 : Int32)))] [])) rfl (hb hby d1_20)
      refine Goes.to (T' := T4) (mkF m 23 #[.val (.int x), .val (.int ((x &&& (2147483647 : Int32)) - ((x &&& (2147483647 : Int32)) / (3 : Int32)) * (3 : Int32)))] [(.ref a_IDENTITY)]) st4 ?_
      refine Goes.retA X4 hx Bd.notSynchronized rfl Bd.returns rfl (hb hby d1_23) (by decide) (by decide) ?_
      rw [e4]
      exact ⟨by rw [own_fill, if_neg hc8_1, if_pos hc17_3], N0, rfl⟩
    · refine Goes.to (T' := s₁) (mkF m 24 #[.val (.int x), .val (.int ((x &&& (2147483647 : Int32)) - ((x &&& (2147483647 : Int32)) / (3 : Int32)) * (3 : Int32)))] []) (fun t k => XS.icmpYes X0.here hx rfl (pc0 := 17) (pc' := 24) rfl (hb hby d1_17) rfl (feq hc17_3).2 (by decide) (by decide) k) ?_
      obtain ⟨T5, X5, e5, st5⟩ := getS2 X0 hx hZ hown (host := "") (Or.inl (hw _ (List.mem_of_getElem? (i := 67) rfl))) Via.refl e0 (S_GENERATED.ext O.2) (g := (mkF m 24 #[.val (.int x), .val (.int ((x &&& (2147483647 : Int32)) - ((x &&& (2147483647 : Int32)) / (3 : Int32)) * (3 : Int32)))] [])) rfl (hb hby d1_24)
      refine Goes.to (T' := T5) (mkF m 27 #[.val (.int x), .val (.int ((x &&& (2147483647 : Int32)) - ((x &&& (2147483647 : Int32)) / (3 : Int32)) * (3 : Int32)))] [(.ref a_GENERATED)]) st5 ?_
      refine Goes.retA X5 hx Bd.notSynchronized rfl Bd.returns rfl (hb hby d1_27) (by decide) (by decide) ?_
      rw [e5]
      exact ⟨by rw [own_fill, if_neg hc8_1, if_neg hc17_3], N0, rfl⟩
theorem pn_java_lang_Record : plainName "java/lang/Record" = true := by first | (simp [plainName, overriddenIn]; done) | decide +kernel
theorem ef_rm_rec (m : MethodId) (x0 : Addr) : entryFrame m #[(.ref x0)] 1 = mkF m 0 #[.val (.ref x0)] [] := by first | (simp [entryFrame, mkF, argsToLocals, Value.category]; done) | rfl
def Q_rm_rec (Z : State) (a : Addr) (h0 : Heap) (n0 : Nat) (v : Option Value) (h : Heap) (L : List Loc) : Prop := v = none ∧ Fr n0 L ∧ h = h0
theorem d9_0 : decode jdk_30_method_1_code 0 = .ok (.aload_n 0, 1) := by decide +kernel
theorem d9_1 : decode jdk_30_method_1_code 1 = .ok (.invokespecial 1, 3) := by decide +kernel
theorem d9_4 : decode jdk_30_method_1_code 4 = .ok (.return_, 1) := by decide +kernel
set_option maxRecDepth 65536 in
set_option maxHeartbeats 40000000 in
theorem rm_rec (l : Launch) (Z : State) (a0 : Array Value) (hw : ∀ d ∈ tables_1, d.before a0 Z = true) (ws : List Jvm.Cond) (a : Addr) (h0 : Heap) (n0 : Nat) (O : Old Z n0 h0) :
    MetFree l (⟨"java/lang/Record", "<init>", "()V"⟩ : MethodName) (head1 (Jvm.Cond.code (⟨"java/lang/Record", "<init>", "()V"⟩ : MethodName) jdk_30_method_1_code 1 none :: ws) ({ frames := 1, cells := 0, slots := 0, locals := 12 } : Room)) (fun aa U => aa = #[(.ref a)] ∧ Z.Warmed39 U.vm ∧ U.heap = h0) (fun _ _ _ _ _ => True) (fun _ U o U' => ∃ v L, o = .returned v ∧ Q_rm_rec Z a h0 n0 v U'.heap L ∧ FrameEnd U o U' L ({ frames := 1, cells := 0, slots := 0, locals := 12 } : Room).cells ({ frames := 1, cells := 0, slots := 0, locals := 12 } : Room).slots) := by
  refine MetFree.of_bodySF (plainFor_of_name pn_java_lang_Record) hisR ?_
  intro p e s m args below meth c s₁ Bd hml0 hP hK
  obtain ⟨rfl, hZ, hh⟩ := hP
  have hx := Bd.exec
  have hby := Bd.bytes
  have hml : c.maxLocals = 1 := hml0
  have hown : s.vm.findClass "java/lang/Record" = some m.cls := findClass_of_methodNamed Bd.named
  have hnm := (name_of_methodNamed Bd.named Bd.method).1
  have X0 : Stand p l e ({ frames := 1, cells := 0, slots := 0, locals := 12 } : Room) s m #[(.ref a)] below meth c s₁ [] 0 0 := Stand.of_body Bd
  have e0 : s₁.heap = h0 := by rw [← hh, Bd.state]; rfl
  have N0 := Fr.nil n0
  show Goes p e below s FrameEnd ({ frames := 1, cells := 0, slots := 0, locals := 12 } : Room).cells ({ frames := 1, cells := 0, slots := 0, locals := 12 } : Room).slots (Q_rm_rec Z a h0 n0) s₁ (entryFrame m #[(.ref a)] 1)
  refine Goes.cast (ef_rm_rec m a) ?_
  refine Goes.to (T' := s₁) (mkF m 1 #[.val (.ref a)] [(.ref a)]) (fun t k => XS.aloadN X0.here hx rfl (hb hby d9_0) rfl rfl k) ?_
  obtain ⟨T1, X1, e1, st1⟩ := initO X0 hx hZ hown (hw _ (List.mem_of_getElem? (i := 53) rfl)) (hw _ (List.mem_of_getElem? (i := 38) rfl)) (hw _ (List.mem_of_getElem? (i := 39) rfl)) e0 (g := (mkF m 1 #[.val (.ref a)] [(.ref a)])) rfl (by rw [hml]; rfl) rfl (hb hby d9_1) (by decide) (W := 0) (by show 2 * 0 + _ ≤ _; exact Nat.le_of_eq rfl) (by decide)
  refine Goes.to (T' := T1) (mkF m 4 #[.val (.ref a)] []) st1 ?_
  refine Goes.retV X1 hx Bd.notSynchronized Bd.returns (hb hby d9_4) (by decide) (by decide) ?_
  rw [e1]
  exact ⟨rfl, N0, rfl⟩
theorem pn_com_example_forest_in_rows_forestinrows_Installation_OwnColumnDefinition : plainName "com/example/forest_in_rows/forestinrows/Installation$OwnColumnDefinition" = true := by first | (simp [plainName, overriddenIn]; done) | decide +kernel
theorem ef_rm_ocd (m : MethodId) (x0 : Addr) (x1 : Addr) (x2 : Addr) (x3 : Addr) (x4 : Addr) : entryFrame m #[(.ref x0), (.ref x1), (.ref x2), (.ref x3), (.ref x4)] 5 = mkF m 0 #[.val (.ref x0), .val (.ref x1), .val (.ref x2), .val (.ref x3), .val (.ref x4)] [] := by first | (simp [entryFrame, mkF, argsToLocals, Value.category]; done) | rfl
def Q_rm_ocd (Z : State) (a i1 i2 i3 i4 : Addr) (u0 u1 u2 u3 : Value) (h0 : Heap) (n0 : Nat) (v : Option Value) (h : Heap) (L : List Loc) : Prop := v = none ∧ Fr n0 L ∧ Keep h0 h [a] ∧ Fld Z h a "com/example/forest_in_rows/forestinrows/Installation$OwnColumnDefinition" "type" "Ljava/lang/String;" (.ref i2) ∧ Fld Z h a "com/example/forest_in_rows/forestinrows/Installation$OwnColumnDefinition" "filling" "Lcom/example/forest_in_rows/forestinrows/CatalogColumn$Filling;" (.ref i3)
theorem d8_0 : decode prog_45_method_1_code 0 = .ok (.aload_n 0, 1) := by decide +kernel
theorem d8_1 : decode prog_45_method_1_code 1 = .ok (.invokespecial 1, 3) := by decide +kernel
theorem pd_5 : parseMethodDescriptor "()V" = some ⟨[], none⟩ := by decide +kernel
theorem d8_4 : decode prog_45_method_1_code 4 = .ok (.aload_n 0, 1) := by decide +kernel
theorem d8_5 : decode prog_45_method_1_code 5 = .ok (.aload_n 1, 1) := by decide +kernel
theorem d8_6 : decode prog_45_method_1_code 6 = .ok (.putfield 7, 3) := by decide +kernel
theorem d8_9 : decode prog_45_method_1_code 9 = .ok (.aload_n 0, 1) := by decide +kernel
theorem d8_10 : decode prog_45_method_1_code 10 = .ok (.aload_n 2, 1) := by decide +kernel
theorem d8_11 : decode prog_45_method_1_code 11 = .ok (.putfield 13, 3) := by decide +kernel
theorem d8_14 : decode prog_45_method_1_code 14 = .ok (.aload_n 0, 1) := by decide +kernel
theorem d8_15 : decode prog_45_method_1_code 15 = .ok (.aload_n 3, 1) := by decide +kernel
theorem d8_16 : decode prog_45_method_1_code 16 = .ok (.putfield 16, 3) := by decide +kernel
theorem d8_19 : decode prog_45_method_1_code 19 = .ok (.aload_n 0, 1) := by decide +kernel
theorem d8_20 : decode prog_45_method_1_code 20 = .ok (.aload 4, 2) := by decide +kernel
theorem d8_22 : decode prog_45_method_1_code 22 = .ok (.putfield 20, 3) := by decide +kernel
theorem d8_25 : decode prog_45_method_1_code 25 = .ok (.return_, 1) := by decide +kernel
set_option maxRecDepth 65536 in
set_option maxHeartbeats 40000000 in
theorem rm_ocd (l : Launch) (Z : State) (a0 : Array Value) (hw : ∀ d ∈ tables_1, d.before a0 Z = true) (ws : List Jvm.Cond) (a i1 i2 i3 i4 : Addr) (u0 u1 u2 u3 : Value) (h0 : Heap) (n0 : Nat) (O : Old Z n0 h0) (F_name_a : Fld Z h0 a "com/example/forest_in_rows/forestinrows/Installation$OwnColumnDefinition" "name" "Ljava/lang/String;" u0) (F_type_a : Fld Z h0 a "com/example/forest_in_rows/forestinrows/Installation$OwnColumnDefinition" "type" "Ljava/lang/String;" u1) (F_filling_a : Fld Z h0 a "com/example/forest_in_rows/forestinrows/Installation$OwnColumnDefinition" "filling" "Lcom/example/forest_in_rows/forestinrows/CatalogColumn$Filling;" u2) (F_constraints_a : Fld Z h0 a "com/example/forest_in_rows/forestinrows/Installation$OwnColumnDefinition" "constraints" "Ljava/lang/String;" u3) (E_a : Exa Z h0 a "com/example/forest_in_rows/forestinrows/Installation$OwnColumnDefinition") (g_a : n0 ≤ a) :
    MetFree l (⟨"com/example/forest_in_rows/forestinrows/Installation$OwnColumnDefinition", "<init>", "(Ljava/lang/String;Ljava/lang/String;Lcom/example/forest_in_rows/forestinrows/CatalogColumn$Filling;Ljava/lang/String;)V"⟩ : MethodName) (head1 (Jvm.Cond.code (⟨"com/example/forest_in_rows/forestinrows/Installation$OwnColumnDefinition", "<init>", "(Ljava/lang/String;Ljava/lang/String;Lcom/example/forest_in_rows/forestinrows/CatalogColumn$Filling;Ljava/lang/String;)V"⟩ : MethodName) prog_45_method_1_code 5 none :: ws) ({ frames := 2, cells := 0, slots := 0, locals := 24 } : Room)) (fun aa U => aa = #[(.ref a), (.ref i1), (.ref i2), (.ref i3), (.ref i4)] ∧ Z.Warmed39 U.vm ∧ U.heap = h0) (fun _ _ _ _ _ => True) (fun _ U o U' => ∃ v L, o = .returned v ∧ Q_rm_ocd Z a i1 i2 i3 i4 u0 u1 u2 u3 h0 n0 v U'.heap L ∧ FrameEnd U o U' L ({ frames := 2, cells := 0, slots := 0, locals := 24 } : Room).cells ({ frames := 2, cells := 0, slots := 0, locals := 24 } : Room).slots) := by
  refine MetFree.of_bodySF (plainFor_of_name pn_com_example_forest_in_rows_forestinrows_Installation_OwnColumnDefinition) hisR ?_
  intro p e s m args below meth c s₁ Bd hml0 hP hK
  obtain ⟨rfl, hZ, hh⟩ := hP
  have hx := Bd.exec
  have hby := Bd.bytes
  have hml : c.maxLocals = 5 := hml0
  have hown : s.vm.findClass "com/example/forest_in_rows/forestinrows/Installation$OwnColumnDefinition" = some m.cls := findClass_of_methodNamed Bd.named
  have hnm := (name_of_methodNamed Bd.named Bd.method).1
  have X0 : Stand p l e ({ frames := 2, cells := 0, slots := 0, locals := 24 } : Room) s m #[(.ref a), (.ref i1), (.ref i2), (.ref i3), (.ref i4)] below meth c s₁ [] 0 0 := Stand.of_body Bd
  have e0 : s₁.heap = h0 := by rw [← hh, Bd.state]; rfl
  have N0 := Fr.nil n0
  have K : Keep h0 h0 [a] := Keep.refl _ _
  show Goes p e below s FrameEnd ({ frames := 2, cells := 0, slots := 0, locals := 24 } : Room).cells ({ frames := 2, cells := 0, slots := 0, locals := 24 } : Room).slots (Q_rm_ocd Z a i1 i2 i3 i4 u0 u1 u2 u3 h0 n0) s₁ (entryFrame m #[(.ref a), (.ref i1), (.ref i2), (.ref i3), (.ref i4)] 5)
  refine Goes.cast (ef_rm_ocd m a i1 i2 i3 i4) ?_
  refine Goes.to (T' := s₁) (mkF m 1 #[.val (.ref a), .val (.ref i1), .val (.ref i2), .val (.ref i3), .val (.ref i4)] [(.ref a)]) (fun t k => XS.aloadN X0.here hx rfl (hb hby d8_0) rfl rfl k) ?_
  obtain ⟨_, _, ⟨T1, L1, k1, n1⟩, -, X1, ⟨Lc1, hQ1, l1, y1, z1⟩, st1⟩ := X0.specialBack hx (y := (⟨"java/lang/Record", "<init>", "()V"⟩ : MethodName)) rfl hown (mvT hZ (hw _ (List.mem_of_getElem? (i := 48) rfl))) (mvT hZ (hw _ (List.mem_of_getElem? (i := 49) rfl))) (mvT hZ (hw _ (List.mem_of_getElem? (i := 52) rfl))) (by decide) (backOf (W := 0) (rm_rec l Z a0 hw [] a h0 n0 O) hZ (hw _ (List.mem_of_getElem? (i := 52) rfl)) (hw _ (List.mem_of_getElem? (i := 51) rfl)) (by decide) (by decide)) (g := (mkF m 1 #[.val (.ref a), .val (.ref i1), .val (.ref i2), .val (.ref i3), .val (.ref i4)] [(.ref a)])) rfl (by rw [hml]; rfl) (Steps.refl _) (a := a) (argsL := []) (rest := []) (lenOf pd_5 rfl) rfl (by show 2 * 0 + _ ≤ _; exact Nat.le_of_eq rfl) (hb hby d8_1) (fun _ _ => ⟨rfl, e0, (by decide : 0 + 0 ≤ _), (by decide : 0 + 0 ≤ _)⟩)
  dsimp only [Pt.U, Pt.locs, Pt.cells, Pt.slots] at X1 l1 y1 z1 st1 hQ1
  subst l1 y1 z1
  obtain ⟨rfl, N1, hs1⟩ := hQ1
  have N1' := Fr.app N0 N1
  refine Goes.to (T' := T1) (mkF m 4 #[.val (.ref a), .val (.ref i1), .val (.ref i2), .val (.ref i3), .val (.ref i4)] []) (fun t k => st1.trans k) ?_
  refine Goes.to (T' := T1) (mkF m 5 #[.val (.ref a), .val (.ref i1), .val (.ref i2), .val (.ref i3), .val (.ref i4)] [(.ref a)]) (fun t k => XS.aloadN X1.here hx rfl (hb hby d8_4) rfl rfl k) ?_
  refine Goes.to (T' := T1) (mkF m 6 #[.val (.ref a), .val (.ref i1), .val (.ref i2), .val (.ref i3), .val (.ref i4)] [(.ref i1), (.ref a)]) (fun t k => XS.aloadN X1.here hx rfl (hb hby d8_5) rfl rfl k) ?_
  obtain ⟨T2, h2, X2, e2, W2, st2⟩ := putF X1 hx hZ hown (host := "") (Or.inl (hw _ (List.mem_of_getElem? (i := 54) rfl))) Via.refl hs1 F_name_a E_a (Or.inr ⟨(hw _ (List.mem_of_getElem? (i := 55) rfl)), rfl, hnm⟩) (hw _ (List.mem_of_getElem? (i := 43) rfl)) (ty := (.object "java/lang/String")) (by decide) rfl rfl (g := (mkF m 6 #[.val (.ref a), .val (.ref i1), .val (.ref i2), .val (.ref i3), .val (.ref i4)] [(.ref i1), (.ref a)])) rfl rfl (hb hby d8_6)
  replace E_a := E_a.wr W2
  replace F_name_a := F_name_a.same W2
  replace F_type_a := F_type_a.other W2 (Or.inr (slot_ne (Or.inr (hw _ (List.mem_of_getElem? (i := 57) rfl))) (Or.inr (hw _ (List.mem_of_getElem? (i := 55) rfl))) (by decide) (t := (.object "java/lang/String")) (t' := (.object "java/lang/String")) (by decide) (by decide)))
  replace F_filling_a := F_filling_a.other W2 (Or.inr (slot_ne (Or.inr (hw _ (List.mem_of_getElem? (i := 59) rfl))) (Or.inr (hw _ (List.mem_of_getElem? (i := 55) rfl))) (by decide) (t := (.object "com/example/forest_in_rows/forestinrows/CatalogColumn$Filling")) (t' := (.object "java/lang/String")) (by decide) (by decide)))
  replace F_constraints_a := F_constraints_a.other W2 (Or.inr (slot_ne (Or.inr (hw _ (List.mem_of_getElem? (i := 61) rfl))) (Or.inr (hw _ (List.mem_of_getElem? (i := 55) rfl))) (by decide) (t := (.object "java/lang/String")) (t' := (.object "java/lang/String")) (by decide) (by decide)))
  replace O := O.wr W2 g_a
  replace K := K.wr W2 (Or.inl (by simp))
  have N2 := Fr.snoc X2 N1' g_a
  refine Goes.to (T' := T2) (mkF m 9 #[.val (.ref a), .val (.ref i1), .val (.ref i2), .val (.ref i3), .val (.ref i4)] []) st2 ?_
  refine Goes.to (T' := T2) (mkF m 10 #[.val (.ref a), .val (.ref i1), .val (.ref i2), .val (.ref i3), .val (.ref i4)] [(.ref a)]) (fun t k => XS.aloadN X2.here hx rfl (hb hby d8_9) rfl rfl k) ?_
  refine Goes.to (T' := T2) (mkF m 11 #[.val (.ref a), .val (.ref i1), .val (.ref i2), .val (.ref i3), .val (.ref i4)] [(.ref i2), (.ref a)]) (fun t k => XS.aloadN X2.here hx rfl (hb hby d8_10) rfl rfl k) ?_
  obtain ⟨T3, h3, X3, e3, W3, st3⟩ := putF X2 hx hZ hown (host := "") (Or.inl (hw _ (List.mem_of_getElem? (i := 56) rfl))) Via.refl e2 F_type_a E_a (Or.inr ⟨(hw _ (List.mem_of_getElem? (i := 57) rfl)), rfl, hnm⟩) (hw _ (List.mem_of_getElem? (i := 43) rfl)) (ty := (.object "java/lang/String")) (by decide) rfl rfl (g := (mkF m 11 #[.val (.ref a), .val (.ref i1), .val (.ref i2), .val (.ref i3), .val (.ref i4)] [(.ref i2), (.ref a)])) rfl rfl (hb hby d8_11)
  replace E_a := E_a.wr W3
  replace F_name_a := F_name_a.other W3 (Or.inr (slot_ne (Or.inr (hw _ (List.mem_of_getElem? (i := 55) rfl))) (Or.inr (hw _ (List.mem_of_getElem? (i := 57) rfl))) (by decide) (t := (.object "java/lang/String")) (t' := (.object "java/lang/String")) (by decide) (by decide)))
  replace F_type_a := F_type_a.same W3
  replace F_filling_a := F_filling_a.other W3 (Or.inr (slot_ne (Or.inr (hw _ (List.mem_of_getElem? (i := 59) rfl))) (Or.inr (hw _ (List.mem_of_getElem? (i := 57) rfl))) (by decide) (t := (.object "com/example/forest_in_rows/forestinrows/CatalogColumn$Filling")) (t' := (.object "java/lang/String")) (by decide) (by decide)))
  replace F_constraints_a := F_constraints_a.other W3 (Or.inr (slot_ne (Or.inr (hw _ (List.mem_of_getElem? (i := 61) rfl))) (Or.inr (hw _ (List.mem_of_getElem? (i := 57) rfl))) (by decide) (t := (.object "java/lang/String")) (t' := (.object "java/lang/String")) (by decide) (by decide)))
  replace O := O.wr W3 g_a
  replace K := K.wr W3 (Or.inl (by simp))
  have N3 := Fr.snoc X3 N2 g_a
  refine Goes.to (T' := T3) (mkF m 14 #[.val (.ref a), .val (.ref i1), .val (.ref i2), .val (.ref i3), .val (.ref i4)] []) st3 ?_
  refine Goes.to (T' := T3) (mkF m 15 #[.val (.ref a), .val (.ref i1), .val (.ref i2), .val (.ref i3), .val (.ref i4)] [(.ref a)]) (fun t k => XS.aloadN X3.here hx rfl (hb hby d8_14) rfl rfl k) ?_
  refine Goes.to (T' := T3) (mkF m 16 #[.val (.ref a), .val (.ref i1), .val (.ref i2), .val (.ref i3), .val (.ref i4)] [(.ref i3), (.ref a)]) (fun t k => XS.aloadN X3.here hx rfl (hb hby d8_15) rfl rfl k) ?_
  obtain ⟨T4, h4, X4, e4, W4, st4⟩ := putF X3 hx hZ hown (host := "") (Or.inl (hw _ (List.mem_of_getElem? (i := 58) rfl))) Via.refl e3 F_filling_a E_a (Or.inr ⟨(hw _ (List.mem_of_getElem? (i := 59) rfl)), rfl, hnm⟩) (hw _ (List.mem_of_getElem? (i := 43) rfl)) (ty := (.object "com/example/forest_in_rows/forestinrows/CatalogColumn$Filling")) (by decide) rfl rfl (g := (mkF m 16 #[.val (.ref a), .val (.ref i1), .val (.ref i2), .val (.ref i3), .val (.ref i4)] [(.ref i3), (.ref a)])) rfl rfl (hb hby d8_16)
  replace E_a := E_a.wr W4
  replace F_name_a := F_name_a.other W4 (Or.inr (slot_ne (Or.inr (hw _ (List.mem_of_getElem? (i := 55) rfl))) (Or.inr (hw _ (List.mem_of_getElem? (i := 59) rfl))) (by decide) (t := (.object "java/lang/String")) (t' := (.object "com/example/forest_in_rows/forestinrows/CatalogColumn$Filling")) (by decide) (by decide)))
  replace F_type_a := F_type_a.other W4 (Or.inr (slot_ne (Or.inr (hw _ (List.mem_of_getElem? (i := 57) rfl))) (Or.inr (hw _ (List.mem_of_getElem? (i := 59) rfl))) (by decide) (t := (.object "java/lang/String")) (t' := (.object "com/example/forest_in_rows/forestinrows/CatalogColumn$Filling")) (by decide) (by decide)))
  replace F_filling_a := F_filling_a.same W4
  replace F_constraints_a := F_constraints_a.other W4 (Or.inr (slot_ne (Or.inr (hw _ (List.mem_of_getElem? (i := 61) rfl))) (Or.inr (hw _ (List.mem_of_getElem? (i := 59) rfl))) (by decide) (t := (.object "java/lang/String")) (t' := (.object "com/example/forest_in_rows/forestinrows/CatalogColumn$Filling")) (by decide) (by decide)))
  replace O := O.wr W4 g_a
  replace K := K.wr W4 (Or.inl (by simp))
  have N4 := Fr.snoc X4 N3 g_a
  refine Goes.to (T' := T4) (mkF m 19 #[.val (.ref a), .val (.ref i1), .val (.ref i2), .val (.ref i3), .val (.ref i4)] []) st4 ?_
  refine Goes.to (T' := T4) (mkF m 20 #[.val (.ref a), .val (.ref i1), .val (.ref i2), .val (.ref i3), .val (.ref i4)] [(.ref a)]) (fun t k => XS.aloadN X4.here hx rfl (hb hby d8_19) rfl rfl k) ?_
  refine Goes.to (T' := T4) (mkF m 22 #[.val (.ref a), .val (.ref i1), .val (.ref i2), .val (.ref i3), .val (.ref i4)] [(.ref i4), (.ref a)]) (fun t k => XS.aload X4.here hx rfl (hb hby d8_20) rfl rfl k) ?_
  obtain ⟨T5, h5, X5, e5, W5, st5⟩ := putF X4 hx hZ hown (host := "") (Or.inl (hw _ (List.mem_of_getElem? (i := 60) rfl))) Via.refl e4 F_constraints_a E_a (Or.inr ⟨(hw _ (List.mem_of_getElem? (i := 61) rfl)), rfl, hnm⟩) (hw _ (List.mem_of_getElem? (i := 43) rfl)) (ty := (.object "java/lang/String")) (by decide) rfl rfl (g := (mkF m 22 #[.val (.ref a), .val (.ref i1), .val (.ref i2), .val (.ref i3), .val (.ref i4)] [(.ref i4), (.ref a)])) rfl rfl (hb hby d8_22)
  replace E_a := E_a.wr W5
  replace F_name_a := F_name_a.other W5 (Or.inr (slot_ne (Or.inr (hw _ (List.mem_of_getElem? (i := 55) rfl))) (Or.inr (hw _ (List.mem_of_getElem? (i := 61) rfl))) (by decide) (t := (.object "java/lang/String")) (t' := (.object "java/lang/String")) (by decide) (by decide)))
  replace F_type_a := F_type_a.other W5 (Or.inr (slot_ne (Or.inr (hw _ (List.mem_of_getElem? (i := 57) rfl))) (Or.inr (hw _ (List.mem_of_getElem? (i := 61) rfl))) (by decide) (t := (.object "java/lang/String")) (t' := (.object "java/lang/String")) (by decide) (by decide)))
  replace F_filling_a := F_filling_a.other W5 (Or.inr (slot_ne (Or.inr (hw _ (List.mem_of_getElem? (i := 59) rfl))) (Or.inr (hw _ (List.mem_of_getElem? (i := 61) rfl))) (by decide) (t := (.object "com/example/forest_in_rows/forestinrows/CatalogColumn$Filling")) (t' := (.object "java/lang/String")) (by decide) (by decide)))
  replace F_constraints_a := F_constraints_a.same W5
  replace O := O.wr W5 g_a
  replace K := K.wr W5 (Or.inl (by simp))
  have N5 := Fr.snoc X5 N4 g_a
  refine Goes.to (T' := T5) (mkF m 25 #[.val (.ref a), .val (.ref i1), .val (.ref i2), .val (.ref i3), .val (.ref i4)] []) st5 ?_
  refine Goes.retV X5 hx Bd.notSynchronized Bd.returns (hb hby d8_25) (by decide) (by decide) ?_
  rw [e5]
  exact ⟨rfl, N5, K, F_type_a, F_filling_a⟩
theorem pn_com_example_forest_in_rows_forestinrows_CatalogColumn : plainName "com/example/forest_in_rows/forestinrows/CatalogColumn" = true := by first | (simp [plainName, overriddenIn]; done) | decide +kernel
theorem ef_rm_ccol (m : MethodId) (x0 : Addr) (x1 : Addr) (x2 : Addr) (x3 : Int32) (x4 : Int32) (x5 : Addr) (x6 : Addr) (x7 : Int32) : entryFrame m #[(.ref x0), (.ref x1), (.ref x2), (.int x3), (.int x4), (.ref x5), (.ref x6), (.int x7)] 8 = mkF m 0 #[.val (.ref x0), .val (.ref x1), .val (.ref x2), .val (.int x3), .val (.int x4), .val (.ref x5), .val (.ref x6), .val (.int x7)] [] := by first | (simp [entryFrame, mkF, argsToLocals, Value.category]; done) | rfl
def Q_rm_ccol (Z : State) (a i1 i2 i3 i4 : Addr) (z1 z2 z3 : Int32) (u0 u1 u2 u3 u4 u5 u6 : Value) (h0 : Heap) (n0 : Nat) (v : Option Value) (h : Heap) (L : List Loc) : Prop := v = none ∧ Fr n0 L ∧ Keep h0 h [a] ∧ Fld Z h a "com/example/forest_in_rows/forestinrows/CatalogColumn" "type" "Ljava/lang/String;" (.ref i1) ∧ Fld Z h a "com/example/forest_in_rows/forestinrows/CatalogColumn" "filling" "Lcom/example/forest_in_rows/forestinrows/CatalogColumn$Filling;" (.ref i2)
theorem d11_0 : decode prog_17_method_1_code 0 = .ok (.aload_n 0, 1) := by decide +kernel
theorem d11_1 : decode prog_17_method_1_code 1 = .ok (.invokespecial 1, 3) := by decide +kernel
theorem d11_4 : decode prog_17_method_1_code 4 = .ok (.aload_n 0, 1) := by decide +kernel
theorem d11_5 : decode prog_17_method_1_code 5 = .ok (.aload_n 1, 1) := by decide +kernel
theorem d11_6 : decode prog_17_method_1_code 6 = .ok (.putfield 7, 3) := by decide +kernel
theorem d11_9 : decode prog_17_method_1_code 9 = .ok (.aload_n 0, 1) := by decide +kernel
theorem d11_10 : decode prog_17_method_1_code 10 = .ok (.aload_n 2, 1) := by decide +kernel
theorem d11_11 : decode prog_17_method_1_code 11 = .ok (.putfield 13, 3) := by decide +kernel
theorem d11_14 : decode prog_17_method_1_code 14 = .ok (.aload_n 0, 1) := by decide +kernel
theorem d11_15 : decode prog_17_method_1_code 15 = .ok (.iload_n 3, 1) := by decide +kernel
theorem d11_16 : decode prog_17_method_1_code 16 = .ok (.putfield 17, 3) := by decide +kernel
theorem d11_19 : decode prog_17_method_1_code 19 = .ok (.aload_n 0, 1) := by decide +kernel
theorem d11_20 : decode prog_17_method_1_code 20 = .ok (.iload 4, 2) := by decide +kernel
theorem d11_22 : decode prog_17_method_1_code 22 = .ok (.putfield 21, 3) := by decide +kernel
theorem d11_25 : decode prog_17_method_1_code 25 = .ok (.aload_n 0, 1) := by decide +kernel
theorem d11_26 : decode prog_17_method_1_code 26 = .ok (.aload 5, 2) := by decide +kernel
theorem d11_28 : decode prog_17_method_1_code 28 = .ok (.putfield 24, 3) := by decide +kernel
theorem d11_31 : decode prog_17_method_1_code 31 = .ok (.aload_n 0, 1) := by decide +kernel
theorem d11_32 : decode prog_17_method_1_code 32 = .ok (.aload 6, 2) := by decide +kernel
theorem d11_34 : decode prog_17_method_1_code 34 = .ok (.putfield 27, 3) := by decide +kernel
theorem d11_37 : decode prog_17_method_1_code 37 = .ok (.aload_n 0, 1) := by decide +kernel
theorem d11_38 : decode prog_17_method_1_code 38 = .ok (.iload 7, 2) := by decide +kernel
theorem d11_40 : decode prog_17_method_1_code 40 = .ok (.putfield 30, 3) := by decide +kernel
theorem d11_43 : decode prog_17_method_1_code 43 = .ok (.return_, 1) := by decide +kernel
set_option maxRecDepth 65536 in
set_option maxHeartbeats 40000000 in
theorem rm_ccol (l : Launch) (Z : State) (a0 : Array Value) (hw : ∀ d ∈ tables_1, d.before a0 Z = true) (ws : List Jvm.Cond) (a i1 i2 i3 i4 : Addr) (z1 z2 z3 : Int32) (u0 u1 u2 u3 u4 u5 u6 : Value) (h0 : Heap) (n0 : Nat) (O : Old Z n0 h0) (F_type_a : Fld Z h0 a "com/example/forest_in_rows/forestinrows/CatalogColumn" "type" "Ljava/lang/String;" u0) (F_filling_a : Fld Z h0 a "com/example/forest_in_rows/forestinrows/CatalogColumn" "filling" "Lcom/example/forest_in_rows/forestinrows/CatalogColumn$Filling;" u1) (F_collatable_a : Fld Z h0 a "com/example/forest_in_rows/forestinrows/CatalogColumn" "collatable" "Z" u2) (F_sortable_a : Fld Z h0 a "com/example/forest_in_rows/forestinrows/CatalogColumn" "sortable" "Z" u3) (F_declaredType_a : Fld Z h0 a "com/example/forest_in_rows/forestinrows/CatalogColumn" "declaredType" "Ljava/lang/String;" u4) (F_baseType_a : Fld Z h0 a "com/example/forest_in_rows/forestinrows/CatalogColumn" "baseType" "Ljava/lang/String;" u5) (F_baseTypeKeepsModifiers_a : Fld Z h0 a "com/example/forest_in_rows/forestinrows/CatalogColumn" "baseTypeKeepsModifiers" "Z" u6) (E_a : Exa Z h0 a "com/example/forest_in_rows/forestinrows/CatalogColumn") (g_a : n0 ≤ a) :
    MetFree l (⟨"com/example/forest_in_rows/forestinrows/CatalogColumn", "<init>", "(Ljava/lang/String;Lcom/example/forest_in_rows/forestinrows/CatalogColumn$Filling;ZZLjava/lang/String;Ljava/lang/String;Z)V"⟩ : MethodName) (head1 (Jvm.Cond.code (⟨"com/example/forest_in_rows/forestinrows/CatalogColumn", "<init>", "(Ljava/lang/String;Lcom/example/forest_in_rows/forestinrows/CatalogColumn$Filling;ZZLjava/lang/String;Ljava/lang/String;Z)V"⟩ : MethodName) prog_17_method_1_code 8 none :: ws) ({ frames := 2, cells := 0, slots := 0, locals := 24 } : Room)) (fun aa U => aa = #[(.ref a), (.ref i1), (.ref i2), (.int z1), (.int z2), (.ref i3), (.ref i4), (.int z3)] ∧ Z.Warmed39 U.vm ∧ U.heap = h0) (fun _ _ _ _ _ => True) (fun _ U o U' => ∃ v L, o = .returned v ∧ Q_rm_ccol Z a i1 i2 i3 i4 z1 z2 z3 u0 u1 u2 u3 u4 u5 u6 h0 n0 v U'.heap L ∧ FrameEnd U o U' L ({ frames := 2, cells := 0, slots := 0, locals := 24 } : Room).cells ({ frames := 2, cells := 0, slots := 0, locals := 24 } : Room).slots) := by
  refine MetFree.of_bodySF (plainFor_of_name pn_com_example_forest_in_rows_forestinrows_CatalogColumn) hisR ?_
  intro p e s m args below meth c s₁ Bd hml0 hP hK
  obtain ⟨rfl, hZ, hh⟩ := hP
  have hx := Bd.exec
  have hby := Bd.bytes
  have hml : c.maxLocals = 8 := hml0
  have hown : s.vm.findClass "com/example/forest_in_rows/forestinrows/CatalogColumn" = some m.cls := findClass_of_methodNamed Bd.named
  have hnm := (name_of_methodNamed Bd.named Bd.method).1
  have X0 : Stand p l e ({ frames := 2, cells := 0, slots := 0, locals := 24 } : Room) s m #[(.ref a), (.ref i1), (.ref i2), (.int z1), (.int z2), (.ref i3), (.ref i4), (.int z3)] below meth c s₁ [] 0 0 := Stand.of_body Bd
  have e0 : s₁.heap = h0 := by rw [← hh, Bd.state]; rfl
  have N0 := Fr.nil n0
  have K : Keep h0 h0 [a] := Keep.refl _ _
  show Goes p e below s FrameEnd ({ frames := 2, cells := 0, slots := 0, locals := 24 } : Room).cells ({ frames := 2, cells := 0, slots := 0, locals := 24 } : Room).slots (Q_rm_ccol Z a i1 i2 i3 i4 z1 z2 z3 u0 u1 u2 u3 u4 u5 u6 h0 n0) s₁ (entryFrame m #[(.ref a), (.ref i1), (.ref i2), (.int z1), (.int z2), (.ref i3), (.ref i4), (.int z3)] 8)
  refine Goes.cast (ef_rm_ccol m a i1 i2 z1 z2 i3 i4 z3) ?_
  refine Goes.to (T' := s₁) (mkF m 1 #[.val (.ref a), .val (.ref i1), .val (.ref i2), .val (.int z1), .val (.int z2), .val (.ref i3), .val (.ref i4), .val (.int z3)] [(.ref a)]) (fun t k => XS.aloadN X0.here hx rfl (hb hby d11_0) rfl rfl k) ?_
  obtain ⟨_, _, ⟨T1, L1, k1, n1⟩, -, X1, ⟨Lc1, hQ1, l1, y1, z1⟩, st1⟩ := X0.specialBack hx (y := (⟨"java/lang/Record", "<init>", "()V"⟩ : MethodName)) rfl hown (mvT hZ (hw _ (List.mem_of_getElem? (i := 75) rfl))) (mvT hZ (hw _ (List.mem_of_getElem? (i := 49) rfl))) (mvT hZ (hw _ (List.mem_of_getElem? (i := 52) rfl))) (by decide) (backOf (W := 0) (rm_rec l Z a0 hw [] a h0 n0 O) hZ (hw _ (List.mem_of_getElem? (i := 52) rfl)) (hw _ (List.mem_of_getElem? (i := 51) rfl)) (by decide) (by decide)) (g := (mkF m 1 #[.val (.ref a), .val (.ref i1), .val (.ref i2), .val (.int z1), .val (.int z2), .val (.ref i3), .val (.ref i4), .val (.int z3)] [(.ref a)])) rfl (by rw [hml]; rfl) (Steps.refl _) (a := a) (argsL := []) (rest := []) (lenOf pd_5 rfl) rfl (by show 2 * 0 + _ ≤ _; exact Nat.le_of_eq rfl) (hb hby d11_1) (fun _ _ => ⟨rfl, e0, (by decide : 0 + 0 ≤ _), (by decide : 0 + 0 ≤ _)⟩)
  dsimp only [Pt.U, Pt.locs, Pt.cells, Pt.slots] at X1 l1 y1 z1 st1 hQ1
  subst l1 y1 z1
  obtain ⟨rfl, N1, hs1⟩ := hQ1
  have N1' := Fr.app N0 N1
  refine Goes.to (T' := T1) (mkF m 4 #[.val (.ref a), .val (.ref i1), .val (.ref i2), .val (.int z1), .val (.int z2), .val (.ref i3), .val (.ref i4), .val (.int z3)] []) (fun t k => st1.trans k) ?_
  refine Goes.to (T' := T1) (mkF m 5 #[.val (.ref a), .val (.ref i1), .val (.ref i2), .val (.int z1), .val (.int z2), .val (.ref i3), .val (.ref i4), .val (.int z3)] [(.ref a)]) (fun t k => XS.aloadN X1.here hx rfl (hb hby d11_4) rfl rfl k) ?_
  refine Goes.to (T' := T1) (mkF m 6 #[.val (.ref a), .val (.ref i1), .val (.ref i2), .val (.int z1), .val (.int z2), .val (.ref i3), .val (.ref i4), .val (.int z3)] [(.ref i1), (.ref a)]) (fun t k => XS.aloadN X1.here hx rfl (hb hby d11_5) rfl rfl k) ?_
  obtain ⟨T2, h2, X2, e2, W2, st2⟩ := putF X1 hx hZ hown (host := "") (Or.inl (hw _ (List.mem_of_getElem? (i := 76) rfl))) Via.refl hs1 F_type_a E_a (Or.inr ⟨(hw _ (List.mem_of_getElem? (i := 77) rfl)), rfl, hnm⟩) (hw _ (List.mem_of_getElem? (i := 70) rfl)) (ty := (.object "java/lang/String")) (by decide) rfl rfl (g := (mkF m 6 #[.val (.ref a), .val (.ref i1), .val (.ref i2), .val (.int z1), .val (.int z2), .val (.ref i3), .val (.ref i4), .val (.int z3)] [(.ref i1), (.ref a)])) rfl rfl (hb hby d11_6)
  replace E_a := E_a.wr W2
  replace F_type_a := F_type_a.same W2
  replace F_filling_a := F_filling_a.other W2 (Or.inr (slot_ne (Or.inr (hw _ (List.mem_of_getElem? (i := 79) rfl))) (Or.inr (hw _ (List.mem_of_getElem? (i := 77) rfl))) (by decide) (t := (.object "com/example/forest_in_rows/forestinrows/CatalogColumn$Filling")) (t' := (.object "java/lang/String")) (by decide) (by decide)))
  replace F_collatable_a := F_collatable_a.other W2 (Or.inr (slot_ne (Or.inr (hw _ (List.mem_of_getElem? (i := 81) rfl))) (Or.inr (hw _ (List.mem_of_getElem? (i := 77) rfl))) (by decide) (t := .boolean) (t' := (.object "java/lang/String")) (by decide) (by decide)))
  replace F_sortable_a := F_sortable_a.other W2 (Or.inr (slot_ne (Or.inr (hw _ (List.mem_of_getElem? (i := 83) rfl))) (Or.inr (hw _ (List.mem_of_getElem? (i := 77) rfl))) (by decide) (t := .boolean) (t' := (.object "java/lang/String")) (by decide) (by decide)))
  replace F_declaredType_a := F_declaredType_a.other W2 (Or.inr (slot_ne (Or.inr (hw _ (List.mem_of_getElem? (i := 85) rfl))) (Or.inr (hw _ (List.mem_of_getElem? (i := 77) rfl))) (by decide) (t := (.object "java/lang/String")) (t' := (.object "java/lang/String")) (by decide) (by decide)))
  replace F_baseType_a := F_baseType_a.other W2 (Or.inr (slot_ne (Or.inr (hw _ (List.mem_of_getElem? (i := 87) rfl))) (Or.inr (hw _ (List.mem_of_getElem? (i := 77) rfl))) (by decide) (t := (.object "java/lang/String")) (t' := (.object "java/lang/String")) (by decide) (by decide)))
  replace F_baseTypeKeepsModifiers_a := F_baseTypeKeepsModifiers_a.other W2 (Or.inr (slot_ne (Or.inr (hw _ (List.mem_of_getElem? (i := 89) rfl))) (Or.inr (hw _ (List.mem_of_getElem? (i := 77) rfl))) (by decide) (t := .boolean) (t' := (.object "java/lang/String")) (by decide) (by decide)))
  replace O := O.wr W2 g_a
  replace K := K.wr W2 (Or.inl (by simp))
  have N2 := Fr.snoc X2 N1' g_a
  refine Goes.to (T' := T2) (mkF m 9 #[.val (.ref a), .val (.ref i1), .val (.ref i2), .val (.int z1), .val (.int z2), .val (.ref i3), .val (.ref i4), .val (.int z3)] []) st2 ?_
  refine Goes.to (T' := T2) (mkF m 10 #[.val (.ref a), .val (.ref i1), .val (.ref i2), .val (.int z1), .val (.int z2), .val (.ref i3), .val (.ref i4), .val (.int z3)] [(.ref a)]) (fun t k => XS.aloadN X2.here hx rfl (hb hby d11_9) rfl rfl k) ?_
  refine Goes.to (T' := T2) (mkF m 11 #[.val (.ref a), .val (.ref i1), .val (.ref i2), .val (.int z1), .val (.int z2), .val (.ref i3), .val (.ref i4), .val (.int z3)] [(.ref i2), (.ref a)]) (fun t k => XS.aloadN X2.here hx rfl (hb hby d11_10) rfl rfl k) ?_
  obtain ⟨T3, h3, X3, e3, W3, st3⟩ := putF X2 hx hZ hown (host := "") (Or.inl (hw _ (List.mem_of_getElem? (i := 78) rfl))) Via.refl e2 F_filling_a E_a (Or.inr ⟨(hw _ (List.mem_of_getElem? (i := 79) rfl)), rfl, hnm⟩) (hw _ (List.mem_of_getElem? (i := 70) rfl)) (ty := (.object "com/example/forest_in_rows/forestinrows/CatalogColumn$Filling")) (by decide) rfl rfl (g := (mkF m 11 #[.val (.ref a), .val (.ref i1), .val (.ref i2), .val (.int z1), .val (.int z2), .val (.ref i3), .val (.ref i4), .val (.int z3)] [(.ref i2), (.ref a)])) rfl rfl (hb hby d11_11)
  replace E_a := E_a.wr W3
  replace F_type_a := F_type_a.other W3 (Or.inr (slot_ne (Or.inr (hw _ (List.mem_of_getElem? (i := 77) rfl))) (Or.inr (hw _ (List.mem_of_getElem? (i := 79) rfl))) (by decide) (t := (.object "java/lang/String")) (t' := (.object "com/example/forest_in_rows/forestinrows/CatalogColumn$Filling")) (by decide) (by decide)))
  replace F_filling_a := F_filling_a.same W3
  replace F_collatable_a := F_collatable_a.other W3 (Or.inr (slot_ne (Or.inr (hw _ (List.mem_of_getElem? (i := 81) rfl))) (Or.inr (hw _ (List.mem_of_getElem? (i := 79) rfl))) (by decide) (t := .boolean) (t' := (.object "com/example/forest_in_rows/forestinrows/CatalogColumn$Filling")) (by decide) (by decide)))
  replace F_sortable_a := F_sortable_a.other W3 (Or.inr (slot_ne (Or.inr (hw _ (List.mem_of_getElem? (i := 83) rfl))) (Or.inr (hw _ (List.mem_of_getElem? (i := 79) rfl))) (by decide) (t := .boolean) (t' := (.object "com/example/forest_in_rows/forestinrows/CatalogColumn$Filling")) (by decide) (by decide)))
  replace F_declaredType_a := F_declaredType_a.other W3 (Or.inr (slot_ne (Or.inr (hw _ (List.mem_of_getElem? (i := 85) rfl))) (Or.inr (hw _ (List.mem_of_getElem? (i := 79) rfl))) (by decide) (t := (.object "java/lang/String")) (t' := (.object "com/example/forest_in_rows/forestinrows/CatalogColumn$Filling")) (by decide) (by decide)))
  replace F_baseType_a := F_baseType_a.other W3 (Or.inr (slot_ne (Or.inr (hw _ (List.mem_of_getElem? (i := 87) rfl))) (Or.inr (hw _ (List.mem_of_getElem? (i := 79) rfl))) (by decide) (t := (.object "java/lang/String")) (t' := (.object "com/example/forest_in_rows/forestinrows/CatalogColumn$Filling")) (by decide) (by decide)))
  replace F_baseTypeKeepsModifiers_a := F_baseTypeKeepsModifiers_a.other W3 (Or.inr (slot_ne (Or.inr (hw _ (List.mem_of_getElem? (i := 89) rfl))) (Or.inr (hw _ (List.mem_of_getElem? (i := 79) rfl))) (by decide) (t := .boolean) (t' := (.object "com/example/forest_in_rows/forestinrows/CatalogColumn$Filling")) (by decide) (by decide)))
  replace O := O.wr W3 g_a
  replace K := K.wr W3 (Or.inl (by simp))
  have N3 := Fr.snoc X3 N2 g_a
  refine Goes.to (T' := T3) (mkF m 14 #[.val (.ref a), .val (.ref i1), .val (.ref i2), .val (.int z1), .val (.int z2), .val (.ref i3), .val (.ref i4), .val (.int z3)] []) st3 ?_
  refine Goes.to (T' := T3) (mkF m 15 #[.val (.ref a), .val (.ref i1), .val (.ref i2), .val (.int z1), .val (.int z2), .val (.ref i3), .val (.ref i4), .val (.int z3)] [(.ref a)]) (fun t k => XS.aloadN X3.here hx rfl (hb hby d11_14) rfl rfl k) ?_
  refine Goes.to (T' := T3) (mkF m 16 #[.val (.ref a), .val (.ref i1), .val (.ref i2), .val (.int z1), .val (.int z2), .val (.ref i3), .val (.ref i4), .val (.int z3)] [(.int z1), (.ref a)]) (fun t k => XS.iloadN X3.here hx rfl (hb hby d11_15) rfl k) ?_
  obtain ⟨T4, h4, X4, e4, W4, st4⟩ := putFN X3 hx hZ hown (hw _ (List.mem_of_getElem? (i := 80) rfl)) Via.refl e3 F_collatable_a E_a (Or.inr ⟨(hw _ (List.mem_of_getElem? (i := 81) rfl)), rfl, hnm⟩) (hw _ (List.mem_of_getElem? (i := 70) rfl)) (ty := .boolean) (v' := .int (nar .boolean z1)) (by decide) rfl (fits_nar_bool _) (g := (mkF m 16 #[.val (.ref a), .val (.ref i1), .val (.ref i2), .val (.int z1), .val (.int z2), .val (.ref i3), .val (.ref i4), .val (.int z3)] [(.int z1), (.ref a)])) rfl rfl (hb hby d11_16)
  replace E_a := E_a.wr W4
  replace F_type_a := F_type_a.other W4 (Or.inr (slot_ne (Or.inr (hw _ (List.mem_of_getElem? (i := 77) rfl))) (Or.inr (hw _ (List.mem_of_getElem? (i := 81) rfl))) (by decide) (t := (.object "java/lang/String")) (t' := .boolean) (by decide) (by decide)))
  replace F_filling_a := F_filling_a.other W4 (Or.inr (slot_ne (Or.inr (hw _ (List.mem_of_getElem? (i := 79) rfl))) (Or.inr (hw _ (List.mem_of_getElem? (i := 81) rfl))) (by decide) (t := (.object "com/example/forest_in_rows/forestinrows/CatalogColumn$Filling")) (t' := .boolean) (by decide) (by decide)))
  replace F_collatable_a := F_collatable_a.same W4
  replace F_sortable_a := F_sortable_a.other W4 (Or.inr (slot_ne (Or.inr (hw _ (List.mem_of_getElem? (i := 83) rfl))) (Or.inr (hw _ (List.mem_of_getElem? (i := 81) rfl))) (by decide) (t := .boolean) (t' := .boolean) (by decide) (by decide)))
  replace F_declaredType_a := F_declaredType_a.other W4 (Or.inr (slot_ne (Or.inr (hw _ (List.mem_of_getElem? (i := 85) rfl))) (Or.inr (hw _ (List.mem_of_getElem? (i := 81) rfl))) (by decide) (t := (.object "java/lang/String")) (t' := .boolean) (by decide) (by decide)))
  replace F_baseType_a := F_baseType_a.other W4 (Or.inr (slot_ne (Or.inr (hw _ (List.mem_of_getElem? (i := 87) rfl))) (Or.inr (hw _ (List.mem_of_getElem? (i := 81) rfl))) (by decide) (t := (.object "java/lang/String")) (t' := .boolean) (by decide) (by decide)))
  replace F_baseTypeKeepsModifiers_a := F_baseTypeKeepsModifiers_a.other W4 (Or.inr (slot_ne (Or.inr (hw _ (List.mem_of_getElem? (i := 89) rfl))) (Or.inr (hw _ (List.mem_of_getElem? (i := 81) rfl))) (by decide) (t := .boolean) (t' := .boolean) (by decide) (by decide)))
  replace O := O.wr W4 g_a
  replace K := K.wr W4 (Or.inl (by simp))
  have N4 := Fr.snoc X4 N3 g_a
  refine Goes.to (T' := T4) (mkF m 19 #[.val (.ref a), .val (.ref i1), .val (.ref i2), .val (.int z1), .val (.int z2), .val (.ref i3), .val (.ref i4), .val (.int z3)] []) st4 ?_
  refine Goes.to (T' := T4) (mkF m 20 #[.val (.ref a), .val (.ref i1), .val (.ref i2), .val (.int z1), .val (.int z2), .val (.ref i3), .val (.ref i4), .val (.int z3)] [(.ref a)]) (fun t k => XS.aloadN X4.here hx rfl (hb hby d11_19) rfl rfl k) ?_
  refine Goes.to (T' := T4) (mkF m 22 #[.val (.ref a), .val (.ref i1), .val (.ref i2), .val (.int z1), .val (.int z2), .val (.ref i3), .val (.ref i4), .val (.int z3)] [(.int z2), (.ref a)]) (fun t k => XS.iload X4.here hx rfl (hb hby d11_20) rfl k) ?_
  obtain ⟨T5, h5, X5, e5, W5, st5⟩ := putFN X4 hx hZ hown (hw _ (List.mem_of_getElem? (i := 82) rfl)) Via.refl e4 F_sortable_a E_a (Or.inr ⟨(hw _ (List.mem_of_getElem? (i := 83) rfl)), rfl, hnm⟩) (hw _ (List.mem_of_getElem? (i := 70) rfl)) (ty := .boolean) (v' := .int (nar .boolean z2)) (by decide) rfl (fits_nar_bool _) (g := (mkF m 22 #[.val (.ref a), .val (.ref i1), .val (.ref i2), .val (.int z1), .val (.int z2), .val (.ref i3), .val (.ref i4), .val (.int z3)] [(.int z2), (.ref a)])) rfl rfl (hb hby d11_22)
  replace E_a := E_a.wr W5
  replace F_type_a := F_type_a.other W5 (Or.inr (slot_ne (Or.inr (hw _ (List.mem_of_getElem? (i := 77) rfl))) (Or.inr (hw _ (List.mem_of_getElem? (i := 83) rfl))) (by decide) (t := (.object "java/lang/String")) (t' := .boolean) (by decide) (by decide)))
  replace F_filling_a := F_filling_a.other W5 (Or.inr (slot_ne (Or.inr (hw _ (List.mem_of_getElem? (i := 79) rfl))) (Or.inr (hw _ (List.mem_of_getElem? (i := 83) rfl))) (by decide) (t := (.object "com/example/forest_in_rows/forestinrows/CatalogColumn$Filling")) (t' := .boolean) (by decide) (by decide)))
  replace F_collatable_a := F_collatable_a.other W5 (Or.inr (slot_ne (Or.inr (hw _ (List.mem_of_getElem? (i := 81) rfl))) (Or.inr (hw _ (List.mem_of_getElem? (i := 83) rfl))) (by decide) (t := .boolean) (t' := .boolean) (by decide) (by decide)))
  replace F_sortable_a := F_sortable_a.same W5
  replace F_declaredType_a := F_declaredType_a.other W5 (Or.inr (slot_ne (Or.inr (hw _ (List.mem_of_getElem? (i := 85) rfl))) (Or.inr (hw _ (List.mem_of_getElem? (i := 83) rfl))) (by decide) (t := (.object "java/lang/String")) (t' := .boolean) (by decide) (by decide)))
  replace F_baseType_a := F_baseType_a.other W5 (Or.inr (slot_ne (Or.inr (hw _ (List.mem_of_getElem? (i := 87) rfl))) (Or.inr (hw _ (List.mem_of_getElem? (i := 83) rfl))) (by decide) (t := (.object "java/lang/String")) (t' := .boolean) (by decide) (by decide)))
  replace F_baseTypeKeepsModifiers_a := F_baseTypeKeepsModifiers_a.other W5 (Or.inr (slot_ne (Or.inr (hw _ (List.mem_of_getElem? (i := 89) rfl))) (Or.inr (hw _ (List.mem_of_getElem? (i := 83) rfl))) (by decide) (t := .boolean) (t' := .boolean) (by decide) (by decide)))
  replace O := O.wr W5 g_a
  replace K := K.wr W5 (Or.inl (by simp))
  have N5 := Fr.snoc X5 N4 g_a
  refine Goes.to (T' := T5) (mkF m 25 #[.val (.ref a), .val (.ref i1), .val (.ref i2), .val (.int z1), .val (.int z2), .val (.ref i3), .val (.ref i4), .val (.int z3)] []) st5 ?_
  refine Goes.to (T' := T5) (mkF m 26 #[.val (.ref a), .val (.ref i1), .val (.ref i2), .val (.int z1), .val (.int z2), .val (.ref i3), .val (.ref i4), .val (.int z3)] [(.ref a)]) (fun t k => XS.aloadN X5.here hx rfl (hb hby d11_25) rfl rfl k) ?_
  refine Goes.to (T' := T5) (mkF m 28 #[.val (.ref a), .val (.ref i1), .val (.ref i2), .val (.int z1), .val (.int z2), .val (.ref i3), .val (.ref i4), .val (.int z3)] [(.ref i3), (.ref a)]) (fun t k => XS.aload X5.here hx rfl (hb hby d11_26) rfl rfl k) ?_
  obtain ⟨T6, h6, X6, e6, W6, st6⟩ := putF X5 hx hZ hown (host := "") (Or.inl (hw _ (List.mem_of_getElem? (i := 84) rfl))) Via.refl e5 F_declaredType_a E_a (Or.inr ⟨(hw _ (List.mem_of_getElem? (i := 85) rfl)), rfl, hnm⟩) (hw _ (List.mem_of_getElem? (i := 70) rfl)) (ty := (.object "java/lang/String")) (by decide) rfl rfl (g := (mkF m 28 #[.val (.ref a), .val (.ref i1), .val (.ref i2), .val (.int z1), .val (.int z2), .val (.ref i3), .val (.ref i4), .val (.int z3)] [(.ref i3), (.ref a)])) rfl rfl (hb hby d11_28)
  replace E_a := E_a.wr W6
  replace F_type_a := F_type_a.other W6 (Or.inr (slot_ne (Or.inr (hw _ (List.mem_of_getElem? (i := 77) rfl))) (Or.inr (hw _ (List.mem_of_getElem? (i := 85) rfl))) (by decide) (t := (.object "java/lang/String")) (t' := (.object "java/lang/String")) (by decide) (by decide)))
  replace F_filling_a := F_filling_a.other W6 (Or.inr (slot_ne (Or.inr (hw _ (List.mem_of_getElem? (i := 79) rfl))) (Or.inr (hw _ (List.mem_of_getElem? (i := 85) rfl))) (by decide) (t := (.object "com/example/forest_in_rows/forestinrows/CatalogColumn$Filling")) (t' := (.object "java/lang/String")) (by decide) (by decide)))
  replace F_collatable_a := F_collatable_a.other W6 (Or.inr (slot_ne (Or.inr (hw _ (List.mem_of_getElem? (i := 81) rfl))) (Or.inr (hw _ (List.mem_of_getElem? (i := 85) rfl))) (by decide) (t := .boolean) (t' := (.object "java/lang/String")) (by decide) (by decide)))
  replace F_sortable_a := F_sortable_a.other W6 (Or.inr (slot_ne (Or.inr (hw _ (List.mem_of_getElem? (i := 83) rfl))) (Or.inr (hw _ (List.mem_of_getElem? (i := 85) rfl))) (by decide) (t := .boolean) (t' := (.object "java/lang/String")) (by decide) (by decide)))
  replace F_declaredType_a := F_declaredType_a.same W6
  replace F_baseType_a := F_baseType_a.other W6 (Or.inr (slot_ne (Or.inr (hw _ (List.mem_of_getElem? (i := 87) rfl))) (Or.inr (hw _ (List.mem_of_getElem? (i := 85) rfl))) (by decide) (t := (.object "java/lang/String")) (t' := (.object "java/lang/String")) (by decide) (by decide)))
  replace F_baseTypeKeepsModifiers_a := F_baseTypeKeepsModifiers_a.other W6 (Or.inr (slot_ne (Or.inr (hw _ (List.mem_of_getElem? (i := 89) rfl))) (Or.inr (hw _ (List.mem_of_getElem? (i := 85) rfl))) (by decide) (t := .boolean) (t' := (.object "java/lang/String")) (by decide) (by decide)))
  replace O := O.wr W6 g_a
  replace K := K.wr W6 (Or.inl (by simp))
  have N6 := Fr.snoc X6 N5 g_a
  refine Goes.to (T' := T6) (mkF m 31 #[.val (.ref a), .val (.ref i1), .val (.ref i2), .val (.int z1), .val (.int z2), .val (.ref i3), .val (.ref i4), .val (.int z3)] []) st6 ?_
  refine Goes.to (T' := T6) (mkF m 32 #[.val (.ref a), .val (.ref i1), .val (.ref i2), .val (.int z1), .val (.int z2), .val (.ref i3), .val (.ref i4), .val (.int z3)] [(.ref a)]) (fun t k => XS.aloadN X6.here hx rfl (hb hby d11_31) rfl rfl k) ?_
  refine Goes.to (T' := T6) (mkF m 34 #[.val (.ref a), .val (.ref i1), .val (.ref i2), .val (.int z1), .val (.int z2), .val (.ref i3), .val (.ref i4), .val (.int z3)] [(.ref i4), (.ref a)]) (fun t k => XS.aload X6.here hx rfl (hb hby d11_32) rfl rfl k) ?_
  obtain ⟨T7, h7, X7, e7, W7, st7⟩ := putF X6 hx hZ hown (host := "") (Or.inl (hw _ (List.mem_of_getElem? (i := 86) rfl))) Via.refl e6 F_baseType_a E_a (Or.inr ⟨(hw _ (List.mem_of_getElem? (i := 87) rfl)), rfl, hnm⟩) (hw _ (List.mem_of_getElem? (i := 70) rfl)) (ty := (.object "java/lang/String")) (by decide) rfl rfl (g := (mkF m 34 #[.val (.ref a), .val (.ref i1), .val (.ref i2), .val (.int z1), .val (.int z2), .val (.ref i3), .val (.ref i4), .val (.int z3)] [(.ref i4), (.ref a)])) rfl rfl (hb hby d11_34)
  replace E_a := E_a.wr W7
  replace F_type_a := F_type_a.other W7 (Or.inr (slot_ne (Or.inr (hw _ (List.mem_of_getElem? (i := 77) rfl))) (Or.inr (hw _ (List.mem_of_getElem? (i := 87) rfl))) (by decide) (t := (.object "java/lang/String")) (t' := (.object "java/lang/String")) (by decide) (by decide)))
  replace F_filling_a := F_filling_a.other W7 (Or.inr (slot_ne (Or.inr (hw _ (List.mem_of_getElem? (i := 79) rfl))) (Or.inr (hw _ (List.mem_of_getElem? (i := 87) rfl))) (by decide) (t := (.object "com/example/forest_in_rows/forestinrows/CatalogColumn$Filling")) (t' := (.object "java/lang/String")) (by decide) (by decide)))
  replace F_collatable_a := F_collatable_a.other W7 (Or.inr (slot_ne (Or.inr (hw _ (List.mem_of_getElem? (i := 81) rfl))) (Or.inr (hw _ (List.mem_of_getElem? (i := 87) rfl))) (by decide) (t := .boolean) (t' := (.object "java/lang/String")) (by decide) (by decide)))
  replace F_sortable_a := F_sortable_a.other W7 (Or.inr (slot_ne (Or.inr (hw _ (List.mem_of_getElem? (i := 83) rfl))) (Or.inr (hw _ (List.mem_of_getElem? (i := 87) rfl))) (by decide) (t := .boolean) (t' := (.object "java/lang/String")) (by decide) (by decide)))
  replace F_declaredType_a := F_declaredType_a.other W7 (Or.inr (slot_ne (Or.inr (hw _ (List.mem_of_getElem? (i := 85) rfl))) (Or.inr (hw _ (List.mem_of_getElem? (i := 87) rfl))) (by decide) (t := (.object "java/lang/String")) (t' := (.object "java/lang/String")) (by decide) (by decide)))
  replace F_baseType_a := F_baseType_a.same W7
  replace F_baseTypeKeepsModifiers_a := F_baseTypeKeepsModifiers_a.other W7 (Or.inr (slot_ne (Or.inr (hw _ (List.mem_of_getElem? (i := 89) rfl))) (Or.inr (hw _ (List.mem_of_getElem? (i := 87) rfl))) (by decide) (t := .boolean) (t' := (.object "java/lang/String")) (by decide) (by decide)))
  replace O := O.wr W7 g_a
  replace K := K.wr W7 (Or.inl (by simp))
  have N7 := Fr.snoc X7 N6 g_a
  refine Goes.to (T' := T7) (mkF m 37 #[.val (.ref a), .val (.ref i1), .val (.ref i2), .val (.int z1), .val (.int z2), .val (.ref i3), .val (.ref i4), .val (.int z3)] []) st7 ?_
  refine Goes.to (T' := T7) (mkF m 38 #[.val (.ref a), .val (.ref i1), .val (.ref i2), .val (.int z1), .val (.int z2), .val (.ref i3), .val (.ref i4), .val (.int z3)] [(.ref a)]) (fun t k => XS.aloadN X7.here hx rfl (hb hby d11_37) rfl rfl k) ?_
  refine Goes.to (T' := T7) (mkF m 40 #[.val (.ref a), .val (.ref i1), .val (.ref i2), .val (.int z1), .val (.int z2), .val (.ref i3), .val (.ref i4), .val (.int z3)] [(.int z3), (.ref a)]) (fun t k => XS.iload X7.here hx rfl (hb hby d11_38) rfl k) ?_
  obtain ⟨T8, h8, X8, e8, W8, st8⟩ := putFN X7 hx hZ hown (hw _ (List.mem_of_getElem? (i := 88) rfl)) Via.refl e7 F_baseTypeKeepsModifiers_a E_a (Or.inr ⟨(hw _ (List.mem_of_getElem? (i := 89) rfl)), rfl, hnm⟩) (hw _ (List.mem_of_getElem? (i := 70) rfl)) (ty := .boolean) (v' := .int (nar .boolean z3)) (by decide) rfl (fits_nar_bool _) (g := (mkF m 40 #[.val (.ref a), .val (.ref i1), .val (.ref i2), .val (.int z1), .val (.int z2), .val (.ref i3), .val (.ref i4), .val (.int z3)] [(.int z3), (.ref a)])) rfl rfl (hb hby d11_40)
  replace E_a := E_a.wr W8
  replace F_type_a := F_type_a.other W8 (Or.inr (slot_ne (Or.inr (hw _ (List.mem_of_getElem? (i := 77) rfl))) (Or.inr (hw _ (List.mem_of_getElem? (i := 89) rfl))) (by decide) (t := (.object "java/lang/String")) (t' := .boolean) (by decide) (by decide)))
  replace F_filling_a := F_filling_a.other W8 (Or.inr (slot_ne (Or.inr (hw _ (List.mem_of_getElem? (i := 79) rfl))) (Or.inr (hw _ (List.mem_of_getElem? (i := 89) rfl))) (by decide) (t := (.object "com/example/forest_in_rows/forestinrows/CatalogColumn$Filling")) (t' := .boolean) (by decide) (by decide)))
  replace F_collatable_a := F_collatable_a.other W8 (Or.inr (slot_ne (Or.inr (hw _ (List.mem_of_getElem? (i := 81) rfl))) (Or.inr (hw _ (List.mem_of_getElem? (i := 89) rfl))) (by decide) (t := .boolean) (t' := .boolean) (by decide) (by decide)))
  replace F_sortable_a := F_sortable_a.other W8 (Or.inr (slot_ne (Or.inr (hw _ (List.mem_of_getElem? (i := 83) rfl))) (Or.inr (hw _ (List.mem_of_getElem? (i := 89) rfl))) (by decide) (t := .boolean) (t' := .boolean) (by decide) (by decide)))
  replace F_declaredType_a := F_declaredType_a.other W8 (Or.inr (slot_ne (Or.inr (hw _ (List.mem_of_getElem? (i := 85) rfl))) (Or.inr (hw _ (List.mem_of_getElem? (i := 89) rfl))) (by decide) (t := (.object "java/lang/String")) (t' := .boolean) (by decide) (by decide)))
  replace F_baseType_a := F_baseType_a.other W8 (Or.inr (slot_ne (Or.inr (hw _ (List.mem_of_getElem? (i := 87) rfl))) (Or.inr (hw _ (List.mem_of_getElem? (i := 89) rfl))) (by decide) (t := (.object "java/lang/String")) (t' := .boolean) (by decide) (by decide)))
  replace F_baseTypeKeepsModifiers_a := F_baseTypeKeepsModifiers_a.same W8
  replace O := O.wr W8 g_a
  replace K := K.wr W8 (Or.inl (by simp))
  have N8 := Fr.snoc X8 N7 g_a
  refine Goes.to (T' := T8) (mkF m 43 #[.val (.ref a), .val (.ref i1), .val (.ref i2), .val (.int z1), .val (.int z2), .val (.ref i3), .val (.ref i4), .val (.int z3)] []) st8 ?_
  refine Goes.retV X8 hx Bd.notSynchronized Bd.returns (hb hby d11_43) (by decide) (by decide) ?_
  rw [e8]
  exact ⟨rfl, N8, K, F_type_a, F_filling_a⟩
theorem ef_rm_gtype (m : MethodId) (x0 : Addr) : entryFrame m #[(.ref x0)] 1 = mkF m 0 #[.val (.ref x0)] [] := by first | (simp [entryFrame, mkF, argsToLocals, Value.category]; done) | rfl
def Q_rm_gtype (Z : State) (a z : Addr) (h0 : Heap) (n0 : Nat) (v : Option Value) (h : Heap) (L : List Loc) : Prop := v = some (.ref z) ∧ Fr n0 L ∧ h = h0
theorem d12_0 : decode prog_17_method_6_code 0 = .ok (.aload_n 0, 1) := by decide +kernel
theorem d12_1 : decode prog_17_method_6_code 1 = .ok (.getfield 7, 3) := by decide +kernel
theorem d12_4 : decode prog_17_method_6_code 4 = .ok (.areturn, 1) := by decide +kernel
set_option maxRecDepth 65536 in
set_option maxHeartbeats 40000000 in
theorem rm_gtype (l : Launch) (Z : State) (a0 : Array Value) (hw : ∀ d ∈ tables_1, d.before a0 Z = true) (ws : List Jvm.Cond) (a z : Addr) (h0 : Heap) (n0 : Nat) (O : Old Z n0 h0) (F_a : Fld Z h0 a "com/example/forest_in_rows/forestinrows/CatalogColumn" "type" "Ljava/lang/String;" (.ref z)) :
    MetFree l (⟨"com/example/forest_in_rows/forestinrows/CatalogColumn", "type", "()Ljava/lang/String;"⟩ : MethodName) (head1 (Jvm.Cond.code (⟨"com/example/forest_in_rows/forestinrows/CatalogColumn", "type", "()Ljava/lang/String;"⟩ : MethodName) prog_17_method_6_code 1 (some (.object "java/lang/String")) :: ws) ({ frames := 0, cells := 0, slots := 0, locals := 0 } : Room)) (fun aa U => aa = #[(.ref a)] ∧ Z.Warmed39 U.vm ∧ U.heap = h0) (fun _ _ _ _ _ => True) (fun _ U o U' => ∃ v L, o = .returned v ∧ Q_rm_gtype Z a z h0 n0 v U'.heap L ∧ FrameEnd U o U' L ({ frames := 0, cells := 0, slots := 0, locals := 0 } : Room).cells ({ frames := 0, cells := 0, slots := 0, locals := 0 } : Room).slots) := by
  refine MetFree.of_bodySF (plainFor_of_name pn_com_example_forest_in_rows_forestinrows_CatalogColumn) hisR ?_
  intro p e s m args below meth c s₁ Bd hml0 hP hK
  obtain ⟨rfl, hZ, hh⟩ := hP
  have hx := Bd.exec
  have hby := Bd.bytes
  have hml : c.maxLocals = 1 := hml0
  have hown : s.vm.findClass "com/example/forest_in_rows/forestinrows/CatalogColumn" = some m.cls := findClass_of_methodNamed Bd.named
  have hnm := (name_of_methodNamed Bd.named Bd.method).1
  have X0 : Stand p l e ({ frames := 0, cells := 0, slots := 0, locals := 0 } : Room) s m #[(.ref a)] below meth c s₁ [] 0 0 := Stand.of_body Bd
  have e0 : s₁.heap = h0 := by rw [← hh, Bd.state]; rfl
  have N0 := Fr.nil n0
  show Goes p e below s FrameEnd ({ frames := 0, cells := 0, slots := 0, locals := 0 } : Room).cells ({ frames := 0, cells := 0, slots := 0, locals := 0 } : Room).slots (Q_rm_gtype Z a z h0 n0) s₁ (entryFrame m #[(.ref a)] 1)
  refine Goes.cast (ef_rm_gtype m a) ?_
  refine Goes.to (T' := s₁) (mkF m 1 #[.val (.ref a)] [(.ref a)]) (fun t k => XS.aloadN X0.here hx rfl (hb hby d12_0) rfl rfl k) ?_
  obtain ⟨T1, X1, e1, st1⟩ := getF X0 hx hZ hown (host := "") (Or.inl (hw _ (List.mem_of_getElem? (i := 76) rfl))) Via.refl e0 F_a (g := (mkF m 1 #[.val (.ref a)] [(.ref a)])) rfl rfl (hb hby d12_1)
  refine Goes.to (T' := T1) (mkF m 4 #[.val (.ref a)] [(.ref z)]) st1 ?_
  refine Goes.retA X1 hx Bd.notSynchronized rfl Bd.returns rfl (hb hby d12_4) (by decide) (by decide) ?_
  rw [e1]
  exact ⟨rfl, N0, rfl⟩
theorem ef_rm_gfilling (m : MethodId) (x0 : Addr) : entryFrame m #[(.ref x0)] 1 = mkF m 0 #[.val (.ref x0)] [] := by first | (simp [entryFrame, mkF, argsToLocals, Value.category]; done) | rfl
def Q_rm_gfilling (Z : State) (a z : Addr) (h0 : Heap) (n0 : Nat) (v : Option Value) (h : Heap) (L : List Loc) : Prop := v = some (.ref z) ∧ Fr n0 L ∧ h = h0
theorem d14_0 : decode prog_17_method_7_code 0 = .ok (.aload_n 0, 1) := by decide +kernel
theorem d14_1 : decode prog_17_method_7_code 1 = .ok (.getfield 13, 3) := by decide +kernel
theorem d14_4 : decode prog_17_method_7_code 4 = .ok (.areturn, 1) := by decide +kernel
set_option maxRecDepth 65536 in
set_option maxHeartbeats 40000000 in
theorem rm_gfilling (l : Launch) (Z : State) (a0 : Array Value) (hw : ∀ d ∈ tables_1, d.before a0 Z = true) (ws : List Jvm.Cond) (a z : Addr) (h0 : Heap) (n0 : Nat) (O : Old Z n0 h0) (F_a : Fld Z h0 a "com/example/forest_in_rows/forestinrows/CatalogColumn" "filling" "Lcom/example/forest_in_rows/forestinrows/CatalogColumn$Filling;" (.ref z)) :
    MetFree l (⟨"com/example/forest_in_rows/forestinrows/CatalogColumn", "filling", "()Lcom/example/forest_in_rows/forestinrows/CatalogColumn$Filling;"⟩ : MethodName) (head1 (Jvm.Cond.code (⟨"com/example/forest_in_rows/forestinrows/CatalogColumn", "filling", "()Lcom/example/forest_in_rows/forestinrows/CatalogColumn$Filling;"⟩ : MethodName) prog_17_method_7_code 1 (some (.object "com/example/forest_in_rows/forestinrows/CatalogColumn$Filling")) :: ws) ({ frames := 0, cells := 0, slots := 0, locals := 0 } : Room)) (fun aa U => aa = #[(.ref a)] ∧ Z.Warmed39 U.vm ∧ U.heap = h0) (fun _ _ _ _ _ => True) (fun _ U o U' => ∃ v L, o = .returned v ∧ Q_rm_gfilling Z a z h0 n0 v U'.heap L ∧ FrameEnd U o U' L ({ frames := 0, cells := 0, slots := 0, locals := 0 } : Room).cells ({ frames := 0, cells := 0, slots := 0, locals := 0 } : Room).slots) := by
  refine MetFree.of_bodySF (plainFor_of_name pn_com_example_forest_in_rows_forestinrows_CatalogColumn) hisR ?_
  intro p e s m args below meth c s₁ Bd hml0 hP hK
  obtain ⟨rfl, hZ, hh⟩ := hP
  have hx := Bd.exec
  have hby := Bd.bytes
  have hml : c.maxLocals = 1 := hml0
  have hown : s.vm.findClass "com/example/forest_in_rows/forestinrows/CatalogColumn" = some m.cls := findClass_of_methodNamed Bd.named
  have hnm := (name_of_methodNamed Bd.named Bd.method).1
  have X0 : Stand p l e ({ frames := 0, cells := 0, slots := 0, locals := 0 } : Room) s m #[(.ref a)] below meth c s₁ [] 0 0 := Stand.of_body Bd
  have e0 : s₁.heap = h0 := by rw [← hh, Bd.state]; rfl
  have N0 := Fr.nil n0
  show Goes p e below s FrameEnd ({ frames := 0, cells := 0, slots := 0, locals := 0 } : Room).cells ({ frames := 0, cells := 0, slots := 0, locals := 0 } : Room).slots (Q_rm_gfilling Z a z h0 n0) s₁ (entryFrame m #[(.ref a)] 1)
  refine Goes.cast (ef_rm_gfilling m a) ?_
  refine Goes.to (T' := s₁) (mkF m 1 #[.val (.ref a)] [(.ref a)]) (fun t k => XS.aloadN X0.here hx rfl (hb hby d14_0) rfl rfl k) ?_
  obtain ⟨T1, X1, e1, st1⟩ := getF X0 hx hZ hown (host := "") (Or.inl (hw _ (List.mem_of_getElem? (i := 78) rfl))) Via.refl e0 F_a (g := (mkF m 1 #[.val (.ref a)] [(.ref a)])) rfl rfl (hb hby d14_1)
  refine Goes.to (T' := T1) (mkF m 4 #[.val (.ref a)] [(.ref z)]) st1 ?_
  refine Goes.retA X1 hx Bd.notSynchronized rfl Bd.returns rfl (hb hby d14_4) (by decide) (by decide) ?_
  rw [e1]
  exact ⟨rfl, N0, rfl⟩
theorem ef_rm_saN (m : MethodId) (x0 : Addr)  : entryFrame m #[(.ref x0), .null] 2 = mkF m 0 #[.val (.ref x0), .val .null] [] := by first | (simp [entryFrame, mkF, argsToLocals, Value.category]; done) | rfl
def Q_rm_saN (Z : State) (a : Addr) (h0 : Heap) (n0 : Nat) (v : Option Value) (h : Heap) (L : List Loc) : Prop := v = some (.int 0) ∧ Fr n0 L ∧ h = h0
theorem d10_0 : decode prog_45_method_2_code 0 = .ok (.aload_n 1, 1) := by decide +kernel
theorem d10_1 : decode prog_45_method_2_code 1 = .ok (.ifnull 32, 3) := by decide +kernel
theorem d10_33 : decode prog_45_method_2_code 33 = .ok (.iconst 0, 1) := by decide +kernel
theorem d10_34 : decode prog_45_method_2_code 34 = .ok (.ireturn, 1) := by decide +kernel
set_option maxRecDepth 65536 in
set_option maxHeartbeats 40000000 in
theorem rm_saN (l : Launch) (Z : State) (a0 : Array Value) (hw : ∀ d ∈ tables_1, d.before a0 Z = true) (ws : List Jvm.Cond) (a : Addr) (h0 : Heap) (n0 : Nat) (O : Old Z n0 h0) :
    MetFree l (⟨"com/example/forest_in_rows/forestinrows/Installation$OwnColumnDefinition", "standsAs", "(Lcom/example/forest_in_rows/forestinrows/CatalogColumn;)Z"⟩ : MethodName) (head1 (Jvm.Cond.code (⟨"com/example/forest_in_rows/forestinrows/Installation$OwnColumnDefinition", "standsAs", "(Lcom/example/forest_in_rows/forestinrows/CatalogColumn;)Z"⟩ : MethodName) prog_45_method_2_code 2 (some .boolean) :: ws) ({ frames := 0, cells := 0, slots := 0, locals := 0 } : Room)) (fun aa U => aa = #[(.ref a), .null] ∧ Z.Warmed39 U.vm ∧ U.heap = h0) (fun _ _ _ _ _ => True) (fun _ U o U' => ∃ v L, o = .returned v ∧ Q_rm_saN Z a h0 n0 v U'.heap L ∧ FrameEnd U o U' L ({ frames := 0, cells := 0, slots := 0, locals := 0 } : Room).cells ({ frames := 0, cells := 0, slots := 0, locals := 0 } : Room).slots) := by
  refine MetFree.of_bodySF (plainFor_of_name pn_com_example_forest_in_rows_forestinrows_Installation_OwnColumnDefinition) hisR ?_
  intro p e s m args below meth c s₁ Bd hml0 hP hK
  obtain ⟨rfl, hZ, hh⟩ := hP
  have hx := Bd.exec
  have hby := Bd.bytes
  have hml : c.maxLocals = 2 := hml0
  have hown : s.vm.findClass "com/example/forest_in_rows/forestinrows/Installation$OwnColumnDefinition" = some m.cls := findClass_of_methodNamed Bd.named
  have hnm := (name_of_methodNamed Bd.named Bd.method).1
  have X0 : Stand p l e ({ frames := 0, cells := 0, slots := 0, locals := 0 } : Room) s m #[(.ref a), .null] below meth c s₁ [] 0 0 := Stand.of_body Bd
  have e0 : s₁.heap = h0 := by rw [← hh, Bd.state]; rfl
  have N0 := Fr.nil n0
  show Goes p e below s FrameEnd ({ frames := 0, cells := 0, slots := 0, locals := 0 } : Room).cells ({ frames := 0, cells := 0, slots := 0, locals := 0 } : Room).slots (Q_rm_saN Z a h0 n0) s₁ (entryFrame m #[(.ref a), .null] 2)
  refine Goes.cast (ef_rm_saN m a) ?_
  refine Goes.to (T' := s₁) (mkF m 1 #[.val (.ref a), .val .null] [.null]) (fun t k => XS.aloadN X0.here hx rfl (hb hby d10_0) rfl rfl k) ?_
  refine Goes.to (T' := s₁) (mkF m 33 #[.val (.ref a), .val .null] []) (fun t k => XS.ifnullYes X0.here hx rfl (pc0 := 1) (pc' := 33) rfl (hb hby d10_1) rfl (by decide) (by decide) k) ?_
  refine Goes.to (T' := s₁) (mkF m 34 #[.val (.ref a), .val .null] [(.int (0 : Int32))]) (fun t k => XS.iconst X0.here hx rfl (hb hby d10_33) k) ?_
  refine Goes.retN X0 hx Bd.notSynchronized (t := .boolean) Bd.returns (by simp) (hb hby d10_34) (by decide) (by decide) ?_
  rw [e0]
  exact ⟨rfl, N0, rfl⟩
theorem ef_rm_saS (m : MethodId) (x0 : Addr) (x1 : Addr) : entryFrame m #[(.ref x0), (.ref x1)] 2 = mkF m 0 #[.val (.ref x0), .val (.ref x1)] [] := by first | (simp [entryFrame, mkF, argsToLocals, Value.category]; done) | rfl
def Q_rm_saS (Z : State) (a b s1 t1 s2 t2 f1 f2 : Addr) (k1 k2 : ClassId) (m1 m2 cz : Int32) (vs1 vs2 : List Value) (cs1 cs2 : List Int32) (h0 : Heap) (n0 : Nat) (v : Option Value) (h : Heap) (L : List Loc) : Prop := v = some (.int (bit (cs2 = cs1 ∧ f2 = f1))) ∧ Fr n0 L ∧ h = h0
theorem d10_4 : decode prog_45_method_2_code 4 = .ok (.aload_n 1, 1) := by decide +kernel
theorem d10_5 : decode prog_45_method_2_code 5 = .ok (.invokevirtual 23, 3) := by decide +kernel
theorem pd_6 : parseMethodDescriptor "()Ljava/lang/String;" = some ⟨[], some (.object "java/lang/String")⟩ := by decide +kernel
theorem d10_8 : decode prog_45_method_2_code 8 = .ok (.aload_n 0, 1) := by decide +kernel
theorem d10_9 : decode prog_45_method_2_code 9 = .ok (.getfield 13, 3) := by decide +kernel
theorem d10_12 : decode prog_45_method_2_code 12 = .ok (.invokevirtual 28, 3) := by decide +kernel
theorem pd_7 : parseMethodDescriptor "(Ljava/lang/Object;)Z" = some ⟨[(.object "java/lang/Object")], some .boolean⟩ := by decide +kernel
theorem d10_15 : decode prog_45_method_2_code 15 = .ok (.ifCond .eq 18, 3) := by decide +kernel
theorem d10_18 : decode prog_45_method_2_code 18 = .ok (.aload_n 1, 1) := by decide +kernel
theorem d10_19 : decode prog_45_method_2_code 19 = .ok (.invokevirtual 34, 3) := by decide +kernel
theorem pd_8 : parseMethodDescriptor "()Lcom/example/forest_in_rows/forestinrows/CatalogColumn$Filling;" = some ⟨[], some (.object "com/example/forest_in_rows/forestinrows/CatalogColumn$Filling")⟩ := by decide +kernel
theorem d10_22 : decode prog_45_method_2_code 22 = .ok (.aload_n 0, 1) := by decide +kernel
theorem d10_23 : decode prog_45_method_2_code 23 = .ok (.getfield 16, 3) := by decide +kernel
theorem d10_26 : decode prog_45_method_2_code 26 = .ok (.if_acmp .ne 7, 3) := by decide +kernel
theorem d10_29 : decode prog_45_method_2_code 29 = .ok (.iconst 1, 1) := by decide +kernel
theorem d10_30 : decode prog_45_method_2_code 30 = .ok (.goto 4, 3) := by decide +kernel
set_option maxRecDepth 65536 in
set_option maxHeartbeats 40000000 in
theorem rm_saS (l : Launch) (Z : State) (a0 : Array Value) (hw : ∀ d ∈ tables_1, d.before a0 Z = true) (ws : List Jvm.Cond) (a b s1 t1 s2 t2 f1 f2 : Addr) (k1 k2 : ClassId) (m1 m2 cz : Int32) (vs1 vs2 : List Value) (cs1 cs2 : List Int32) (h0 : Heap) (n0 : Nat) (O : Old Z n0 h0) (F_ta : Fld Z h0 a "com/example/forest_in_rows/forestinrows/Installation$OwnColumnDefinition" "type" "Ljava/lang/String;" (.ref s1)) (F_fa : Fld Z h0 a "com/example/forest_in_rows/forestinrows/Installation$OwnColumnDefinition" "filling" "Lcom/example/forest_in_rows/forestinrows/CatalogColumn$Filling;" (.ref f1)) (F_tb : Fld Z h0 b "com/example/forest_in_rows/forestinrows/CatalogColumn" "type" "Ljava/lang/String;" (.ref s2)) (F_fb : Fld Z h0 b "com/example/forest_in_rows/forestinrows/CatalogColumn" "filling" "Lcom/example/forest_in_rows/forestinrows/CatalogColumn$Filling;" (.ref f2)) (E_a : Exa Z h0 a "com/example/forest_in_rows/forestinrows/Installation$OwnColumnDefinition") (E_b : Exa Z h0 b "com/example/forest_in_rows/forestinrows/CatalogColumn") (E_s1 : Exa Z h0 s1 "java/lang/String") (F_v1 : Fld Z h0 s1 "java/lang/String" "value" "[B" (.ref t1)) (F_c1 : Fld Z h0 s1 "java/lang/String" "coder" "B" (.int 0)) (V_t1 : Arv Z h0 t1 k1 .byte m1 vs1 (.int 0)) (hcd1 : StrChars.Road.CodA cs1 0 m1 vs1) (hbd1 : ∀ c ∈ cs1, ¬ c < 0 ∧ ¬ (65535 : Int32) < c) (hl1 : cs1.length ≤ 4000) (E_s2 : Exa Z h0 s2 "java/lang/String") (F_v2 : Fld Z h0 s2 "java/lang/String" "value" "[B" (.ref t2)) (F_c2 : Fld Z h0 s2 "java/lang/String" "coder" "B" (.int 0)) (V_t2 : Arv Z h0 t2 k2 .byte m2 vs2 (.int 0)) (hcd2 : StrChars.Road.CodA cs2 0 m2 vs2) (hbd2 : ∀ c ∈ cs2, ¬ c < 0 ∧ ¬ (65535 : Int32) < c) (hl2 : cs2.length ≤ 4000) (S_CS : Sta Z Z.heap "java/lang/String" "COMPACT_STRINGS" "Z" (.int cz)) (hcz : ¬ cz = 0) :
    MetFree l (⟨"com/example/forest_in_rows/forestinrows/Installation$OwnColumnDefinition", "standsAs", "(Lcom/example/forest_in_rows/forestinrows/CatalogColumn;)Z"⟩ : MethodName) (head1 (Jvm.Cond.code (⟨"com/example/forest_in_rows/forestinrows/Installation$OwnColumnDefinition", "standsAs", "(Lcom/example/forest_in_rows/forestinrows/CatalogColumn;)Z"⟩ : MethodName) prog_45_method_2_code 2 (some .boolean) :: ws) ({ frames := 2, cells := 0, slots := 0, locals := 40 } : Room)) (fun aa U => aa = #[(.ref a), (.ref b)] ∧ Z.Warmed39 U.vm ∧ U.heap = h0) (fun _ _ _ _ _ => True) (fun _ U o U' => ∃ v L, o = .returned v ∧ Q_rm_saS Z a b s1 t1 s2 t2 f1 f2 k1 k2 m1 m2 cz vs1 vs2 cs1 cs2 h0 n0 v U'.heap L ∧ FrameEnd U o U' L ({ frames := 2, cells := 0, slots := 0, locals := 40 } : Room).cells ({ frames := 2, cells := 0, slots := 0, locals := 40 } : Room).slots) := by
  refine MetFree.of_bodySF (plainFor_of_name pn_com_example_forest_in_rows_forestinrows_Installation_OwnColumnDefinition) hisR ?_
  intro p e s m args below meth c s₁ Bd hml0 hP hK
  obtain ⟨rfl, hZ, hh⟩ := hP
  have hx := Bd.exec
  have hby := Bd.bytes
  have hml : c.maxLocals = 2 := hml0
  have hown : s.vm.findClass "com/example/forest_in_rows/forestinrows/Installation$OwnColumnDefinition" = some m.cls := findClass_of_methodNamed Bd.named
  have hnm := (name_of_methodNamed Bd.named Bd.method).1
  have X0 : Stand p l e ({ frames := 2, cells := 0, slots := 0, locals := 40 } : Room) s m #[(.ref a), (.ref b)] below meth c s₁ [] 0 0 := Stand.of_body Bd
  have e0 : s₁.heap = h0 := by rw [← hh, Bd.state]; rfl
  have N0 := Fr.nil n0
  show Goes p e below s FrameEnd ({ frames := 2, cells := 0, slots := 0, locals := 40 } : Room).cells ({ frames := 2, cells := 0, slots := 0, locals := 40 } : Room).slots (Q_rm_saS Z a b s1 t1 s2 t2 f1 f2 k1 k2 m1 m2 cz vs1 vs2 cs1 cs2 h0 n0) s₁ (entryFrame m #[(.ref a), (.ref b)] 2)
  refine Goes.cast (ef_rm_saS m a b) ?_
  refine Goes.to (T' := s₁) (mkF m 1 #[.val (.ref a), .val (.ref b)] [(.ref b)]) (fun t k => XS.aloadN X0.here hx rfl (hb hby d10_0) rfl rfl k) ?_
  refine Goes.to (T' := s₁) (mkF m 4 #[.val (.ref a), .val (.ref b)] []) (fun t k => XS.ifnullNo X0.here hx rfl (hb hby d10_1) rfl k) ?_
  refine Goes.to (T' := s₁) (mkF m 5 #[.val (.ref a), .val (.ref b)] [(.ref b)]) (fun t k => XS.aloadN X0.here hx rfl (hb hby d10_4) rfl rfl k) ?_
  obtain ⟨cq1, kq1, q1a, q1b, q1c⟩ := isOf hZ e0 E_b
  obtain ⟨_, _, ⟨T1, L1, k1, n1⟩, -, X1, ⟨Lc1, hQ1, l1, y1, z1⟩, st1⟩ := X0.virtualBack hx (y := (⟨"com/example/forest_in_rows/forestinrows/CatalogColumn", "type", "()Ljava/lang/String;"⟩ : MethodName)) (z := (⟨"com/example/forest_in_rows/forestinrows/CatalogColumn", "type", "()Ljava/lang/String;"⟩ : MethodName)) hown (mvT hZ (hw _ (List.mem_of_getElem? (i := 90) rfl))) (mvT hZ (hw _ (List.mem_of_getElem? (i := 91) rfl))) (notFace_of_selects (args := #[]) (mvT hZ (hw _ (List.mem_of_getElem? (i := 93) rfl)))) (mvT hZ (hw _ (List.mem_of_getElem? (i := 93) rfl))) (mvT hZ (hw _ (List.mem_of_getElem? (i := 92) rfl))) (by decide) (backOf (W := 0) (rm_gtype l Z a0 hw [] b s2 h0 n0 O F_tb) hZ (hw _ (List.mem_of_getElem? (i := 94) rfl)) (hw _ (List.mem_of_getElem? (i := 71) rfl)) (by decide) (by decide)) q1a q1c (g := (mkF m 5 #[.val (.ref a), .val (.ref b)] [(.ref b)])) rfl (by rw [hml]; rfl) (Steps.refl _) (argsL := []) (rest := []) (lenOf pd_6 rfl) rfl (by show 2 * 0 + _ ≤ _; exact Nat.le_of_eq rfl) (hb hby d10_5) (fun _ _ => ⟨rfl, e0, (by decide : 0 + 0 ≤ _), (by decide : 0 + 0 ≤ _)⟩)
  dsimp only [Pt.U, Pt.locs, Pt.cells, Pt.slots] at X1 l1 y1 z1 st1 hQ1
  subst l1 y1 z1
  obtain ⟨rfl, N1, hs1⟩ := hQ1
  have N1' := Fr.app N0 N1
  refine Goes.to (T' := T1) (mkF m 8 #[.val (.ref a), .val (.ref b)] [(.ref s2)]) (fun t k => st1.trans k) ?_
  refine Goes.to (T' := T1) (mkF m 9 #[.val (.ref a), .val (.ref b)] [(.ref a), (.ref s2)]) (fun t k => XS.aloadN X1.here hx rfl (hb hby d10_8) rfl rfl k) ?_
  obtain ⟨T2, X2, e2, st2⟩ := getF X1 hx hZ hown (host := "") (Or.inl (hw _ (List.mem_of_getElem? (i := 56) rfl))) Via.refl hs1 F_ta (g := (mkF m 9 #[.val (.ref a), .val (.ref b)] [(.ref a), (.ref s2)])) rfl rfl (hb hby d10_9)
  refine Goes.to (T' := T2) (mkF m 12 #[.val (.ref a), .val (.ref b)] [(.ref s1), (.ref s2)]) st2 ?_
  obtain ⟨cq3, kq3, q3a, q3b, q3c⟩ := isOf hZ e2 E_s2
  obtain ⟨_, _, ⟨T3, L3, k3, n3⟩, -, X3, ⟨Lc3, hQ3, l3, y3, z3⟩, st3⟩ := X2.virtualBack hx (y := (⟨"java/lang/String", "equals", "(Ljava/lang/Object;)Z"⟩ : MethodName)) (z := (⟨"java/lang/String", "equals", "(Ljava/lang/Object;)Z"⟩ : MethodName)) hown (mvT hZ (hw _ (List.mem_of_getElem? (i := 95) rfl))) (mvT hZ (hw _ (List.mem_of_getElem? (i := 96) rfl))) (notFace_of_selects (args := #[]) (mvT hZ (hw _ (List.mem_of_getElem? (i := 98) rfl)))) (mvT hZ (hw _ (List.mem_of_getElem? (i := 98) rfl))) (mvT hZ (hw _ (List.mem_of_getElem? (i := 97) rfl))) (by decide) (own_eqv (n0 := n0) (StrChars.Road.eqW (W := 0) hZ (fun d hd => hw d (own_wordsE d hd)) (kI := 4) (hw _ (List.mem_of_getElem? (i := 15) rfl)) E_s2 F_v2 F_c2 V_t2 hcd2 hbd2 hl2 E_s1 F_v1 F_c1 V_t1 hcd1 hbd1 hl1 (S_CS.ext O.2) hcz (by decide) (by decide))) q3a q3c (g := (mkF m 12 #[.val (.ref a), .val (.ref b)] [(.ref s1), (.ref s2)])) rfl (by rw [hml]; rfl) (Steps.refl _) (argsL := [(.ref s1)]) (rest := []) (lenOf pd_7 rfl) rfl (by show 2 * 0 + _ ≤ _; exact Nat.le_of_eq rfl) (hb hby d10_12) (fun _ _ => ⟨rfl, e2, (by decide : 0 + 0 ≤ _), (by decide : 0 + 0 ≤ _)⟩)
  dsimp only [Pt.U, Pt.locs, Pt.cells, Pt.slots] at X3 l3 y3 z3 st3 hQ3
  subst l3 y3 z3
  obtain ⟨rfl, N3, hs3⟩ := hQ3
  have N3' := Fr.app N1' N3
  refine Goes.to (T' := T3) (mkF m 15 #[.val (.ref a), .val (.ref b)] [(.int (bit (cs2 = cs1)))]) (fun t k => st3.trans k) ?_
  by_cases hc15_4 : (bit (cs2 = cs1)) = (0 : Int32)
  · refine Goes.to (T' := T3) (mkF m 33 #[.val (.ref a), .val (.ref b)] []) (fun t k => XS.ifYes X3.here hx rfl (pc0 := 15) (pc' := 33) rfl (hb hby d10_15) rfl ((if0 _ _).trans (teq hc15_4).1) (by decide) (by decide) k) ?_
    refine Goes.to (T' := T3) (mkF m 34 #[.val (.ref a), .val (.ref b)] [(.int (0 : Int32))]) (fun t k => XS.iconst X3.here hx rfl (hb hby d10_33) k) ?_
    refine Goes.retN X3 hx Bd.notSynchronized (t := .boolean) Bd.returns (by simp) (hb hby d10_34) (by decide) (by decide) ?_
    rw [hs3]
    exact ⟨by rw [bit_f (fun q => own_bit0 hc15_4 q.1)]; rfl, N3', rfl⟩
  · refine Goes.to (T' := T3) (mkF m 18 #[.val (.ref a), .val (.ref b)] []) (fun t k => XS.ifNo X3.here hx rfl (hb hby d10_15) rfl ((if0 _ _).trans (feq hc15_4).1) k) ?_
    refine Goes.to (T' := T3) (mkF m 19 #[.val (.ref a), .val (.ref b)] [(.ref b)]) (fun t k => XS.aloadN X3.here hx rfl (hb hby d10_18) rfl rfl k) ?_
    obtain ⟨cq5, kq5, q5a, q5b, q5c⟩ := isOf hZ hs3 E_b
    obtain ⟨_, _, ⟨T5, L5, k5, n5⟩, -, X5, ⟨Lc5, hQ5, l5, y5, z5⟩, st5⟩ := X3.virtualBack hx (y := (⟨"com/example/forest_in_rows/forestinrows/CatalogColumn", "filling", "()Lcom/example/forest_in_rows/forestinrows/CatalogColumn$Filling;"⟩ : MethodName)) (z := (⟨"com/example/forest_in_rows/forestinrows/CatalogColumn", "filling", "()Lcom/example/forest_in_rows/forestinrows/CatalogColumn$Filling;"⟩ : MethodName)) hown (mvT hZ (hw _ (List.mem_of_getElem? (i := 100) rfl))) (mvT hZ (hw _ (List.mem_of_getElem? (i := 101) rfl))) (notFace_of_selects (args := #[]) (mvT hZ (hw _ (List.mem_of_getElem? (i := 103) rfl)))) (mvT hZ (hw _ (List.mem_of_getElem? (i := 103) rfl))) (mvT hZ (hw _ (List.mem_of_getElem? (i := 102) rfl))) (by decide) (backOf (W := 0) (rm_gfilling l Z a0 hw [] b f2 h0 n0 O F_fb) hZ (hw _ (List.mem_of_getElem? (i := 104) rfl)) (hw _ (List.mem_of_getElem? (i := 71) rfl)) (by decide) (by decide)) q5a q5c (g := (mkF m 19 #[.val (.ref a), .val (.ref b)] [(.ref b)])) rfl (by rw [hml]; rfl) (Steps.refl _) (argsL := []) (rest := []) (lenOf pd_8 rfl) rfl (by show 2 * 0 + _ ≤ _; exact Nat.le_of_eq rfl) (hb hby d10_19) (fun _ _ => ⟨rfl, hs3, (by decide : 0 + 0 ≤ _), (by decide : 0 + 0 ≤ _)⟩)
    dsimp only [Pt.U, Pt.locs, Pt.cells, Pt.slots] at X5 l5 y5 z5 st5 hQ5
    subst l5 y5 z5
    obtain ⟨rfl, N5, hs5⟩ := hQ5
    have N5' := Fr.app N3' N5
    refine Goes.to (T' := T5) (mkF m 22 #[.val (.ref a), .val (.ref b)] [(.ref f2)]) (fun t k => st5.trans k) ?_
    refine Goes.to (T' := T5) (mkF m 23 #[.val (.ref a), .val (.ref b)] [(.ref a), (.ref f2)]) (fun t k => XS.aloadN X5.here hx rfl (hb hby d10_22) rfl rfl k) ?_
    obtain ⟨T6, X6, e6, st6⟩ := getF X5 hx hZ hown (host := "") (Or.inl (hw _ (List.mem_of_getElem? (i := 58) rfl))) Via.refl hs5 F_fa (g := (mkF m 23 #[.val (.ref a), .val (.ref b)] [(.ref a), (.ref f2)])) rfl rfl (hb hby d10_23)
    refine Goes.to (T' := T6) (mkF m 26 #[.val (.ref a), .val (.ref b)] [(.ref f1), (.ref f2)]) st6 ?_
    by_cases ha26_7 : f2 = f1
    · refine Goes.to (T' := T6) (mkF m 29 #[.val (.ref a), .val (.ref b)] []) (fun t k => Jvm.RoadKit.acmp (g := (mkF m 26 #[.val (.ref a), .val (.ref b)] [(.ref f1), (.ref f2)])) X6 hx rfl rfl rfl (pc0 := 26) (pc' := 29) (same := true) rfl (hb hby d10_26) rfl (decide_eq_true (congrArg Value.ref ha26_7)) (by decide) (by decide) k) ?_
      refine Goes.to (T' := T6) (mkF m 30 #[.val (.ref a), .val (.ref b)] [(.int (1 : Int32))]) (fun t k => XS.iconst X6.here hx rfl (hb hby d10_29) k) ?_
      refine Goes.to (T' := T6) (mkF m 34 #[.val (.ref a), .val (.ref b)] [(.int (1 : Int32))]) (fun t k => XS.goto X6.here hx rfl (pc0 := 30) (pc' := 34) rfl (hb hby d10_30) (by decide) (by decide) k) ?_
      refine Goes.retN X6 hx Bd.notSynchronized (t := .boolean) Bd.returns (by simp) (hb hby d10_34) (by decide) (by decide) ?_
      rw [e6]
      exact ⟨by rw [bit_t ⟨own_bit1 hc15_4, ha26_7⟩]; rfl, N5', rfl⟩
    · refine Goes.to (T' := T6) (mkF m 33 #[.val (.ref a), .val (.ref b)] []) (fun t k => Jvm.RoadKit.acmp (g := (mkF m 26 #[.val (.ref a), .val (.ref b)] [(.ref f1), (.ref f2)])) X6 hx rfl rfl rfl (pc0 := 26) (pc' := 33) (same := false) rfl (hb hby d10_26) rfl (decide_eq_false fun q => ha26_7 (Value.ref.inj q)) (by decide) (by decide) k) ?_
      refine Goes.to (T' := T6) (mkF m 34 #[.val (.ref a), .val (.ref b)] [(.int (0 : Int32))]) (fun t k => XS.iconst X6.here hx rfl (hb hby d10_33) k) ?_
      refine Goes.retN X6 hx Bd.notSynchronized (t := .boolean) Bd.returns (by simp) (hb hby d10_34) (by decide) (by decide) ?_
      rw [e6]
      exact ⟨by rw [bit_f (fun q => ha26_7 q.2)]; rfl, N5', rfl⟩
theorem ef_rm_law (m : MethodId) (x0 : Int32) (x1 : Int32) (x2 : Int32) (x3 : Int32) (x4 : Int32) (x5 : Int32) : entryFrame m #[(.int x0), (.int x1), (.int x2), (.int x3), (.int x4), (.int x5)] maxLocals = mkF m 0 #[.val (.int x0), .val (.int x1), .val (.int x2), .val (.int x3), .val (.int x4), .val (.int x5), .unset, .unset, .unset, .unset, .unset, .unset, .unset, .unset, .unset, .unset, .unset, .unset, .unset, .unset, .unset, .unset, .unset, .unset, .unset] [] := by first | (simp [entryFrame, mkF, argsToLocals, Value.category, maxLocals]; done) | rfl
def Q_rm_law (Z : State) (p0 p1 p2 p3 p4 p5 cz : Int32) (a_WRITTEN a_IDENTITY a_GENERATED : Addr) (h0 : Heap) (n0 : Nat) (v : Option Value) (h : Heap) (L : List Loc) : Prop := v = some (.int 1) ∧ Fr n0 L
theorem pd_9 : parseMethodDescriptor "(I)Lcom/example/forest_in_rows/forestinrows/CatalogColumn$Filling;" = some ⟨[.int], some (.object "com/example/forest_in_rows/forestinrows/CatalogColumn$Filling")⟩ := by decide +kernel
theorem pd_10 : parseMethodDescriptor "(ICC)Ljava/lang/String;" = some ⟨[.int, .char, .char], some (.object "java/lang/String")⟩ := by decide +kernel
theorem pd_11 : parseMethodDescriptor "(Ljava/lang/String;Ljava/lang/String;Lcom/example/forest_in_rows/forestinrows/CatalogColumn$Filling;Ljava/lang/String;)V" = some ⟨[(.object "java/lang/String"), (.object "java/lang/String"), (.object "com/example/forest_in_rows/forestinrows/CatalogColumn$Filling"), (.object "java/lang/String")], none⟩ := by decide +kernel
theorem pd_12 : parseMethodDescriptor "(Ljava/lang/String;Lcom/example/forest_in_rows/forestinrows/CatalogColumn$Filling;ZZLjava/lang/String;Ljava/lang/String;Z)V" = some ⟨[(.object "java/lang/String"), (.object "com/example/forest_in_rows/forestinrows/CatalogColumn$Filling"), .boolean, .boolean, (.object "java/lang/String"), (.object "java/lang/String"), .boolean], none⟩ := by decide +kernel
theorem pd_13 : parseMethodDescriptor "(Lcom/example/forest_in_rows/forestinrows/CatalogColumn;)Z" = some ⟨[(.object "com/example/forest_in_rows/forestinrows/CatalogColumn")], some .boolean⟩ := by decide +kernel
set_option maxRecDepth 65536 in
set_option maxHeartbeats 40000000 in
theorem rm_law (l : Launch) (Z : State) (a0 : Array Value) (hw : ∀ d ∈ tables_1, d.before a0 Z = true) (ws : List Jvm.Cond) (p0 p1 p2 p3 p4 p5 cz : Int32) (a_WRITTEN a_IDENTITY a_GENERATED : Addr) (h0 : Heap) (n0 : Nat) (O : Old Z n0 h0) (S_CS : Sta Z Z.heap "java/lang/String" "COMPACT_STRINGS" "Z" (.int cz)) (hcz : ¬ cz = 0) (S_WRITTEN : Sta Z Z.heap "com/example/forest_in_rows/forestinrows/CatalogColumn$Filling" "WRITTEN" "Lcom/example/forest_in_rows/forestinrows/CatalogColumn$Filling;" (.ref a_WRITTEN)) (S_IDENTITY : Sta Z Z.heap "com/example/forest_in_rows/forestinrows/CatalogColumn$Filling" "IDENTITY" "Lcom/example/forest_in_rows/forestinrows/CatalogColumn$Filling;" (.ref a_IDENTITY)) (S_GENERATED : Sta Z Z.heap "com/example/forest_in_rows/forestinrows/CatalogColumn$Filling" "GENERATED" "Lcom/example/forest_in_rows/forestinrows/CatalogColumn$Filling;" (.ref a_GENERATED)) :
    MetFree l x (head1 (Jvm.Cond.code x code maxLocals ret :: ws) room_1) (fun aa U => aa = #[(.int p0), (.int p1), (.int p2), (.int p3), (.int p4), (.int p5)] ∧ Z.Warmed39 U.vm ∧ U.heap = h0 ∧ CHv Z consts_1 U.vm h0) (fun _ _ _ _ _ => True) (fun _ U o U' => ∃ v L, o = .returned v ∧ Q_rm_law Z p0 p1 p2 p3 p4 p5 cz a_WRITTEN a_IDENTITY a_GENERATED h0 n0 v U'.heap L ∧ ReturnedEndW U o U' L room_1.cells room_1.slots) := by
  refine MetFree.of_bodySF (plainFor_of_name pn_com_example_forest_in_rows_forestinrows_OwnColumnDefinitionStandsAsPinLaw) hisR ?_
  intro p e s m args below meth c s₁ Bd hml0 hP hK
  obtain ⟨rfl, hZ, hh, hC⟩ := hP
  have hx := Bd.exec
  have hby := Bd.bytes
  have hml : c.maxLocals = 25 := hml0
  have hown : s.vm.findClass "com/example/forest_in_rows/forestinrows/OwnColumnDefinitionStandsAsPinLaw" = some m.cls := findClass_of_methodNamed Bd.named
  have hnm := (name_of_methodNamed Bd.named Bd.method).1
  have X0 : Stand p l e room_1 (s.setVm s.vm) m #[(.int p0), (.int p1), (.int p2), (.int p3), (.int p4), (.int p5)] below meth c s₁ [] 0 0 := Stand.of_body Bd
  have e0 : s₁.heap = h0 := by rw [← hh, Bd.state]; rfl
  have N0 := Fr.nil n0
  have hS0 : s.Since s.vm 0 := (State.WarmedH.refl s).since 0
  have hk0 : 0 ≤ h0.size := Nat.zero_le _
  replace hZ : Z.Warmed39 (s.setVm s.vm).vm := hZ
  replace hown : (s.setVm s.vm).vm.findClass "com/example/forest_in_rows/forestinrows/OwnColumnDefinitionStandsAsPinLaw" = some m.cls := hown
  have C : CHr Z consts_1 s.vm s.heap s.vm h0 := by rw [hh]; exact CHr.refl hC
  have hEL : EW Z a0 consts_1 := own_EW hw
  show Goes p e below s ReturnedEndW room_1.cells room_1.slots (Q_rm_law Z p0 p1 p2 p3 p4 p5 cz a_WRITTEN a_IDENTITY a_GENERATED h0 n0) s₁ (entryFrame m #[(.int p0), (.int p1), (.int p2), (.int p3), (.int p4), (.int p5)] maxLocals)
  refine Goes.cast (ef_rm_law m p0 p1 p2 p3 p4 p5) ?_
  refine Goes.to (T' := s₁) (mkF m 1 #[.val (.int p0), .val (.int p1), .val (.int p2), .val (.int p3), .val (.int p4), .val (.int p5), .unset, .unset, .unset, .unset, .unset, .unset, .unset, .unset, .unset, .unset, .unset, .unset, .unset, .unset, .unset, .unset, .unset, .unset, .unset] [(.int p0)]) (fun t k => XS.iloadN X0.here hx rfl (hb hby at_0) rfl k) ?_
  refine Goes.to (T' := s₁) (mkF m 3 #[.val (.int p0), .val (.int p1), .val (.int p2), .val (.int p3), .val (.int p4), .val (.int p5), .unset, .unset, .unset, .unset, .unset, .unset, .unset, .unset, .unset, .unset, .unset, .unset, .unset, .unset, .unset, .unset, .unset, .unset, .unset] [(.int (16 : Int32)), (.int p0)]) (fun t k => XS.bipush X0.here hx rfl (hb hby at_1) k) ?_
  refine Goes.to (T' := s₁) (mkF m 4 #[.val (.int p0), .val (.int p1), .val (.int p2), .val (.int p3), .val (.int p4), .val (.int p5), .unset, .unset, .unset, .unset, .unset, .unset, .unset, .unset, .unset, .unset, .unset, .unset, .unset, .unset, .unset, .unset, .unset, .unset, .unset] [(.int ((p0.toUInt32 >>> ((16 : Int32) &&& 31).toUInt32).toInt32))]) (fun t k => XS.iushr X0.here hx rfl (hb hby at_3) rfl k) ?_
  refine Goes.to (T' := s₁) (mkF m 5 #[.val (.int p0), .val (.int p1), .val (.int p2), .val (.int p3), .val (.int p4), .val (.int p5), .unset, .unset, .unset, .unset, .unset, .unset, .unset, .unset, .unset, .unset, .unset, .unset, .unset, .unset, .unset, .unset, .unset, .unset, .unset] [(.int (3 : Int32)), (.int ((p0.toUInt32 >>> ((16 : Int32) &&& 31).toUInt32).toInt32))]) (fun t k => XS.iconst X0.here hx rfl (hb hby at_4) k) ?_
  refine Goes.to (T' := s₁) (mkF m 6 #[.val (.int p0), .val (.int p1), .val (.int p2), .val (.int p3), .val (.int p4), .val (.int p5), .unset, .unset, .unset, .unset, .unset, .unset, .unset, .unset, .unset, .unset, .unset, .unset, .unset, .unset, .unset, .unset, .unset, .unset, .unset] [(.int (((p0.toUInt32 >>> ((16 : Int32) &&& 31).toUInt32).toInt32) &&& (3 : Int32)))]) (fun t k => XS.iand X0.here hx rfl (hb hby at_5) rfl k) ?_
  refine Goes.to (T' := s₁) (mkF m 7 #[.val (.int p0), .val (.int p1), .val (.int p2), .val (.int p3), .val (.int p4), .val (.int p5), .unset, .unset, .unset, .unset, .unset, .unset, .unset, .unset, .unset, .unset, .unset, .unset, .unset, .unset, .unset, .unset, .unset, .unset, .unset] [(.int (3 : Int32)), (.int (((p0.toUInt32 >>> ((16 : Int32) &&& 31).toUInt32).toInt32) &&& (3 : Int32)))]) (fun t k => XS.iconst X0.here hx rfl (hb hby at_6) k) ?_
  refine Goes.to (T' := s₁) (mkF m 8 #[.val (.int p0), .val (.int p1), .val (.int p2), .val (.int p3), .val (.int p4), .val (.int p5), .unset, .unset, .unset, .unset, .unset, .unset, .unset, .unset, .unset, .unset, .unset, .unset, .unset, .unset, .unset, .unset, .unset, .unset, .unset] [(.int ((((p0.toUInt32 >>> ((16 : Int32) &&& 31).toUInt32).toInt32) &&& (3 : Int32)) - ((((p0.toUInt32 >>> ((16 : Int32) &&& 31).toUInt32).toInt32) &&& (3 : Int32)) / (3 : Int32)) * (3 : Int32)))]) (fun t k => XS.irem X0.here hx rfl (hb hby at_7) rfl (by decide) k) ?_
  obtain ⟨la, la_eq⟩ : ∃ z, z = ((((p0.toUInt32 >>> ((16 : Int32) &&& 31).toUInt32).toInt32) &&& (3 : Int32)) - ((((p0.toUInt32 >>> ((16 : Int32) &&& 31).toUInt32).toInt32) &&& (3 : Int32)) / (3 : Int32)) * (3 : Int32)) := ⟨_, rfl⟩
  rw [← la_eq]
  have hla : la = 0 ∨ la = 1 ∨ la = 2 := by rw [la_eq]; exact own_m3 _
  refine Goes.to (T' := s₁) (mkF m 10 #[.val (.int p0), .val (.int p1), .val (.int p2), .val (.int p3), .val (.int p4), .val (.int p5), .val (.int la), .unset, .unset, .unset, .unset, .unset, .unset, .unset, .unset, .unset, .unset, .unset, .unset, .unset, .unset, .unset, .unset, .unset, .unset] []) (fun t k => XS.istore X0.here hx rfl (hb hby at_8) rfl (l' := #[.val (.int p0), .val (.int p1), .val (.int p2), .val (.int p3), .val (.int p4), .val (.int p5), .val (.int la), .unset, .unset, .unset, .unset, .unset, .unset, .unset, .unset, .unset, .unset, .unset, .unset, .unset, .unset, .unset, .unset, .unset, .unset]) rfl k) ?_
  refine Goes.to (T' := s₁) (mkF m 11 #[.val (.int p0), .val (.int p1), .val (.int p2), .val (.int p3), .val (.int p4), .val (.int p5), .val (.int la), .unset, .unset, .unset, .unset, .unset, .unset, .unset, .unset, .unset, .unset, .unset, .unset, .unset, .unset, .unset, .unset, .unset, .unset] [(.int p0)]) (fun t k => XS.iloadN X0.here hx rfl (hb hby at_10) rfl k) ?_
  refine Goes.to (T' := s₁) (mkF m 14 #[.val (.int p0), .val (.int p1), .val (.int p2), .val (.int p3), .val (.int p4), .val (.int p5), .val (.int la), .unset, .unset, .unset, .unset, .unset, .unset, .unset, .unset, .unset, .unset, .unset, .unset, .unset, .unset, .unset, .unset, .unset, .unset] [(.int (255 : Int32)), (.int p0)]) (fun t k => XS.sipush X0.here hx rfl (hb hby at_11) k) ?_
  refine Goes.to (T' := s₁) (mkF m 15 #[.val (.int p0), .val (.int p1), .val (.int p2), .val (.int p3), .val (.int p4), .val (.int p5), .val (.int la), .unset, .unset, .unset, .unset, .unset, .unset, .unset, .unset, .unset, .unset, .unset, .unset, .unset, .unset, .unset, .unset, .unset, .unset] [(.int (p0 &&& (255 : Int32)))]) (fun t k => XS.iand X0.here hx rfl (hb hby at_14) rfl k) ?_
  refine Goes.to (T' := s₁) (mkF m 16 #[.val (.int p0), .val (.int p1), .val (.int p2), .val (.int p3), .val (.int p4), .val (.int p5), .val (.int la), .unset, .unset, .unset, .unset, .unset, .unset, .unset, .unset, .unset, .unset, .unset, .unset, .unset, .unset, .unset, .unset, .unset, .unset] [(.int ((p0 &&& (255 : Int32)).toUInt32.toUInt16.toUInt32.toInt32))]) (fun t k => XS.i2c X0.here hx rfl (hb hby at_15) rfl k) ?_
  obtain ⟨c0, c0_eq⟩ : ∃ z, z = ((p0 &&& (255 : Int32)).toUInt32.toUInt16.toUInt32.toInt32) := ⟨_, rfl⟩
  rw [← c0_eq]
  have ha0 : ¬ c0 < 0 ∧ ¬ (255 : Int32) < c0 := by rw [c0_eq]; exact own_chb _
  refine Goes.to (T' := s₁) (mkF m 18 #[.val (.int p0), .val (.int p1), .val (.int p2), .val (.int p3), .val (.int p4), .val (.int p5), .val (.int la), .val (.int c0), .unset, .unset, .unset, .unset, .unset, .unset, .unset, .unset, .unset, .unset, .unset, .unset, .unset, .unset, .unset, .unset, .unset] []) (fun t k => XS.istore X0.here hx rfl (hb hby at_16) rfl (l' := #[.val (.int p0), .val (.int p1), .val (.int p2), .val (.int p3), .val (.int p4), .val (.int p5), .val (.int la), .val (.int c0), .unset, .unset, .unset, .unset, .unset, .unset, .unset, .unset, .unset, .unset, .unset, .unset, .unset, .unset, .unset, .unset, .unset]) rfl k) ?_
  refine Goes.to (T' := s₁) (mkF m 19 #[.val (.int p0), .val (.int p1), .val (.int p2), .val (.int p3), .val (.int p4), .val (.int p5), .val (.int la), .val (.int c0), .unset, .unset, .unset, .unset, .unset, .unset, .unset, .unset, .unset, .unset, .unset, .unset, .unset, .unset, .unset, .unset, .unset] [(.int p0)]) (fun t k => XS.iloadN X0.here hx rfl (hb hby at_18) rfl k) ?_
  refine Goes.to (T' := s₁) (mkF m 21 #[.val (.int p0), .val (.int p1), .val (.int p2), .val (.int p3), .val (.int p4), .val (.int p5), .val (.int la), .val (.int c0), .unset, .unset, .unset, .unset, .unset, .unset, .unset, .unset, .unset, .unset, .unset, .unset, .unset, .unset, .unset, .unset, .unset] [(.int (8 : Int32)), (.int p0)]) (fun t k => XS.bipush X0.here hx rfl (hb hby at_19) k) ?_
  refine Goes.to (T' := s₁) (mkF m 22 #[.val (.int p0), .val (.int p1), .val (.int p2), .val (.int p3), .val (.int p4), .val (.int p5), .val (.int la), .val (.int c0), .unset, .unset, .unset, .unset, .unset, .unset, .unset, .unset, .unset, .unset, .unset, .unset, .unset, .unset, .unset, .unset, .unset] [(.int ((p0.toUInt32 >>> ((8 : Int32) &&& 31).toUInt32).toInt32))]) (fun t k => XS.iushr X0.here hx rfl (hb hby at_21) rfl k) ?_
  refine Goes.to (T' := s₁) (mkF m 25 #[.val (.int p0), .val (.int p1), .val (.int p2), .val (.int p3), .val (.int p4), .val (.int p5), .val (.int la), .val (.int c0), .unset, .unset, .unset, .unset, .unset, .unset, .unset, .unset, .unset, .unset, .unset, .unset, .unset, .unset, .unset, .unset, .unset] [(.int (255 : Int32)), (.int ((p0.toUInt32 >>> ((8 : Int32) &&& 31).toUInt32).toInt32))]) (fun t k => XS.sipush X0.here hx rfl (hb hby at_22) k) ?_
  refine Goes.to (T' := s₁) (mkF m 26 #[.val (.int p0), .val (.int p1), .val (.int p2), .val (.int p3), .val (.int p4), .val (.int p5), .val (.int la), .val (.int c0), .unset, .unset, .unset, .unset, .unset, .unset, .unset, .unset, .unset, .unset, .unset, .unset, .unset, .unset, .unset, .unset, .unset] [(.int (((p0.toUInt32 >>> ((8 : Int32) &&& 31).toUInt32).toInt32) &&& (255 : Int32)))]) (fun t k => XS.iand X0.here hx rfl (hb hby at_25) rfl k) ?_
  refine Goes.to (T' := s₁) (mkF m 27 #[.val (.int p0), .val (.int p1), .val (.int p2), .val (.int p3), .val (.int p4), .val (.int p5), .val (.int la), .val (.int c0), .unset, .unset, .unset, .unset, .unset, .unset, .unset, .unset, .unset, .unset, .unset, .unset, .unset, .unset, .unset, .unset, .unset] [(.int ((((p0.toUInt32 >>> ((8 : Int32) &&& 31).toUInt32).toInt32) &&& (255 : Int32)).toUInt32.toUInt16.toUInt32.toInt32))]) (fun t k => XS.i2c X0.here hx rfl (hb hby at_26) rfl k) ?_
  obtain ⟨c1, c1_eq⟩ : ∃ z, z = ((((p0.toUInt32 >>> ((8 : Int32) &&& 31).toUInt32).toInt32) &&& (255 : Int32)).toUInt32.toUInt16.toUInt32.toInt32) := ⟨_, rfl⟩
  rw [← c1_eq]
  have ha1 : ¬ c1 < 0 ∧ ¬ (255 : Int32) < c1 := by rw [c1_eq]; exact own_chb _
  refine Goes.to (T' := s₁) (mkF m 29 #[.val (.int p0), .val (.int p1), .val (.int p2), .val (.int p3), .val (.int p4), .val (.int p5), .val (.int la), .val (.int c0), .val (.int c1), .unset, .unset, .unset, .unset, .unset, .unset, .unset, .unset, .unset, .unset, .unset, .unset, .unset, .unset, .unset, .unset] []) (fun t k => XS.istore X0.here hx rfl (hb hby at_27) rfl (l' := #[.val (.int p0), .val (.int p1), .val (.int p2), .val (.int p3), .val (.int p4), .val (.int p5), .val (.int la), .val (.int c0), .val (.int c1), .unset, .unset, .unset, .unset, .unset, .unset, .unset, .unset, .unset, .unset, .unset, .unset, .unset, .unset, .unset, .unset]) rfl k) ?_
  refine Goes.to (T' := s₁) (mkF m 30 #[.val (.int p0), .val (.int p1), .val (.int p2), .val (.int p3), .val (.int p4), .val (.int p5), .val (.int la), .val (.int c0), .val (.int c1), .unset, .unset, .unset, .unset, .unset, .unset, .unset, .unset, .unset, .unset, .unset, .unset, .unset, .unset, .unset, .unset] [(.int p2)]) (fun t k => XS.iloadN X0.here hx rfl (hb hby at_29) rfl k) ?_
  refine Goes.to (T' := s₁) (mkF m 31 #[.val (.int p0), .val (.int p1), .val (.int p2), .val (.int p3), .val (.int p4), .val (.int p5), .val (.int la), .val (.int c0), .val (.int c1), .unset, .unset, .unset, .unset, .unset, .unset, .unset, .unset, .unset, .unset, .unset, .unset, .unset, .unset, .unset, .unset] [(.int (1 : Int32)), (.int p2)]) (fun t k => XS.iconst X0.here hx rfl (hb hby at_30) k) ?_
  refine Goes.to (T' := s₁) (mkF m 32 #[.val (.int p0), .val (.int p1), .val (.int p2), .val (.int p3), .val (.int p4), .val (.int p5), .val (.int la), .val (.int c0), .val (.int c1), .unset, .unset, .unset, .unset, .unset, .unset, .unset, .unset, .unset, .unset, .unset, .unset, .unset, .unset, .unset, .unset] [(.int (p2 &&& (1 : Int32)))]) (fun t k => XS.iand X0.here hx rfl (hb hby at_31) rfl k) ?_
  have D32_1 : ∀ t, Steps p.tables e below (s₁.setTop (mkF m 48 #[.val (.int p0), .val (.int p1), .val (.int p2), .val (.int p3), .val (.int p4), .val (.int p5), .val (.int la), .val (.int c0), .val (.int c1), .unset, .unset, .unset, .unset, .unset, .unset, .unset, .unset, .unset, .unset, .unset, .unset, .unset, .unset, .unset, .unset] [(.int (if (p2 &&& (1 : Int32)) = (0 : Int32) then ((((p1.toUInt32 >>> ((16 : Int32) &&& 31).toUInt32).toInt32) &&& (3 : Int32)) - ((((p1.toUInt32 >>> ((16 : Int32) &&& 31).toUInt32).toInt32) &&& (3 : Int32)) / (3 : Int32)) * (3 : Int32)) else la))])) t → Steps p.tables e below (s₁.setTop (mkF m 32 #[.val (.int p0), .val (.int p1), .val (.int p2), .val (.int p3), .val (.int p4), .val (.int p5), .val (.int la), .val (.int c0), .val (.int c1), .unset, .unset, .unset, .unset, .unset, .unset, .unset, .unset, .unset, .unset, .unset, .unset, .unset, .unset, .unset, .unset] [(.int (p2 &&& (1 : Int32)))])) t := by
    intro t k
    by_cases hq : (p2 &&& (1 : Int32)) = (0 : Int32)
    · simp only [if_pos hq] at k
      refine XS.ifYes X0.here hx rfl (pc0 := 32) (pc' := 40) rfl (hb hby at_32) rfl ((if0 _ _).trans (teq hq).1) (by decide) (by decide) ?_
      show Steps p.tables e below (s₁.setTop (mkF m 40 #[.val (.int p0), .val (.int p1), .val (.int p2), .val (.int p3), .val (.int p4), .val (.int p5), .val (.int la), .val (.int c0), .val (.int c1), .unset, .unset, .unset, .unset, .unset, .unset, .unset, .unset, .unset, .unset, .unset, .unset, .unset, .unset, .unset, .unset] [])) _
      refine XS.iloadN X0.here hx rfl (hb hby at_40) rfl ?_
      show Steps p.tables e below (s₁.setTop (mkF m 41 #[.val (.int p0), .val (.int p1), .val (.int p2), .val (.int p3), .val (.int p4), .val (.int p5), .val (.int la), .val (.int c0), .val (.int c1), .unset, .unset, .unset, .unset, .unset, .unset, .unset, .unset, .unset, .unset, .unset, .unset, .unset, .unset, .unset, .unset] [(.int p1)])) _
      refine XS.bipush X0.here hx rfl (hb hby at_41) ?_
      show Steps p.tables e below (s₁.setTop (mkF m 43 #[.val (.int p0), .val (.int p1), .val (.int p2), .val (.int p3), .val (.int p4), .val (.int p5), .val (.int la), .val (.int c0), .val (.int c1), .unset, .unset, .unset, .unset, .unset, .unset, .unset, .unset, .unset, .unset, .unset, .unset, .unset, .unset, .unset, .unset] [(.int (16 : Int32)), (.int p1)])) _
      refine XS.iushr X0.here hx rfl (hb hby at_43) rfl ?_
      show Steps p.tables e below (s₁.setTop (mkF m 44 #[.val (.int p0), .val (.int p1), .val (.int p2), .val (.int p3), .val (.int p4), .val (.int p5), .val (.int la), .val (.int c0), .val (.int c1), .unset, .unset, .unset, .unset, .unset, .unset, .unset, .unset, .unset, .unset, .unset, .unset, .unset, .unset, .unset, .unset] [(.int ((p1.toUInt32 >>> ((16 : Int32) &&& 31).toUInt32).toInt32))])) _
      refine XS.iconst X0.here hx rfl (hb hby at_44) ?_
      show Steps p.tables e below (s₁.setTop (mkF m 45 #[.val (.int p0), .val (.int p1), .val (.int p2), .val (.int p3), .val (.int p4), .val (.int p5), .val (.int la), .val (.int c0), .val (.int c1), .unset, .unset, .unset, .unset, .unset, .unset, .unset, .unset, .unset, .unset, .unset, .unset, .unset, .unset, .unset, .unset] [(.int (3 : Int32)), (.int ((p1.toUInt32 >>> ((16 : Int32) &&& 31).toUInt32).toInt32))])) _
      refine XS.iand X0.here hx rfl (hb hby at_45) rfl ?_
      show Steps p.tables e below (s₁.setTop (mkF m 46 #[.val (.int p0), .val (.int p1), .val (.int p2), .val (.int p3), .val (.int p4), .val (.int p5), .val (.int la), .val (.int c0), .val (.int c1), .unset, .unset, .unset, .unset, .unset, .unset, .unset, .unset, .unset, .unset, .unset, .unset, .unset, .unset, .unset, .unset] [(.int (((p1.toUInt32 >>> ((16 : Int32) &&& 31).toUInt32).toInt32) &&& (3 : Int32)))])) _
      refine XS.iconst X0.here hx rfl (hb hby at_46) ?_
      show Steps p.tables e below (s₁.setTop (mkF m 47 #[.val (.int p0), .val (.int p1), .val (.int p2), .val (.int p3), .val (.int p4), .val (.int p5), .val (.int la), .val (.int c0), .val (.int c1), .unset, .unset, .unset, .unset, .unset, .unset, .unset, .unset, .unset, .unset, .unset, .unset, .unset, .unset, .unset, .unset] [(.int (3 : Int32)), (.int (((p1.toUInt32 >>> ((16 : Int32) &&& 31).toUInt32).toInt32) &&& (3 : Int32)))])) _
      refine XS.irem X0.here hx rfl (hb hby at_47) rfl (by decide) ?_
      show Steps p.tables e below (s₁.setTop (mkF m 48 #[.val (.int p0), .val (.int p1), .val (.int p2), .val (.int p3), .val (.int p4), .val (.int p5), .val (.int la), .val (.int c0), .val (.int c1), .unset, .unset, .unset, .unset, .unset, .unset, .unset, .unset, .unset, .unset, .unset, .unset, .unset, .unset, .unset, .unset] [(.int ((((p1.toUInt32 >>> ((16 : Int32) &&& 31).toUInt32).toInt32) &&& (3 : Int32)) - ((((p1.toUInt32 >>> ((16 : Int32) &&& 31).toUInt32).toInt32) &&& (3 : Int32)) / (3 : Int32)) * (3 : Int32)))])) _
      exact k
    · simp only [if_neg hq] at k
      refine XS.ifNo X0.here hx rfl (hb hby at_32) rfl ((if0 _ _).trans (feq hq).1) ?_
      show Steps p.tables e below (s₁.setTop (mkF m 35 #[.val (.int p0), .val (.int p1), .val (.int p2), .val (.int p3), .val (.int p4), .val (.int p5), .val (.int la), .val (.int c0), .val (.int c1), .unset, .unset, .unset, .unset, .unset, .unset, .unset, .unset, .unset, .unset, .unset, .unset, .unset, .unset, .unset, .unset] [])) _
      refine XS.iload X0.here hx rfl (hb hby at_35) rfl ?_
      show Steps p.tables e below (s₁.setTop (mkF m 37 #[.val (.int p0), .val (.int p1), .val (.int p2), .val (.int p3), .val (.int p4), .val (.int p5), .val (.int la), .val (.int c0), .val (.int c1), .unset, .unset, .unset, .unset, .unset, .unset, .unset, .unset, .unset, .unset, .unset, .unset, .unset, .unset, .unset, .unset] [(.int la)])) _
      refine XS.goto X0.here hx rfl (pc0 := 37) (pc' := 48) rfl (hb hby at_37) (by decide) (by decide) ?_
      show Steps p.tables e below (s₁.setTop (mkF m 48 #[.val (.int p0), .val (.int p1), .val (.int p2), .val (.int p3), .val (.int p4), .val (.int p5), .val (.int la), .val (.int c0), .val (.int c1), .unset, .unset, .unset, .unset, .unset, .unset, .unset, .unset, .unset, .unset, .unset, .unset, .unset, .unset, .unset, .unset] [(.int la)])) _
      exact k
  refine Goes.to (T' := s₁) (mkF m 48 #[.val (.int p0), .val (.int p1), .val (.int p2), .val (.int p3), .val (.int p4), .val (.int p5), .val (.int la), .val (.int c0), .val (.int c1), .unset, .unset, .unset, .unset, .unset, .unset, .unset, .unset, .unset, .unset, .unset, .unset, .unset, .unset, .unset, .unset] [(.int (if (p2 &&& (1 : Int32)) = (0 : Int32) then ((((p1.toUInt32 >>> ((16 : Int32) &&& 31).toUInt32).toInt32) &&& (3 : Int32)) - ((((p1.toUInt32 >>> ((16 : Int32) &&& 31).toUInt32).toInt32) &&& (3 : Int32)) / (3 : Int32)) * (3 : Int32)) else la))]) D32_1 ?_
  obtain ⟨lb, lb_eq⟩ : ∃ z, z = (if (p2 &&& (1 : Int32)) = (0 : Int32) then ((((p1.toUInt32 >>> ((16 : Int32) &&& 31).toUInt32).toInt32) &&& (3 : Int32)) - ((((p1.toUInt32 >>> ((16 : Int32) &&& 31).toUInt32).toInt32) &&& (3 : Int32)) / (3 : Int32)) * (3 : Int32)) else la) := ⟨_, rfl⟩
  rw [← lb_eq]
  have hlb : lb = 0 ∨ lb = 1 ∨ lb = 2 := by rw [lb_eq]; split <;> first | exact hla | exact own_m3 _
  refine Goes.to (T' := s₁) (mkF m 50 #[.val (.int p0), .val (.int p1), .val (.int p2), .val (.int p3), .val (.int p4), .val (.int p5), .val (.int la), .val (.int c0), .val (.int c1), .val (.int lb), .unset, .unset, .unset, .unset, .unset, .unset, .unset, .unset, .unset, .unset, .unset, .unset, .unset, .unset, .unset] []) (fun t k => XS.istore X0.here hx rfl (hb hby at_48) rfl (l' := #[.val (.int p0), .val (.int p1), .val (.int p2), .val (.int p3), .val (.int p4), .val (.int p5), .val (.int la), .val (.int c0), .val (.int c1), .val (.int lb), .unset, .unset, .unset, .unset, .unset, .unset, .unset, .unset, .unset, .unset, .unset, .unset, .unset, .unset, .unset]) rfl k) ?_
  refine Goes.to (T' := s₁) (mkF m 51 #[.val (.int p0), .val (.int p1), .val (.int p2), .val (.int p3), .val (.int p4), .val (.int p5), .val (.int la), .val (.int c0), .val (.int c1), .val (.int lb), .unset, .unset, .unset, .unset, .unset, .unset, .unset, .unset, .unset, .unset, .unset, .unset, .unset, .unset, .unset] [(.int p2)]) (fun t k => XS.iloadN X0.here hx rfl (hb hby at_50) rfl k) ?_
  refine Goes.to (T' := s₁) (mkF m 52 #[.val (.int p0), .val (.int p1), .val (.int p2), .val (.int p3), .val (.int p4), .val (.int p5), .val (.int la), .val (.int c0), .val (.int c1), .val (.int lb), .unset, .unset, .unset, .unset, .unset, .unset, .unset, .unset, .unset, .unset, .unset, .unset, .unset, .unset, .unset] [(.int (2 : Int32)), (.int p2)]) (fun t k => XS.iconst X0.here hx rfl (hb hby at_51) k) ?_
  refine Goes.to (T' := s₁) (mkF m 53 #[.val (.int p0), .val (.int p1), .val (.int p2), .val (.int p3), .val (.int p4), .val (.int p5), .val (.int la), .val (.int c0), .val (.int c1), .val (.int lb), .unset, .unset, .unset, .unset, .unset, .unset, .unset, .unset, .unset, .unset, .unset, .unset, .unset, .unset, .unset] [(.int (p2 &&& (2 : Int32)))]) (fun t k => XS.iand X0.here hx rfl (hb hby at_52) rfl k) ?_
  have D53_3 : ∀ t, Steps p.tables e below (s₁.setTop (mkF m 67 #[.val (.int p0), .val (.int p1), .val (.int p2), .val (.int p3), .val (.int p4), .val (.int p5), .val (.int la), .val (.int c0), .val (.int c1), .val (.int lb), .unset, .unset, .unset, .unset, .unset, .unset, .unset, .unset, .unset, .unset, .unset, .unset, .unset, .unset, .unset] [(.int (if (p2 &&& (2 : Int32)) = (0 : Int32) then ((p1 &&& (255 : Int32)).toUInt32.toUInt16.toUInt32.toInt32) else c0))])) t → Steps p.tables e below (s₁.setTop (mkF m 53 #[.val (.int p0), .val (.int p1), .val (.int p2), .val (.int p3), .val (.int p4), .val (.int p5), .val (.int la), .val (.int c0), .val (.int c1), .val (.int lb), .unset, .unset, .unset, .unset, .unset, .unset, .unset, .unset, .unset, .unset, .unset, .unset, .unset, .unset, .unset] [(.int (p2 &&& (2 : Int32)))])) t := by
    intro t k
    by_cases hq : (p2 &&& (2 : Int32)) = (0 : Int32)
    · simp only [if_pos hq] at k
      refine XS.ifYes X0.here hx rfl (pc0 := 53) (pc' := 61) rfl (hb hby at_53) rfl ((if0 _ _).trans (teq hq).1) (by decide) (by decide) ?_
      show Steps p.tables e below (s₁.setTop (mkF m 61 #[.val (.int p0), .val (.int p1), .val (.int p2), .val (.int p3), .val (.int p4), .val (.int p5), .val (.int la), .val (.int c0), .val (.int c1), .val (.int lb), .unset, .unset, .unset, .unset, .unset, .unset, .unset, .unset, .unset, .unset, .unset, .unset, .unset, .unset, .unset] [])) _
      refine XS.iloadN X0.here hx rfl (hb hby at_61) rfl ?_
      show Steps p.tables e below (s₁.setTop (mkF m 62 #[.val (.int p0), .val (.int p1), .val (.int p2), .val (.int p3), .val (.int p4), .val (.int p5), .val (.int la), .val (.int c0), .val (.int c1), .val (.int lb), .unset, .unset, .unset, .unset, .unset, .unset, .unset, .unset, .unset, .unset, .unset, .unset, .unset, .unset, .unset] [(.int p1)])) _
      refine XS.sipush X0.here hx rfl (hb hby at_62) ?_
      show Steps p.tables e below (s₁.setTop (mkF m 65 #[.val (.int p0), .val (.int p1), .val (.int p2), .val (.int p3), .val (.int p4), .val (.int p5), .val (.int la), .val (.int c0), .val (.int c1), .val (.int lb), .unset, .unset, .unset, .unset, .unset, .unset, .unset, .unset, .unset, .unset, .unset, .unset, .unset, .unset, .unset] [(.int (255 : Int32)), (.int p1)])) _
      refine XS.iand X0.here hx rfl (hb hby at_65) rfl ?_
      show Steps p.tables e below (s₁.setTop (mkF m 66 #[.val (.int p0), .val (.int p1), .val (.int p2), .val (.int p3), .val (.int p4), .val (.int p5), .val (.int la), .val (.int c0), .val (.int c1), .val (.int lb), .unset, .unset, .unset, .unset, .unset, .unset, .unset, .unset, .unset, .unset, .unset, .unset, .unset, .unset, .unset] [(.int (p1 &&& (255 : Int32)))])) _
      refine XS.i2c X0.here hx rfl (hb hby at_66) rfl ?_
      show Steps p.tables e below (s₁.setTop (mkF m 67 #[.val (.int p0), .val (.int p1), .val (.int p2), .val (.int p3), .val (.int p4), .val (.int p5), .val (.int la), .val (.int c0), .val (.int c1), .val (.int lb), .unset, .unset, .unset, .unset, .unset, .unset, .unset, .unset, .unset, .unset, .unset, .unset, .unset, .unset, .unset] [(.int ((p1 &&& (255 : Int32)).toUInt32.toUInt16.toUInt32.toInt32))])) _
      exact k
    · simp only [if_neg hq] at k
      refine XS.ifNo X0.here hx rfl (hb hby at_53) rfl ((if0 _ _).trans (feq hq).1) ?_
      show Steps p.tables e below (s₁.setTop (mkF m 56 #[.val (.int p0), .val (.int p1), .val (.int p2), .val (.int p3), .val (.int p4), .val (.int p5), .val (.int la), .val (.int c0), .val (.int c1), .val (.int lb), .unset, .unset, .unset, .unset, .unset, .unset, .unset, .unset, .unset, .unset, .unset, .unset, .unset, .unset, .unset] [])) _
      refine XS.iload X0.here hx rfl (hb hby at_56) rfl ?_
      show Steps p.tables e below (s₁.setTop (mkF m 58 #[.val (.int p0), .val (.int p1), .val (.int p2), .val (.int p3), .val (.int p4), .val (.int p5), .val (.int la), .val (.int c0), .val (.int c1), .val (.int lb), .unset, .unset, .unset, .unset, .unset, .unset, .unset, .unset, .unset, .unset, .unset, .unset, .unset, .unset, .unset] [(.int c0)])) _
      refine XS.goto X0.here hx rfl (pc0 := 58) (pc' := 67) rfl (hb hby at_58) (by decide) (by decide) ?_
      show Steps p.tables e below (s₁.setTop (mkF m 67 #[.val (.int p0), .val (.int p1), .val (.int p2), .val (.int p3), .val (.int p4), .val (.int p5), .val (.int la), .val (.int c0), .val (.int c1), .val (.int lb), .unset, .unset, .unset, .unset, .unset, .unset, .unset, .unset, .unset, .unset, .unset, .unset, .unset, .unset, .unset] [(.int c0)])) _
      exact k
  refine Goes.to (T' := s₁) (mkF m 67 #[.val (.int p0), .val (.int p1), .val (.int p2), .val (.int p3), .val (.int p4), .val (.int p5), .val (.int la), .val (.int c0), .val (.int c1), .val (.int lb), .unset, .unset, .unset, .unset, .unset, .unset, .unset, .unset, .unset, .unset, .unset, .unset, .unset, .unset, .unset] [(.int (if (p2 &&& (2 : Int32)) = (0 : Int32) then ((p1 &&& (255 : Int32)).toUInt32.toUInt16.toUInt32.toInt32) else c0))]) D53_3 ?_
  obtain ⟨b0, b0_eq⟩ : ∃ z, z = (if (p2 &&& (2 : Int32)) = (0 : Int32) then ((p1 &&& (255 : Int32)).toUInt32.toUInt16.toUInt32.toInt32) else c0) := ⟨_, rfl⟩
  rw [← b0_eq]
  have hb0 : ¬ b0 < 0 ∧ ¬ (255 : Int32) < b0 := by rw [b0_eq]; split <;> first | exact ha0 | exact own_chb _
  refine Goes.to (T' := s₁) (mkF m 69 #[.val (.int p0), .val (.int p1), .val (.int p2), .val (.int p3), .val (.int p4), .val (.int p5), .val (.int la), .val (.int c0), .val (.int c1), .val (.int lb), .val (.int b0), .unset, .unset, .unset, .unset, .unset, .unset, .unset, .unset, .unset, .unset, .unset, .unset, .unset, .unset] []) (fun t k => XS.istore X0.here hx rfl (hb hby at_67) rfl (l' := #[.val (.int p0), .val (.int p1), .val (.int p2), .val (.int p3), .val (.int p4), .val (.int p5), .val (.int la), .val (.int c0), .val (.int c1), .val (.int lb), .val (.int b0), .unset, .unset, .unset, .unset, .unset, .unset, .unset, .unset, .unset, .unset, .unset, .unset, .unset, .unset]) rfl k) ?_
  refine Goes.to (T' := s₁) (mkF m 70 #[.val (.int p0), .val (.int p1), .val (.int p2), .val (.int p3), .val (.int p4), .val (.int p5), .val (.int la), .val (.int c0), .val (.int c1), .val (.int lb), .val (.int b0), .unset, .unset, .unset, .unset, .unset, .unset, .unset, .unset, .unset, .unset, .unset, .unset, .unset, .unset] [(.int p2)]) (fun t k => XS.iloadN X0.here hx rfl (hb hby at_69) rfl k) ?_
  refine Goes.to (T' := s₁) (mkF m 71 #[.val (.int p0), .val (.int p1), .val (.int p2), .val (.int p3), .val (.int p4), .val (.int p5), .val (.int la), .val (.int c0), .val (.int c1), .val (.int lb), .val (.int b0), .unset, .unset, .unset, .unset, .unset, .unset, .unset, .unset, .unset, .unset, .unset, .unset, .unset, .unset] [(.int (4 : Int32)), (.int p2)]) (fun t k => XS.iconst X0.here hx rfl (hb hby at_70) k) ?_
  refine Goes.to (T' := s₁) (mkF m 72 #[.val (.int p0), .val (.int p1), .val (.int p2), .val (.int p3), .val (.int p4), .val (.int p5), .val (.int la), .val (.int c0), .val (.int c1), .val (.int lb), .val (.int b0), .unset, .unset, .unset, .unset, .unset, .unset, .unset, .unset, .unset, .unset, .unset, .unset, .unset, .unset] [(.int (p2 &&& (4 : Int32)))]) (fun t k => XS.iand X0.here hx rfl (hb hby at_71) rfl k) ?_
  have D72_5 : ∀ t, Steps p.tables e below (s₁.setTop (mkF m 89 #[.val (.int p0), .val (.int p1), .val (.int p2), .val (.int p3), .val (.int p4), .val (.int p5), .val (.int la), .val (.int c0), .val (.int c1), .val (.int lb), .val (.int b0), .unset, .unset, .unset, .unset, .unset, .unset, .unset, .unset, .unset, .unset, .unset, .unset, .unset, .unset] [(.int (if (p2 &&& (4 : Int32)) = (0 : Int32) then ((((p1.toUInt32 >>> ((8 : Int32) &&& 31).toUInt32).toInt32) &&& (255 : Int32)).toUInt32.toUInt16.toUInt32.toInt32) else c1))])) t → Steps p.tables e below (s₁.setTop (mkF m 72 #[.val (.int p0), .val (.int p1), .val (.int p2), .val (.int p3), .val (.int p4), .val (.int p5), .val (.int la), .val (.int c0), .val (.int c1), .val (.int lb), .val (.int b0), .unset, .unset, .unset, .unset, .unset, .unset, .unset, .unset, .unset, .unset, .unset, .unset, .unset, .unset] [(.int (p2 &&& (4 : Int32)))])) t := by
    intro t k
    by_cases hq : (p2 &&& (4 : Int32)) = (0 : Int32)
    · simp only [if_pos hq] at k
      refine XS.ifYes X0.here hx rfl (pc0 := 72) (pc' := 80) rfl (hb hby at_72) rfl ((if0 _ _).trans (teq hq).1) (by decide) (by decide) ?_
      show Steps p.tables e below (s₁.setTop (mkF m 80 #[.val (.int p0), .val (.int p1), .val (.int p2), .val (.int p3), .val (.int p4), .val (.int p5), .val (.int la), .val (.int c0), .val (.int c1), .val (.int lb), .val (.int b0), .unset, .unset, .unset, .unset, .unset, .unset, .unset, .unset, .unset, .unset, .unset, .unset, .unset, .unset] [])) _
      refine XS.iloadN X0.here hx rfl (hb hby at_80) rfl ?_
      show Steps p.tables e below (s₁.setTop (mkF m 81 #[.val (.int p0), .val (.int p1), .val (.int p2), .val (.int p3), .val (.int p4), .val (.int p5), .val (.int la), .val (.int c0), .val (.int c1), .val (.int lb), .val (.int b0), .unset, .unset, .unset, .unset, .unset, .unset, .unset, .unset, .unset, .unset, .unset, .unset, .unset, .unset] [(.int p1)])) _
      refine XS.bipush X0.here hx rfl (hb hby at_81) ?_
      show Steps p.tables e below (s₁.setTop (mkF m 83 #[.val (.int p0), .val (.int p1), .val (.int p2), .val (.int p3), .val (.int p4), .val (.int p5), .val (.int la), .val (.int c0), .val (.int c1), .val (.int lb), .val (.int b0), .unset, .unset, .unset, .unset, .unset, .unset, .unset, .unset, .unset, .unset, .unset, .unset, .unset, .unset] [(.int (8 : Int32)), (.int p1)])) _
      refine XS.iushr X0.here hx rfl (hb hby at_83) rfl ?_
      show Steps p.tables e below (s₁.setTop (mkF m 84 #[.val (.int p0), .val (.int p1), .val (.int p2), .val (.int p3), .val (.int p4), .val (.int p5), .val (.int la), .val (.int c0), .val (.int c1), .val (.int lb), .val (.int b0), .unset, .unset, .unset, .unset, .unset, .unset, .unset, .unset, .unset, .unset, .unset, .unset, .unset, .unset] [(.int ((p1.toUInt32 >>> ((8 : Int32) &&& 31).toUInt32).toInt32))])) _
      refine XS.sipush X0.here hx rfl (hb hby at_84) ?_
      show Steps p.tables e below (s₁.setTop (mkF m 87 #[.val (.int p0), .val (.int p1), .val (.int p2), .val (.int p3), .val (.int p4), .val (.int p5), .val (.int la), .val (.int c0), .val (.int c1), .val (.int lb), .val (.int b0), .unset, .unset, .unset, .unset, .unset, .unset, .unset, .unset, .unset, .unset, .unset, .unset, .unset, .unset] [(.int (255 : Int32)), (.int ((p1.toUInt32 >>> ((8 : Int32) &&& 31).toUInt32).toInt32))])) _
      refine XS.iand X0.here hx rfl (hb hby at_87) rfl ?_
      show Steps p.tables e below (s₁.setTop (mkF m 88 #[.val (.int p0), .val (.int p1), .val (.int p2), .val (.int p3), .val (.int p4), .val (.int p5), .val (.int la), .val (.int c0), .val (.int c1), .val (.int lb), .val (.int b0), .unset, .unset, .unset, .unset, .unset, .unset, .unset, .unset, .unset, .unset, .unset, .unset, .unset, .unset] [(.int (((p1.toUInt32 >>> ((8 : Int32) &&& 31).toUInt32).toInt32) &&& (255 : Int32)))])) _
      refine XS.i2c X0.here hx rfl (hb hby at_88) rfl ?_
      show Steps p.tables e below (s₁.setTop (mkF m 89 #[.val (.int p0), .val (.int p1), .val (.int p2), .val (.int p3), .val (.int p4), .val (.int p5), .val (.int la), .val (.int c0), .val (.int c1), .val (.int lb), .val (.int b0), .unset, .unset, .unset, .unset, .unset, .unset, .unset, .unset, .unset, .unset, .unset, .unset, .unset, .unset] [(.int ((((p1.toUInt32 >>> ((8 : Int32) &&& 31).toUInt32).toInt32) &&& (255 : Int32)).toUInt32.toUInt16.toUInt32.toInt32))])) _
      exact k
    · simp only [if_neg hq] at k
      refine XS.ifNo X0.here hx rfl (hb hby at_72) rfl ((if0 _ _).trans (feq hq).1) ?_
      show Steps p.tables e below (s₁.setTop (mkF m 75 #[.val (.int p0), .val (.int p1), .val (.int p2), .val (.int p3), .val (.int p4), .val (.int p5), .val (.int la), .val (.int c0), .val (.int c1), .val (.int lb), .val (.int b0), .unset, .unset, .unset, .unset, .unset, .unset, .unset, .unset, .unset, .unset, .unset, .unset, .unset, .unset] [])) _
      refine XS.iload X0.here hx rfl (hb hby at_75) rfl ?_
      show Steps p.tables e below (s₁.setTop (mkF m 77 #[.val (.int p0), .val (.int p1), .val (.int p2), .val (.int p3), .val (.int p4), .val (.int p5), .val (.int la), .val (.int c0), .val (.int c1), .val (.int lb), .val (.int b0), .unset, .unset, .unset, .unset, .unset, .unset, .unset, .unset, .unset, .unset, .unset, .unset, .unset, .unset] [(.int c1)])) _
      refine XS.goto X0.here hx rfl (pc0 := 77) (pc' := 89) rfl (hb hby at_77) (by decide) (by decide) ?_
      show Steps p.tables e below (s₁.setTop (mkF m 89 #[.val (.int p0), .val (.int p1), .val (.int p2), .val (.int p3), .val (.int p4), .val (.int p5), .val (.int la), .val (.int c0), .val (.int c1), .val (.int lb), .val (.int b0), .unset, .unset, .unset, .unset, .unset, .unset, .unset, .unset, .unset, .unset, .unset, .unset, .unset, .unset] [(.int c1)])) _
      exact k
  refine Goes.to (T' := s₁) (mkF m 89 #[.val (.int p0), .val (.int p1), .val (.int p2), .val (.int p3), .val (.int p4), .val (.int p5), .val (.int la), .val (.int c0), .val (.int c1), .val (.int lb), .val (.int b0), .unset, .unset, .unset, .unset, .unset, .unset, .unset, .unset, .unset, .unset, .unset, .unset, .unset, .unset] [(.int (if (p2 &&& (4 : Int32)) = (0 : Int32) then ((((p1.toUInt32 >>> ((8 : Int32) &&& 31).toUInt32).toInt32) &&& (255 : Int32)).toUInt32.toUInt16.toUInt32.toInt32) else c1))]) D72_5 ?_
  obtain ⟨b1, b1_eq⟩ : ∃ z, z = (if (p2 &&& (4 : Int32)) = (0 : Int32) then ((((p1.toUInt32 >>> ((8 : Int32) &&& 31).toUInt32).toInt32) &&& (255 : Int32)).toUInt32.toUInt16.toUInt32.toInt32) else c1) := ⟨_, rfl⟩
  rw [← b1_eq]
  have hb1 : ¬ b1 < 0 ∧ ¬ (255 : Int32) < b1 := by rw [b1_eq]; split <;> first | exact ha1 | exact own_chb _
  refine Goes.to (T' := s₁) (mkF m 91 #[.val (.int p0), .val (.int p1), .val (.int p2), .val (.int p3), .val (.int p4), .val (.int p5), .val (.int la), .val (.int c0), .val (.int c1), .val (.int lb), .val (.int b0), .val (.int b1), .unset, .unset, .unset, .unset, .unset, .unset, .unset, .unset, .unset, .unset, .unset, .unset, .unset] []) (fun t k => XS.istore X0.here hx rfl (hb hby at_89) rfl (l' := #[.val (.int p0), .val (.int p1), .val (.int p2), .val (.int p3), .val (.int p4), .val (.int p5), .val (.int la), .val (.int c0), .val (.int c1), .val (.int lb), .val (.int b0), .val (.int b1), .unset, .unset, .unset, .unset, .unset, .unset, .unset, .unset, .unset, .unset, .unset, .unset, .unset]) rfl k) ?_
  refine Goes.to (T' := s₁) (mkF m 92 #[.val (.int p0), .val (.int p1), .val (.int p2), .val (.int p3), .val (.int p4), .val (.int p5), .val (.int la), .val (.int c0), .val (.int c1), .val (.int lb), .val (.int b0), .val (.int b1), .unset, .unset, .unset, .unset, .unset, .unset, .unset, .unset, .unset, .unset, .unset, .unset, .unset] [(.int p2)]) (fun t k => XS.iloadN X0.here hx rfl (hb hby at_91) rfl k) ?_
  refine Goes.to (T' := s₁) (mkF m 93 #[.val (.int p0), .val (.int p1), .val (.int p2), .val (.int p3), .val (.int p4), .val (.int p5), .val (.int la), .val (.int c0), .val (.int c1), .val (.int lb), .val (.int b0), .val (.int b1), .unset, .unset, .unset, .unset, .unset, .unset, .unset, .unset, .unset, .unset, .unset, .unset, .unset] [(.int (3 : Int32)), (.int p2)]) (fun t k => XS.iconst X0.here hx rfl (hb hby at_92) k) ?_
  refine Goes.to (T' := s₁) (mkF m 94 #[.val (.int p0), .val (.int p1), .val (.int p2), .val (.int p3), .val (.int p4), .val (.int p5), .val (.int la), .val (.int c0), .val (.int c1), .val (.int lb), .val (.int b0), .val (.int b1), .unset, .unset, .unset, .unset, .unset, .unset, .unset, .unset, .unset, .unset, .unset, .unset, .unset] [(.int ((p2.toUInt32 >>> ((3 : Int32) &&& 31).toUInt32).toInt32))]) (fun t k => XS.iushr X0.here hx rfl (hb hby at_93) rfl k) ?_
  refine Goes.to (T' := s₁) (mkF m 95 #[.val (.int p0), .val (.int p1), .val (.int p2), .val (.int p3), .val (.int p4), .val (.int p5), .val (.int la), .val (.int c0), .val (.int c1), .val (.int lb), .val (.int b0), .val (.int b1), .unset, .unset, .unset, .unset, .unset, .unset, .unset, .unset, .unset, .unset, .unset, .unset, .unset] [(.int (3 : Int32)), (.int ((p2.toUInt32 >>> ((3 : Int32) &&& 31).toUInt32).toInt32))]) (fun t k => XS.iconst X0.here hx rfl (hb hby at_94) k) ?_
  refine Goes.to (T' := s₁) (mkF m 96 #[.val (.int p0), .val (.int p1), .val (.int p2), .val (.int p3), .val (.int p4), .val (.int p5), .val (.int la), .val (.int c0), .val (.int c1), .val (.int lb), .val (.int b0), .val (.int b1), .unset, .unset, .unset, .unset, .unset, .unset, .unset, .unset, .unset, .unset, .unset, .unset, .unset] [(.int (((p2.toUInt32 >>> ((3 : Int32) &&& 31).toUInt32).toInt32) &&& (3 : Int32)))]) (fun t k => XS.iand X0.here hx rfl (hb hby at_95) rfl k) ?_
  have D96_7 : ∀ t, Steps p.tables e below (s₁.setTop (mkF m 104 #[.val (.int p0), .val (.int p1), .val (.int p2), .val (.int p3), .val (.int p4), .val (.int p5), .val (.int la), .val (.int c0), .val (.int c1), .val (.int lb), .val (.int b0), .val (.int b1), .unset, .unset, .unset, .unset, .unset, .unset, .unset, .unset, .unset, .unset, .unset, .unset, .unset] [(.int (if (((p2.toUInt32 >>> ((3 : Int32) &&& 31).toUInt32).toInt32) &&& (3 : Int32)) = (0 : Int32) then (1 : Int32) else (0 : Int32)))])) t → Steps p.tables e below (s₁.setTop (mkF m 96 #[.val (.int p0), .val (.int p1), .val (.int p2), .val (.int p3), .val (.int p4), .val (.int p5), .val (.int la), .val (.int c0), .val (.int c1), .val (.int lb), .val (.int b0), .val (.int b1), .unset, .unset, .unset, .unset, .unset, .unset, .unset, .unset, .unset, .unset, .unset, .unset, .unset] [(.int (((p2.toUInt32 >>> ((3 : Int32) &&& 31).toUInt32).toInt32) &&& (3 : Int32)))])) t := by
    intro t k
    by_cases hq : (((p2.toUInt32 >>> ((3 : Int32) &&& 31).toUInt32).toInt32) &&& (3 : Int32)) = (0 : Int32)
    · simp only [if_pos hq] at k
      refine XS.ifNo X0.here hx rfl (hb hby at_96) rfl ((if0 _ _).trans (teq hq).2) ?_
      show Steps p.tables e below (s₁.setTop (mkF m 99 #[.val (.int p0), .val (.int p1), .val (.int p2), .val (.int p3), .val (.int p4), .val (.int p5), .val (.int la), .val (.int c0), .val (.int c1), .val (.int lb), .val (.int b0), .val (.int b1), .unset, .unset, .unset, .unset, .unset, .unset, .unset, .unset, .unset, .unset, .unset, .unset, .unset] [])) _
      refine XS.iconst X0.here hx rfl (hb hby at_99) ?_
      show Steps p.tables e below (s₁.setTop (mkF m 100 #[.val (.int p0), .val (.int p1), .val (.int p2), .val (.int p3), .val (.int p4), .val (.int p5), .val (.int la), .val (.int c0), .val (.int c1), .val (.int lb), .val (.int b0), .val (.int b1), .unset, .unset, .unset, .unset, .unset, .unset, .unset, .unset, .unset, .unset, .unset, .unset, .unset] [(.int (1 : Int32))])) _
      refine XS.goto X0.here hx rfl (pc0 := 100) (pc' := 104) rfl (hb hby at_100) (by decide) (by decide) ?_
      show Steps p.tables e below (s₁.setTop (mkF m 104 #[.val (.int p0), .val (.int p1), .val (.int p2), .val (.int p3), .val (.int p4), .val (.int p5), .val (.int la), .val (.int c0), .val (.int c1), .val (.int lb), .val (.int b0), .val (.int b1), .unset, .unset, .unset, .unset, .unset, .unset, .unset, .unset, .unset, .unset, .unset, .unset, .unset] [(.int (1 : Int32))])) _
      exact k
    · simp only [if_neg hq] at k
      refine XS.ifYes X0.here hx rfl (pc0 := 96) (pc' := 103) rfl (hb hby at_96) rfl ((if0 _ _).trans (feq hq).2) (by decide) (by decide) ?_
      show Steps p.tables e below (s₁.setTop (mkF m 103 #[.val (.int p0), .val (.int p1), .val (.int p2), .val (.int p3), .val (.int p4), .val (.int p5), .val (.int la), .val (.int c0), .val (.int c1), .val (.int lb), .val (.int b0), .val (.int b1), .unset, .unset, .unset, .unset, .unset, .unset, .unset, .unset, .unset, .unset, .unset, .unset, .unset] [])) _
      refine XS.iconst X0.here hx rfl (hb hby at_103) ?_
      show Steps p.tables e below (s₁.setTop (mkF m 104 #[.val (.int p0), .val (.int p1), .val (.int p2), .val (.int p3), .val (.int p4), .val (.int p5), .val (.int la), .val (.int c0), .val (.int c1), .val (.int lb), .val (.int b0), .val (.int b1), .unset, .unset, .unset, .unset, .unset, .unset, .unset, .unset, .unset, .unset, .unset, .unset, .unset] [(.int (0 : Int32))])) _
      exact k
  refine Goes.to (T' := s₁) (mkF m 104 #[.val (.int p0), .val (.int p1), .val (.int p2), .val (.int p3), .val (.int p4), .val (.int p5), .val (.int la), .val (.int c0), .val (.int c1), .val (.int lb), .val (.int b0), .val (.int b1), .unset, .unset, .unset, .unset, .unset, .unset, .unset, .unset, .unset, .unset, .unset, .unset, .unset] [(.int (if (((p2.toUInt32 >>> ((3 : Int32) &&& 31).toUInt32).toInt32) &&& (3 : Int32)) = (0 : Int32) then (1 : Int32) else (0 : Int32)))]) D96_7 ?_
  obtain ⟨nu, nu_eq⟩ : ∃ z, z = (if (((p2.toUInt32 >>> ((3 : Int32) &&& 31).toUInt32).toInt32) &&& (3 : Int32)) = (0 : Int32) then (1 : Int32) else (0 : Int32)) := ⟨_, rfl⟩
  rw [← nu_eq]
  refine Goes.to (T' := s₁) (mkF m 106 #[.val (.int p0), .val (.int p1), .val (.int p2), .val (.int p3), .val (.int p4), .val (.int p5), .val (.int la), .val (.int c0), .val (.int c1), .val (.int lb), .val (.int b0), .val (.int b1), .val (.int nu), .unset, .unset, .unset, .unset, .unset, .unset, .unset, .unset, .unset, .unset, .unset, .unset] []) (fun t k => XS.istore X0.here hx rfl (hb hby at_104) rfl (l' := #[.val (.int p0), .val (.int p1), .val (.int p2), .val (.int p3), .val (.int p4), .val (.int p5), .val (.int la), .val (.int c0), .val (.int c1), .val (.int lb), .val (.int b0), .val (.int b1), .val (.int nu), .unset, .unset, .unset, .unset, .unset, .unset, .unset, .unset, .unset, .unset, .unset, .unset]) rfl k) ?_
  refine Goes.to (T' := s₁) (mkF m 107 #[.val (.int p0), .val (.int p1), .val (.int p2), .val (.int p3), .val (.int p4), .val (.int p5), .val (.int la), .val (.int c0), .val (.int c1), .val (.int lb), .val (.int b0), .val (.int b1), .val (.int nu), .unset, .unset, .unset, .unset, .unset, .unset, .unset, .unset, .unset, .unset, .unset, .unset] [(.int p3)]) (fun t k => XS.iloadN X0.here hx rfl (hb hby at_106) rfl k) ?_
  obtain ⟨_, _, ⟨T9, L9, k9, n9⟩, -, X9, ⟨Lc9, hQ9, l9, y9, z9⟩, st9⟩ := Jvm.LawKit.callS X0 hx (y := (⟨"com/example/forest_in_rows/forestinrows/OwnColumnDefinitionStandsAsPinLaw", "filling", "(I)Lcom/example/forest_in_rows/forestinrows/CatalogColumn$Filling;"⟩ : MethodName)) hown (mvT hZ (hw _ (List.mem_of_getElem? (i := 0) rfl))) (mvT hZ (hw _ (List.mem_of_getElem? (i := 1) rfl))) (mvT hZ (hw _ (List.mem_of_getElem? (i := 2) rfl))) (mvT hZ (hw _ (List.mem_of_getElem? (i := 3) rfl))) (by decide) (backOf (W := 0) (rm_fill l Z a0 hw [] p3 a_WRITTEN a_IDENTITY a_GENERATED h0 n0 O S_WRITTEN S_IDENTITY S_GENERATED) hZ (hw _ (List.mem_of_getElem? (i := 3) rfl)) (hw _ (List.mem_of_getElem? (i := 2) rfl)) (by decide) (by decide)) (g := (mkF m 107 #[.val (.int p0), .val (.int p1), .val (.int p2), .val (.int p3), .val (.int p4), .val (.int p5), .val (.int la), .val (.int c0), .val (.int c1), .val (.int lb), .val (.int b0), .val (.int b1), .val (.int nu), .unset, .unset, .unset, .unset, .unset, .unset, .unset, .unset, .unset, .unset, .unset, .unset] [(.int p3)])) rfl (by rw [hml]; rfl) (argsL := [(.int p3)]) (rest := []) (lenOf pd_9 rfl) rfl (by show 2 * 0 + _ ≤ _; exact Nat.le_of_eq rfl) (hb hby at_107) (fun _ _ => ⟨rfl, e0, (by decide : 0 + 0 ≤ _), (by decide : 0 + 0 ≤ _)⟩)
  dsimp only [Pt.U, Pt.locs, Pt.cells, Pt.slots] at X9 l9 y9 z9 st9 hQ9
  subst l9 y9 z9
  obtain ⟨rfl, N9, hs9⟩ := hQ9
  have N9' := Fr.app N0 N9
  obtain ⟨fa, fa_eq⟩ : ∃ z, z = own_fill (p3 &&& 2147483647) a_WRITTEN a_IDENTITY a_GENERATED := ⟨_, rfl⟩
  rw [← fa_eq] at st9
  refine Goes.to (T' := T9) (mkF m 110 #[.val (.int p0), .val (.int p1), .val (.int p2), .val (.int p3), .val (.int p4), .val (.int p5), .val (.int la), .val (.int c0), .val (.int c1), .val (.int lb), .val (.int b0), .val (.int b1), .val (.int nu), .unset, .unset, .unset, .unset, .unset, .unset, .unset, .unset, .unset, .unset, .unset, .unset] [(.ref fa)]) (fun t k => st9 t k) ?_
  refine Goes.to (T' := T9) (mkF m 112 #[.val (.int p0), .val (.int p1), .val (.int p2), .val (.int p3), .val (.int p4), .val (.int p5), .val (.int la), .val (.int c0), .val (.int c1), .val (.int lb), .val (.int b0), .val (.int b1), .val (.int nu), .val (.ref fa), .unset, .unset, .unset, .unset, .unset, .unset, .unset, .unset, .unset, .unset, .unset] []) (fun t k => XS.astore X9.here hx rfl (hb hby at_110) rfl rfl (l' := #[.val (.int p0), .val (.int p1), .val (.int p2), .val (.int p3), .val (.int p4), .val (.int p5), .val (.int la), .val (.int c0), .val (.int c1), .val (.int lb), .val (.int b0), .val (.int b1), .val (.int nu), .val (.ref fa), .unset, .unset, .unset, .unset, .unset, .unset, .unset, .unset, .unset, .unset, .unset]) rfl k) ?_
  refine Goes.to (T' := T9) (mkF m 114 #[.val (.int p0), .val (.int p1), .val (.int p2), .val (.int p3), .val (.int p4), .val (.int p5), .val (.int la), .val (.int c0), .val (.int c1), .val (.int lb), .val (.int b0), .val (.int b1), .val (.int nu), .val (.ref fa), .unset, .unset, .unset, .unset, .unset, .unset, .unset, .unset, .unset, .unset, .unset] [(.int p4)]) (fun t k => XS.iload X9.here hx rfl (hb hby at_112) rfl k) ?_
  obtain ⟨_, _, ⟨T10, L10, k10, n10⟩, -, X10, ⟨Lc10, hQ10, l10, y10, z10⟩, st10⟩ := Jvm.LawKit.callS X9 hx (y := (⟨"com/example/forest_in_rows/forestinrows/OwnColumnDefinitionStandsAsPinLaw", "filling", "(I)Lcom/example/forest_in_rows/forestinrows/CatalogColumn$Filling;"⟩ : MethodName)) hown (mvT hZ (hw _ (List.mem_of_getElem? (i := 0) rfl))) (mvT hZ (hw _ (List.mem_of_getElem? (i := 1) rfl))) (mvT hZ (hw _ (List.mem_of_getElem? (i := 2) rfl))) (mvT hZ (hw _ (List.mem_of_getElem? (i := 3) rfl))) (by decide) (backOf (W := 0) (rm_fill l Z a0 hw [] p4 a_WRITTEN a_IDENTITY a_GENERATED h0 n0 O S_WRITTEN S_IDENTITY S_GENERATED) hZ (hw _ (List.mem_of_getElem? (i := 3) rfl)) (hw _ (List.mem_of_getElem? (i := 2) rfl)) (by decide) (by decide)) (g := (mkF m 114 #[.val (.int p0), .val (.int p1), .val (.int p2), .val (.int p3), .val (.int p4), .val (.int p5), .val (.int la), .val (.int c0), .val (.int c1), .val (.int lb), .val (.int b0), .val (.int b1), .val (.int nu), .val (.ref fa), .unset, .unset, .unset, .unset, .unset, .unset, .unset, .unset, .unset, .unset, .unset] [(.int p4)])) rfl (by rw [hml]; rfl) (argsL := [(.int p4)]) (rest := []) (lenOf pd_9 rfl) rfl (by show 2 * 0 + _ ≤ _; exact Nat.le_of_eq rfl) (hb hby at_114) (fun _ _ => ⟨rfl, hs9, (by decide : 0 + 0 ≤ _), (by decide : 0 + 0 ≤ _)⟩)
  dsimp only [Pt.U, Pt.locs, Pt.cells, Pt.slots] at X10 l10 y10 z10 st10 hQ10
  subst l10 y10 z10
  obtain ⟨rfl, N10, hs10⟩ := hQ10
  have N10' := Fr.app N9' N10
  obtain ⟨fb, fb_eq⟩ : ∃ z, z = own_fill (p4 &&& 2147483647) a_WRITTEN a_IDENTITY a_GENERATED := ⟨_, rfl⟩
  rw [← fb_eq] at st10
  refine Goes.to (T' := T10) (mkF m 117 #[.val (.int p0), .val (.int p1), .val (.int p2), .val (.int p3), .val (.int p4), .val (.int p5), .val (.int la), .val (.int c0), .val (.int c1), .val (.int lb), .val (.int b0), .val (.int b1), .val (.int nu), .val (.ref fa), .unset, .unset, .unset, .unset, .unset, .unset, .unset, .unset, .unset, .unset, .unset] [(.ref fb)]) (fun t k => st10 t k) ?_
  refine Goes.to (T' := T10) (mkF m 119 #[.val (.int p0), .val (.int p1), .val (.int p2), .val (.int p3), .val (.int p4), .val (.int p5), .val (.int la), .val (.int c0), .val (.int c1), .val (.int lb), .val (.int b0), .val (.int b1), .val (.int nu), .val (.ref fa), .val (.ref fb), .unset, .unset, .unset, .unset, .unset, .unset, .unset, .unset, .unset, .unset] []) (fun t k => XS.astore X10.here hx rfl (hb hby at_117) rfl rfl (l' := #[.val (.int p0), .val (.int p1), .val (.int p2), .val (.int p3), .val (.int p4), .val (.int p5), .val (.int la), .val (.int c0), .val (.int c1), .val (.int lb), .val (.int b0), .val (.int b1), .val (.int nu), .val (.ref fa), .val (.ref fb), .unset, .unset, .unset, .unset, .unset, .unset, .unset, .unset, .unset, .unset]) rfl k) ?_
  refine Goes.to (T' := T10) (mkF m 121 #[.val (.int p0), .val (.int p1), .val (.int p2), .val (.int p3), .val (.int p4), .val (.int p5), .val (.int la), .val (.int c0), .val (.int c1), .val (.int lb), .val (.int b0), .val (.int b1), .val (.int nu), .val (.ref fa), .val (.ref fb), .unset, .unset, .unset, .unset, .unset, .unset, .unset, .unset, .unset, .unset] [(.int la)]) (fun t k => XS.iload X10.here hx rfl (hb hby at_119) rfl k) ?_
  refine Goes.to (T' := T10) (mkF m 123 #[.val (.int p0), .val (.int p1), .val (.int p2), .val (.int p3), .val (.int p4), .val (.int p5), .val (.int la), .val (.int c0), .val (.int c1), .val (.int lb), .val (.int b0), .val (.int b1), .val (.int nu), .val (.ref fa), .val (.ref fb), .unset, .unset, .unset, .unset, .unset, .unset, .unset, .unset, .unset, .unset] [(.int c0), (.int la)]) (fun t k => XS.iload X10.here hx rfl (hb hby at_121) rfl k) ?_
  refine Goes.to (T' := T10) (mkF m 125 #[.val (.int p0), .val (.int p1), .val (.int p2), .val (.int p3), .val (.int p4), .val (.int p5), .val (.int la), .val (.int c0), .val (.int c1), .val (.int lb), .val (.int b0), .val (.int b1), .val (.int nu), .val (.ref fa), .val (.ref fb), .unset, .unset, .unset, .unset, .unset, .unset, .unset, .unset, .unset, .unset] [(.int c1), (.int c0), (.int la)]) (fun t k => XS.iload X10.here hx rfl (hb hby at_123) rfl k) ?_
  obtain ⟨_, _, ⟨T11, L11, k11, n11⟩, -, X11, hT11, hG11, ⟨Lc11, hQ11, l11, y11, z11, R11⟩, st11⟩ := callSS X10 hx (y := (⟨"com/example/forest_in_rows/forestinrows/OwnColumnDefinitionStandsAsPinLaw", "str", "(ICC)Ljava/lang/String;"⟩ : MethodName)) hown (mvT hZ (hw _ (List.mem_of_getElem? (i := 10) rfl))) (mvT hZ (hw _ (List.mem_of_getElem? (i := 11) rfl))) (mvT hZ (hw _ (List.mem_of_getElem? (i := 2) rfl))) (mvT hZ (hw _ (List.mem_of_getElem? (i := 12) rfl))) (by decide) (backOfSH (W := 0) (rm_str l Z a0 hw [] la c0 c1 cz h0 n0 O ha0 ha1 S_CS hcz) hZ (hw _ (List.mem_of_getElem? (i := 12) rfl)) (hw _ (List.mem_of_getElem? (i := 2) rfl)) (by decide) (by decide) hEL C.1) (g := (mkF m 125 #[.val (.int p0), .val (.int p1), .val (.int p2), .val (.int p3), .val (.int p4), .val (.int p5), .val (.int la), .val (.int c0), .val (.int c1), .val (.int lb), .val (.int b0), .val (.int b1), .val (.int nu), .val (.ref fa), .val (.ref fb), .unset, .unset, .unset, .unset, .unset, .unset, .unset, .unset, .unset, .unset] [(.int c1), (.int c0), (.int la)])) rfl (by rw [hml]; rfl) (argsL := [(.int la), (.int c0), (.int c1)]) (rest := []) (lenOf pd_10 rfl) rfl (by show 2 * 0 + _ ≤ _; exact Nat.le_of_eq rfl) (hb hby at_125) (fun _ _ => ⟨rfl, hs10, (by decide : 0 + 4 ≤ _), (by decide : 0 + 14 ≤ _)⟩)
  dsimp only [Pt.U, Pt.locs, Pt.cells, Pt.slots] at X11 l11 y11 z11 st11 hQ11 hT11 hG11 R11
  subst l11 y11 z11
  obtain ⟨X11, hT11, hZ', hown'⟩ := rebS hS0 (show _ ≤ T10.heap.size by rw [hs10]; exact hk0) X11 hT11 hG11 hZ hown
  replace C := C.trans R11
  replace hS0 := hT11
  replace hk0 := Nat.le_refl T11.heap.size
  replace hZ := hZ'
  replace hown := hown'
  obtain ⟨N11, K11, s1, t1, k1, m1, vs1, rfl, E_s1, F_v1, F_c1, V_t1, hcd1⟩ := hQ11
  have N11' := Fr.app N10' N11
  replace O := O.keep K11 all0
  refine Goes.to (T' := T11) (mkF m 128 #[.val (.int p0), .val (.int p1), .val (.int p2), .val (.int p3), .val (.int p4), .val (.int p5), .val (.int la), .val (.int c0), .val (.int c1), .val (.int lb), .val (.int b0), .val (.int b1), .val (.int nu), .val (.ref fa), .val (.ref fb), .unset, .unset, .unset, .unset, .unset, .unset, .unset, .unset, .unset, .unset] [(.ref s1)]) (fun t k => st11.trans k) ?_
  refine Goes.to (T' := T11) (mkF m 130 #[.val (.int p0), .val (.int p1), .val (.int p2), .val (.int p3), .val (.int p4), .val (.int p5), .val (.int la), .val (.int c0), .val (.int c1), .val (.int lb), .val (.int b0), .val (.int b1), .val (.int nu), .val (.ref fa), .val (.ref fb), .val (.ref s1), .unset, .unset, .unset, .unset, .unset, .unset, .unset, .unset, .unset] []) (fun t k => XS.astore X11.here hx rfl (hb hby at_128) rfl rfl (l' := #[.val (.int p0), .val (.int p1), .val (.int p2), .val (.int p3), .val (.int p4), .val (.int p5), .val (.int la), .val (.int c0), .val (.int c1), .val (.int lb), .val (.int b0), .val (.int b1), .val (.int nu), .val (.ref fa), .val (.ref fb), .val (.ref s1), .unset, .unset, .unset, .unset, .unset, .unset, .unset, .unset, .unset]) rfl k) ?_
  refine Goes.to (T' := T11) (mkF m 132 #[.val (.int p0), .val (.int p1), .val (.int p2), .val (.int p3), .val (.int p4), .val (.int p5), .val (.int la), .val (.int c0), .val (.int c1), .val (.int lb), .val (.int b0), .val (.int b1), .val (.int nu), .val (.ref fa), .val (.ref fb), .val (.ref s1), .unset, .unset, .unset, .unset, .unset, .unset, .unset, .unset, .unset] [(.int lb)]) (fun t k => XS.iload X11.here hx rfl (hb hby at_130) rfl k) ?_
  refine Goes.to (T' := T11) (mkF m 134 #[.val (.int p0), .val (.int p1), .val (.int p2), .val (.int p3), .val (.int p4), .val (.int p5), .val (.int la), .val (.int c0), .val (.int c1), .val (.int lb), .val (.int b0), .val (.int b1), .val (.int nu), .val (.ref fa), .val (.ref fb), .val (.ref s1), .unset, .unset, .unset, .unset, .unset, .unset, .unset, .unset, .unset] [(.int b0), (.int lb)]) (fun t k => XS.iload X11.here hx rfl (hb hby at_132) rfl k) ?_
  refine Goes.to (T' := T11) (mkF m 136 #[.val (.int p0), .val (.int p1), .val (.int p2), .val (.int p3), .val (.int p4), .val (.int p5), .val (.int la), .val (.int c0), .val (.int c1), .val (.int lb), .val (.int b0), .val (.int b1), .val (.int nu), .val (.ref fa), .val (.ref fb), .val (.ref s1), .unset, .unset, .unset, .unset, .unset, .unset, .unset, .unset, .unset] [(.int b1), (.int b0), (.int lb)]) (fun t k => XS.iload X11.here hx rfl (hb hby at_134) rfl k) ?_
  obtain ⟨_, _, ⟨T12, L12, k12, n12⟩, -, X12, hT12, hG12, ⟨Lc12, hQ12, l12, y12, z12, R12⟩, st12⟩ := callSS X11 hx (y := (⟨"com/example/forest_in_rows/forestinrows/OwnColumnDefinitionStandsAsPinLaw", "str", "(ICC)Ljava/lang/String;"⟩ : MethodName)) hown (mvT hZ (hw _ (List.mem_of_getElem? (i := 10) rfl))) (mvT hZ (hw _ (List.mem_of_getElem? (i := 11) rfl))) (mvT hZ (hw _ (List.mem_of_getElem? (i := 2) rfl))) (mvT hZ (hw _ (List.mem_of_getElem? (i := 12) rfl))) (by decide) (backOfSH (W := 0) (rm_str l Z a0 hw [] lb b0 b1 cz T11.heap n0 O hb0 hb1 S_CS hcz) hZ (hw _ (List.mem_of_getElem? (i := 12) rfl)) (hw _ (List.mem_of_getElem? (i := 2) rfl)) (by decide) (by decide) hEL C.1) (g := (mkF m 136 #[.val (.int p0), .val (.int p1), .val (.int p2), .val (.int p3), .val (.int p4), .val (.int p5), .val (.int la), .val (.int c0), .val (.int c1), .val (.int lb), .val (.int b0), .val (.int b1), .val (.int nu), .val (.ref fa), .val (.ref fb), .val (.ref s1), .unset, .unset, .unset, .unset, .unset, .unset, .unset, .unset, .unset] [(.int b1), (.int b0), (.int lb)])) rfl (by rw [hml]; rfl) (argsL := [(.int lb), (.int b0), (.int b1)]) (rest := []) (lenOf pd_10 rfl) rfl (by show 2 * 0 + _ ≤ _; exact Nat.le_of_eq rfl) (hb hby at_136) (fun _ _ => ⟨rfl, rfl, (by decide : 4 + 4 ≤ _), (by decide : 14 + 14 ≤ _)⟩)
  dsimp only [Pt.U, Pt.locs, Pt.cells, Pt.slots] at X12 l12 y12 z12 st12 hQ12 hT12 hG12 R12
  subst l12 y12 z12
  obtain ⟨X12, hT12, hZ', hown'⟩ := rebS hS0 hk0 X12 hT12 hG12 hZ hown
  replace C := C.trans R12
  replace hS0 := hT12
  replace hk0 := Nat.le_refl T12.heap.size
  replace hZ := hZ'
  replace hown := hown'
  obtain ⟨N12, K12, s2, t2, k2, m2, vs2, rfl, E_s2, F_v2, F_c2, V_t2, hcd2⟩ := hQ12
  have N12' := Fr.app N11' N12
  replace E_s1 := E_s1.keep K12
  replace F_v1 := F_v1.keep K12 nin0
  replace F_c1 := F_c1.keep K12 nin0
  replace V_t1 := V_t1.keep K12 nin0
  replace O := O.keep K12 all0
  refine Goes.to (T' := T12) (mkF m 139 #[.val (.int p0), .val (.int p1), .val (.int p2), .val (.int p3), .val (.int p4), .val (.int p5), .val (.int la), .val (.int c0), .val (.int c1), .val (.int lb), .val (.int b0), .val (.int b1), .val (.int nu), .val (.ref fa), .val (.ref fb), .val (.ref s1), .unset, .unset, .unset, .unset, .unset, .unset, .unset, .unset, .unset] [(.ref s2)]) (fun t k => st12.trans k) ?_
  refine Goes.to (T' := T12) (mkF m 141 #[.val (.int p0), .val (.int p1), .val (.int p2), .val (.int p3), .val (.int p4), .val (.int p5), .val (.int la), .val (.int c0), .val (.int c1), .val (.int lb), .val (.int b0), .val (.int b1), .val (.int nu), .val (.ref fa), .val (.ref fb), .val (.ref s1), .val (.ref s2), .unset, .unset, .unset, .unset, .unset, .unset, .unset, .unset] []) (fun t k => XS.astore X12.here hx rfl (hb hby at_139) rfl rfl (l' := #[.val (.int p0), .val (.int p1), .val (.int p2), .val (.int p3), .val (.int p4), .val (.int p5), .val (.int la), .val (.int c0), .val (.int c1), .val (.int lb), .val (.int b0), .val (.int b1), .val (.int nu), .val (.ref fa), .val (.ref fb), .val (.ref s1), .val (.ref s2), .unset, .unset, .unset, .unset, .unset, .unset, .unset, .unset]) rfl k) ?_
  refine Goes.to (T' := T12) (mkF m 143 #[.val (.int p0), .val (.int p1), .val (.int p2), .val (.int p3), .val (.int p4), .val (.int p5), .val (.int la), .val (.int c0), .val (.int c1), .val (.int lb), .val (.int b0), .val (.int b1), .val (.int nu), .val (.ref fa), .val (.ref fb), .val (.ref s1), .val (.ref s2), .unset, .unset, .unset, .unset, .unset, .unset, .unset, .unset] [(.int p5)]) (fun t k => XS.iload X12.here hx rfl (hb hby at_141) rfl k) ?_
  refine Goes.to (T' := T12) (mkF m 145 #[.val (.int p0), .val (.int p1), .val (.int p2), .val (.int p3), .val (.int p4), .val (.int p5), .val (.int la), .val (.int c0), .val (.int c1), .val (.int lb), .val (.int b0), .val (.int b1), .val (.int nu), .val (.ref fa), .val (.ref fb), .val (.ref s1), .val (.ref s2), .unset, .unset, .unset, .unset, .unset, .unset, .unset, .unset] [(.int (16 : Int32)), (.int p5)]) (fun t k => XS.bipush X12.here hx rfl (hb hby at_143) k) ?_
  refine Goes.to (T' := T12) (mkF m 146 #[.val (.int p0), .val (.int p1), .val (.int p2), .val (.int p3), .val (.int p4), .val (.int p5), .val (.int la), .val (.int c0), .val (.int c1), .val (.int lb), .val (.int b0), .val (.int b1), .val (.int nu), .val (.ref fa), .val (.ref fb), .val (.ref s1), .val (.ref s2), .unset, .unset, .unset, .unset, .unset, .unset, .unset, .unset] [(.int ((p5.toUInt32 >>> ((16 : Int32) &&& 31).toUInt32).toInt32))]) (fun t k => XS.iushr X12.here hx rfl (hb hby at_145) rfl k) ?_
  refine Goes.to (T' := T12) (mkF m 149 #[.val (.int p0), .val (.int p1), .val (.int p2), .val (.int p3), .val (.int p4), .val (.int p5), .val (.int la), .val (.int c0), .val (.int c1), .val (.int lb), .val (.int b0), .val (.int b1), .val (.int nu), .val (.ref fa), .val (.ref fb), .val (.ref s1), .val (.ref s2), .unset, .unset, .unset, .unset, .unset, .unset, .unset, .unset] [(.int (255 : Int32)), (.int ((p5.toUInt32 >>> ((16 : Int32) &&& 31).toUInt32).toInt32))]) (fun t k => XS.sipush X12.here hx rfl (hb hby at_146) k) ?_
  refine Goes.to (T' := T12) (mkF m 150 #[.val (.int p0), .val (.int p1), .val (.int p2), .val (.int p3), .val (.int p4), .val (.int p5), .val (.int la), .val (.int c0), .val (.int c1), .val (.int lb), .val (.int b0), .val (.int b1), .val (.int nu), .val (.ref fa), .val (.ref fb), .val (.ref s1), .val (.ref s2), .unset, .unset, .unset, .unset, .unset, .unset, .unset, .unset] [(.int (((p5.toUInt32 >>> ((16 : Int32) &&& 31).toUInt32).toInt32) &&& (255 : Int32)))]) (fun t k => XS.iand X12.here hx rfl (hb hby at_149) rfl k) ?_
  refine Goes.to (T' := T12) (mkF m 151 #[.val (.int p0), .val (.int p1), .val (.int p2), .val (.int p3), .val (.int p4), .val (.int p5), .val (.int la), .val (.int c0), .val (.int c1), .val (.int lb), .val (.int b0), .val (.int b1), .val (.int nu), .val (.ref fa), .val (.ref fb), .val (.ref s1), .val (.ref s2), .unset, .unset, .unset, .unset, .unset, .unset, .unset, .unset] [(.int ((((p5.toUInt32 >>> ((16 : Int32) &&& 31).toUInt32).toInt32) &&& (255 : Int32)).toUInt32.toUInt16.toUInt32.toInt32))]) (fun t k => XS.i2c X12.here hx rfl (hb hby at_150) rfl k) ?_
  obtain ⟨_, _, ⟨T13, L13, k13, n13⟩, -, X13, ⟨Lc13, hQ13, l13, y13, z13⟩, st13⟩ := Jvm.LawKit.callS X12 hx (y := (⟨"java/lang/String", "valueOf", "(C)Ljava/lang/String;"⟩ : MethodName)) hown (mvT hZ (hw _ (List.mem_of_getElem? (i := 21) rfl))) (mvT hZ (hw _ (List.mem_of_getElem? (i := 22) rfl))) (mvT hZ (hw _ (List.mem_of_getElem? (i := 14) rfl))) (mvT hZ (hw _ (List.mem_of_getElem? (i := 23) rfl))) (by decide) (backOf (W := 0) (rm_vof l Z a0 hw [] ((((p5.toUInt32 >>> ((16 : Int32) &&& 31).toUInt32).toInt32) &&& (255 : Int32)).toUInt32.toUInt16.toUInt32.toInt32) cz T12.heap n0 O (own_chb _) S_CS hcz) hZ (hw _ (List.mem_of_getElem? (i := 23) rfl)) (hw _ (List.mem_of_getElem? (i := 14) rfl)) (by decide) (by decide)) (g := (mkF m 151 #[.val (.int p0), .val (.int p1), .val (.int p2), .val (.int p3), .val (.int p4), .val (.int p5), .val (.int la), .val (.int c0), .val (.int c1), .val (.int lb), .val (.int b0), .val (.int b1), .val (.int nu), .val (.ref fa), .val (.ref fb), .val (.ref s1), .val (.ref s2), .unset, .unset, .unset, .unset, .unset, .unset, .unset, .unset] [(.int ((((p5.toUInt32 >>> ((16 : Int32) &&& 31).toUInt32).toInt32) &&& (255 : Int32)).toUInt32.toUInt16.toUInt32.toInt32))])) rfl (by rw [hml]; rfl) (argsL := [(.int ((((p5.toUInt32 >>> ((16 : Int32) &&& 31).toUInt32).toInt32) &&& (255 : Int32)).toUInt32.toUInt16.toUInt32.toInt32))]) (rest := []) (lenOf pd_3 rfl) rfl (by show 2 * 0 + _ ≤ _; exact Nat.le_of_eq rfl) (hb hby at_151) (fun _ _ => ⟨rfl, rfl, (by decide : 8 + 2 ≤ _), (by decide : 28 + 5 ≤ _)⟩)
  dsimp only [Pt.U, Pt.locs, Pt.cells, Pt.slots] at X13 l13 y13 z13 st13 hQ13
  subst l13 y13 z13
  obtain ⟨N13, K13, vo13, -, -, -, -, rfl, E_vo13, -, -, -, -⟩ := hQ13
  have N13' := Fr.app N12' N13
  have C' := C.trans (CHr.keep K13 sf0 C.1)
  replace C := C'
  replace E_s1 := E_s1.keep K13
  replace F_v1 := F_v1.keep K13 nin0
  replace F_c1 := F_c1.keep K13 nin0
  replace V_t1 := V_t1.keep K13 nin0
  replace E_s2 := E_s2.keep K13
  replace F_v2 := F_v2.keep K13 nin0
  replace F_c2 := F_c2.keep K13 nin0
  replace V_t2 := V_t2.keep K13 nin0
  replace O := O.keep K13 all0
  replace hk0 := Nat.le_trans hk0 K13.1
  refine Goes.to (T' := T13) (mkF m 154 #[.val (.int p0), .val (.int p1), .val (.int p2), .val (.int p3), .val (.int p4), .val (.int p5), .val (.int la), .val (.int c0), .val (.int c1), .val (.int lb), .val (.int b0), .val (.int b1), .val (.int nu), .val (.ref fa), .val (.ref fb), .val (.ref s1), .val (.ref s2), .unset, .unset, .unset, .unset, .unset, .unset, .unset, .unset] [(.ref vo13)]) (fun t k => st13 t k) ?_
  refine Goes.to (T' := T13) (mkF m 156 #[.val (.int p0), .val (.int p1), .val (.int p2), .val (.int p3), .val (.int p4), .val (.int p5), .val (.int la), .val (.int c0), .val (.int c1), .val (.int lb), .val (.int b0), .val (.int b1), .val (.int nu), .val (.ref fa), .val (.ref fb), .val (.ref s1), .val (.ref s2), .val (.ref vo13), .unset, .unset, .unset, .unset, .unset, .unset, .unset] []) (fun t k => XS.astore X13.here hx rfl (hb hby at_154) rfl rfl (l' := #[.val (.int p0), .val (.int p1), .val (.int p2), .val (.int p3), .val (.int p4), .val (.int p5), .val (.int la), .val (.int c0), .val (.int c1), .val (.int lb), .val (.int b0), .val (.int b1), .val (.int nu), .val (.ref fa), .val (.ref fb), .val (.ref s1), .val (.ref s2), .val (.ref vo13), .unset, .unset, .unset, .unset, .unset, .unset, .unset]) rfl k) ?_
  refine Goes.to (T' := T13) (mkF m 158 #[.val (.int p0), .val (.int p1), .val (.int p2), .val (.int p3), .val (.int p4), .val (.int p5), .val (.int la), .val (.int c0), .val (.int c1), .val (.int lb), .val (.int b0), .val (.int b1), .val (.int nu), .val (.ref fa), .val (.ref fb), .val (.ref s1), .val (.ref s2), .val (.ref vo13), .unset, .unset, .unset, .unset, .unset, .unset, .unset] [(.int p5)]) (fun t k => XS.iload X13.here hx rfl (hb hby at_156) rfl k) ?_
  refine Goes.to (T' := T13) (mkF m 160 #[.val (.int p0), .val (.int p1), .val (.int p2), .val (.int p3), .val (.int p4), .val (.int p5), .val (.int la), .val (.int c0), .val (.int c1), .val (.int lb), .val (.int b0), .val (.int b1), .val (.int nu), .val (.ref fa), .val (.ref fb), .val (.ref s1), .val (.ref s2), .val (.ref vo13), .unset, .unset, .unset, .unset, .unset, .unset, .unset] [(.int (24 : Int32)), (.int p5)]) (fun t k => XS.bipush X13.here hx rfl (hb hby at_158) k) ?_
  refine Goes.to (T' := T13) (mkF m 161 #[.val (.int p0), .val (.int p1), .val (.int p2), .val (.int p3), .val (.int p4), .val (.int p5), .val (.int la), .val (.int c0), .val (.int c1), .val (.int lb), .val (.int b0), .val (.int b1), .val (.int nu), .val (.ref fa), .val (.ref fb), .val (.ref s1), .val (.ref s2), .val (.ref vo13), .unset, .unset, .unset, .unset, .unset, .unset, .unset] [(.int ((p5.toUInt32 >>> ((24 : Int32) &&& 31).toUInt32).toInt32))]) (fun t k => XS.iushr X13.here hx rfl (hb hby at_160) rfl k) ?_
  refine Goes.to (T' := T13) (mkF m 162 #[.val (.int p0), .val (.int p1), .val (.int p2), .val (.int p3), .val (.int p4), .val (.int p5), .val (.int la), .val (.int c0), .val (.int c1), .val (.int lb), .val (.int b0), .val (.int b1), .val (.int nu), .val (.ref fa), .val (.ref fb), .val (.ref s1), .val (.ref s2), .val (.ref vo13), .unset, .unset, .unset, .unset, .unset, .unset, .unset] [(.int (1 : Int32)), (.int ((p5.toUInt32 >>> ((24 : Int32) &&& 31).toUInt32).toInt32))]) (fun t k => XS.iconst X13.here hx rfl (hb hby at_161) k) ?_
  refine Goes.to (T' := T13) (mkF m 163 #[.val (.int p0), .val (.int p1), .val (.int p2), .val (.int p3), .val (.int p4), .val (.int p5), .val (.int la), .val (.int c0), .val (.int c1), .val (.int lb), .val (.int b0), .val (.int b1), .val (.int nu), .val (.ref fa), .val (.ref fb), .val (.ref s1), .val (.ref s2), .val (.ref vo13), .unset, .unset, .unset, .unset, .unset, .unset, .unset] [(.int (((p5.toUInt32 >>> ((24 : Int32) &&& 31).toUInt32).toInt32) &&& (1 : Int32)))]) (fun t k => XS.iand X13.here hx rfl (hb hby at_162) rfl k) ?_
  by_cases hc163_14 : (((p5.toUInt32 >>> ((24 : Int32) &&& 31).toUInt32).toInt32) &&& (1 : Int32)) = (0 : Int32)
  · refine Goes.to (T' := T13) (mkF m 171 #[.val (.int p0), .val (.int p1), .val (.int p2), .val (.int p3), .val (.int p4), .val (.int p5), .val (.int la), .val (.int c0), .val (.int c1), .val (.int lb), .val (.int b0), .val (.int b1), .val (.int nu), .val (.ref fa), .val (.ref fb), .val (.ref s1), .val (.ref s2), .val (.ref vo13), .unset, .unset, .unset, .unset, .unset, .unset, .unset] []) (fun t k => XS.ifYes X13.here hx rfl (pc0 := 163) (pc' := 171) rfl (hb hby at_163) rfl ((if0 _ _).trans (teq hc163_14).1) (by decide) (by decide) k) ?_
    obtain ⟨str15, T15, h15, k15, sb15, kb15, X15, e15, E15, hS15, hk15, hZ15, hown15, E_str15, F_coder_str15, F_value_str15, V_sb15, lt_str15, lt_sb15, R15, -, hne15, st15⟩ := ldcCH X13 hx hZ hown (hw _ (List.mem_of_getElem? (i := 13) rfl)) (fun a ha => hw a (own_strs a ha)) rfl hS0 hk0 hEL (by decide) C.1 (vs := []) (z := 0) ⟨by decide, rfl⟩ (by decide) rfl (g := (mkF m 171 #[.val (.int p0), .val (.int p1), .val (.int p2), .val (.int p3), .val (.int p4), .val (.int p5), .val (.int la), .val (.int c0), .val (.int c1), .val (.int lb), .val (.int b0), .val (.int b1), .val (.int nu), .val (.ref fa), .val (.ref fb), .val (.ref s1), .val (.ref s2), .val (.ref vo13), .unset, .unset, .unset, .unset, .unset, .unset, .unset] [])) rfl (hb hby at_171) (n := 0) (by decide) (by decide) (by decide) (by decide)
    replace C := C.trans R15
    replace O := O.ext E15
    replace E_s1 := E_s1.ext E15
    replace F_v1 := F_v1.ext E15
    replace F_c1 := F_c1.ext E15
    replace V_t1 := V_t1.ext E15
    replace E_s2 := E_s2.ext E15
    replace F_v2 := F_v2.ext E15
    replace F_c2 := F_c2.ext E15
    replace V_t2 := V_t2.ext E15
    replace E_vo13 := E_vo13.ext E15
    replace hS0 := hS15
    replace hk0 := hk15
    replace hZ := hZ15
    replace hown := hown15
    refine Goes.to (T' := T15) (mkF m 173 #[.val (.int p0), .val (.int p1), .val (.int p2), .val (.int p3), .val (.int p4), .val (.int p5), .val (.int la), .val (.int c0), .val (.int c1), .val (.int lb), .val (.int b0), .val (.int b1), .val (.int nu), .val (.ref fa), .val (.ref fb), .val (.ref s1), .val (.ref s2), .val (.ref vo13), .unset, .unset, .unset, .unset, .unset, .unset, .unset] [(.ref str15)]) st15 ?_
    refine Goes.to (T' := T15) (mkF m 175 #[.val (.int p0), .val (.int p1), .val (.int p2), .val (.int p3), .val (.int p4), .val (.int p5), .val (.int la), .val (.int c0), .val (.int c1), .val (.int lb), .val (.int b0), .val (.int b1), .val (.int nu), .val (.ref fa), .val (.ref fb), .val (.ref s1), .val (.ref s2), .val (.ref vo13), .val (.ref str15), .unset, .unset, .unset, .unset, .unset, .unset] []) (fun t k => XS.astore X15.here hx rfl (hb hby at_173) rfl rfl (l' := #[.val (.int p0), .val (.int p1), .val (.int p2), .val (.int p3), .val (.int p4), .val (.int p5), .val (.int la), .val (.int c0), .val (.int c1), .val (.int lb), .val (.int b0), .val (.int b1), .val (.int nu), .val (.ref fa), .val (.ref fb), .val (.ref s1), .val (.ref s2), .val (.ref vo13), .val (.ref str15), .unset, .unset, .unset, .unset, .unset, .unset]) rfl k) ?_
    refine Goes.to (T' := T15) (mkF m 177 #[.val (.int p0), .val (.int p1), .val (.int p2), .val (.int p3), .val (.int p4), .val (.int p5), .val (.int la), .val (.int c0), .val (.int c1), .val (.int lb), .val (.int b0), .val (.int b1), .val (.int nu), .val (.ref fa), .val (.ref fb), .val (.ref s1), .val (.ref s2), .val (.ref vo13), .val (.ref str15), .unset, .unset, .unset, .unset, .unset, .unset] [(.int p5)]) (fun t k => XS.iload X15.here hx rfl (hb hby at_175) rfl k) ?_
    refine Goes.to (T' := T15) (mkF m 180 #[.val (.int p0), .val (.int p1), .val (.int p2), .val (.int p3), .val (.int p4), .val (.int p5), .val (.int la), .val (.int c0), .val (.int c1), .val (.int lb), .val (.int b0), .val (.int b1), .val (.int nu), .val (.ref fa), .val (.ref fb), .val (.ref s1), .val (.ref s2), .val (.ref vo13), .val (.ref str15), .unset, .unset, .unset, .unset, .unset, .unset] [(.int (255 : Int32)), (.int p5)]) (fun t k => XS.sipush X15.here hx rfl (hb hby at_177) k) ?_
    refine Goes.to (T' := T15) (mkF m 181 #[.val (.int p0), .val (.int p1), .val (.int p2), .val (.int p3), .val (.int p4), .val (.int p5), .val (.int la), .val (.int c0), .val (.int c1), .val (.int lb), .val (.int b0), .val (.int b1), .val (.int nu), .val (.ref fa), .val (.ref fb), .val (.ref s1), .val (.ref s2), .val (.ref vo13), .val (.ref str15), .unset, .unset, .unset, .unset, .unset, .unset] [(.int (p5 &&& (255 : Int32)))]) (fun t k => XS.iand X15.here hx rfl (hb hby at_180) rfl k) ?_
    refine Goes.to (T' := T15) (mkF m 182 #[.val (.int p0), .val (.int p1), .val (.int p2), .val (.int p3), .val (.int p4), .val (.int p5), .val (.int la), .val (.int c0), .val (.int c1), .val (.int lb), .val (.int b0), .val (.int b1), .val (.int nu), .val (.ref fa), .val (.ref fb), .val (.ref s1), .val (.ref s2), .val (.ref vo13), .val (.ref str15), .unset, .unset, .unset, .unset, .unset, .unset] [(.int ((p5 &&& (255 : Int32)).toUInt32.toUInt16.toUInt32.toInt32))]) (fun t k => XS.i2c X15.here hx rfl (hb hby at_181) rfl k) ?_
    obtain ⟨_, _, ⟨T16, L16, k16, n16⟩, -, X16, ⟨Lc16, hQ16, l16, y16, z16⟩, st16⟩ := Jvm.LawKit.callS X15 hx (y := (⟨"java/lang/String", "valueOf", "(C)Ljava/lang/String;"⟩ : MethodName)) hown (mvT hZ (hw _ (List.mem_of_getElem? (i := 21) rfl))) (mvT hZ (hw _ (List.mem_of_getElem? (i := 22) rfl))) (mvT hZ (hw _ (List.mem_of_getElem? (i := 14) rfl))) (mvT hZ (hw _ (List.mem_of_getElem? (i := 23) rfl))) (by decide) (backOf (W := 0) (rm_vof l Z a0 hw [] ((p5 &&& (255 : Int32)).toUInt32.toUInt16.toUInt32.toInt32) cz h15 n0 O (own_chb _) S_CS hcz) hZ (hw _ (List.mem_of_getElem? (i := 23) rfl)) (hw _ (List.mem_of_getElem? (i := 14) rfl)) (by decide) (by decide)) (g := (mkF m 182 #[.val (.int p0), .val (.int p1), .val (.int p2), .val (.int p3), .val (.int p4), .val (.int p5), .val (.int la), .val (.int c0), .val (.int c1), .val (.int lb), .val (.int b0), .val (.int b1), .val (.int nu), .val (.ref fa), .val (.ref fb), .val (.ref s1), .val (.ref s2), .val (.ref vo13), .val (.ref str15), .unset, .unset, .unset, .unset, .unset, .unset] [(.int ((p5 &&& (255 : Int32)).toUInt32.toUInt16.toUInt32.toInt32))])) rfl (by rw [hml]; rfl) (argsL := [(.int ((p5 &&& (255 : Int32)).toUInt32.toUInt16.toUInt32.toInt32))]) (rest := []) (lenOf pd_3 rfl) rfl (by show 2 * 0 + _ ≤ _; exact Nat.le_of_eq rfl) (hb hby at_182) (fun _ _ => ⟨rfl, e15, (by decide : 12 + 2 ≤ _), (by decide : 37 + 5 ≤ _)⟩)
    dsimp only [Pt.U, Pt.locs, Pt.cells, Pt.slots] at X16 l16 y16 z16 st16 hQ16
    subst l16 y16 z16
    obtain ⟨N16, K16, vo16, -, -, -, -, rfl, E_vo16, -, -, -, -⟩ := hQ16
    have N16' := Fr.app N13' N16
    have C' := C.trans (CHr.keep K16 sf0 C.1)
    replace C := C'
    replace E_s1 := E_s1.keep K16
    replace F_v1 := F_v1.keep K16 nin0
    replace F_c1 := F_c1.keep K16 nin0
    replace V_t1 := V_t1.keep K16 nin0
    replace E_s2 := E_s2.keep K16
    replace F_v2 := F_v2.keep K16 nin0
    replace F_c2 := F_c2.keep K16 nin0
    replace V_t2 := V_t2.keep K16 nin0
    replace E_vo13 := E_vo13.keep K16
    replace E_str15 := E_str15.keep K16
    replace F_coder_str15 := F_coder_str15.keep K16 nin0
    replace F_value_str15 := F_value_str15.keep K16 nin0
    replace V_sb15 := V_sb15.keep K16 nin0
    replace O := O.keep K16 all0
    replace hk0 := Nat.le_trans hk0 K16.1
    refine Goes.to (T' := T16) (mkF m 185 #[.val (.int p0), .val (.int p1), .val (.int p2), .val (.int p3), .val (.int p4), .val (.int p5), .val (.int la), .val (.int c0), .val (.int c1), .val (.int lb), .val (.int b0), .val (.int b1), .val (.int nu), .val (.ref fa), .val (.ref fb), .val (.ref s1), .val (.ref s2), .val (.ref vo13), .val (.ref str15), .unset, .unset, .unset, .unset, .unset, .unset] [(.ref vo16)]) (fun t k => st16 t k) ?_
    refine Goes.to (T' := T16) (mkF m 187 #[.val (.int p0), .val (.int p1), .val (.int p2), .val (.int p3), .val (.int p4), .val (.int p5), .val (.int la), .val (.int c0), .val (.int c1), .val (.int lb), .val (.int b0), .val (.int b1), .val (.int nu), .val (.ref fa), .val (.ref fb), .val (.ref s1), .val (.ref s2), .val (.ref vo13), .val (.ref str15), .val (.ref vo16), .unset, .unset, .unset, .unset, .unset] []) (fun t k => XS.astore X16.here hx rfl (hb hby at_185) rfl rfl (l' := #[.val (.int p0), .val (.int p1), .val (.int p2), .val (.int p3), .val (.int p4), .val (.int p5), .val (.int la), .val (.int c0), .val (.int c1), .val (.int lb), .val (.int b0), .val (.int b1), .val (.int nu), .val (.ref fa), .val (.ref fb), .val (.ref s1), .val (.ref s2), .val (.ref vo13), .val (.ref str15), .val (.ref vo16), .unset, .unset, .unset, .unset, .unset]) rfl k) ?_
    refine Goes.to (T' := T16) (mkF m 189 #[.val (.int p0), .val (.int p1), .val (.int p2), .val (.int p3), .val (.int p4), .val (.int p5), .val (.int la), .val (.int c0), .val (.int c1), .val (.int lb), .val (.int b0), .val (.int b1), .val (.int nu), .val (.ref fa), .val (.ref fb), .val (.ref s1), .val (.ref s2), .val (.ref vo13), .val (.ref str15), .val (.ref vo16), .unset, .unset, .unset, .unset, .unset] [(.int p5)]) (fun t k => XS.iload X16.here hx rfl (hb hby at_187) rfl k) ?_
    refine Goes.to (T' := T16) (mkF m 191 #[.val (.int p0), .val (.int p1), .val (.int p2), .val (.int p3), .val (.int p4), .val (.int p5), .val (.int la), .val (.int c0), .val (.int c1), .val (.int lb), .val (.int b0), .val (.int b1), .val (.int nu), .val (.ref fa), .val (.ref fb), .val (.ref s1), .val (.ref s2), .val (.ref vo13), .val (.ref str15), .val (.ref vo16), .unset, .unset, .unset, .unset, .unset] [(.int (8 : Int32)), (.int p5)]) (fun t k => XS.bipush X16.here hx rfl (hb hby at_189) k) ?_
    refine Goes.to (T' := T16) (mkF m 192 #[.val (.int p0), .val (.int p1), .val (.int p2), .val (.int p3), .val (.int p4), .val (.int p5), .val (.int la), .val (.int c0), .val (.int c1), .val (.int lb), .val (.int b0), .val (.int b1), .val (.int nu), .val (.ref fa), .val (.ref fb), .val (.ref s1), .val (.ref s2), .val (.ref vo13), .val (.ref str15), .val (.ref vo16), .unset, .unset, .unset, .unset, .unset] [(.int ((p5.toUInt32 >>> ((8 : Int32) &&& 31).toUInt32).toInt32))]) (fun t k => XS.iushr X16.here hx rfl (hb hby at_191) rfl k) ?_
    refine Goes.to (T' := T16) (mkF m 195 #[.val (.int p0), .val (.int p1), .val (.int p2), .val (.int p3), .val (.int p4), .val (.int p5), .val (.int la), .val (.int c0), .val (.int c1), .val (.int lb), .val (.int b0), .val (.int b1), .val (.int nu), .val (.ref fa), .val (.ref fb), .val (.ref s1), .val (.ref s2), .val (.ref vo13), .val (.ref str15), .val (.ref vo16), .unset, .unset, .unset, .unset, .unset] [(.int (255 : Int32)), (.int ((p5.toUInt32 >>> ((8 : Int32) &&& 31).toUInt32).toInt32))]) (fun t k => XS.sipush X16.here hx rfl (hb hby at_192) k) ?_
    refine Goes.to (T' := T16) (mkF m 196 #[.val (.int p0), .val (.int p1), .val (.int p2), .val (.int p3), .val (.int p4), .val (.int p5), .val (.int la), .val (.int c0), .val (.int c1), .val (.int lb), .val (.int b0), .val (.int b1), .val (.int nu), .val (.ref fa), .val (.ref fb), .val (.ref s1), .val (.ref s2), .val (.ref vo13), .val (.ref str15), .val (.ref vo16), .unset, .unset, .unset, .unset, .unset] [(.int (((p5.toUInt32 >>> ((8 : Int32) &&& 31).toUInt32).toInt32) &&& (255 : Int32)))]) (fun t k => XS.iand X16.here hx rfl (hb hby at_195) rfl k) ?_
    refine Goes.to (T' := T16) (mkF m 197 #[.val (.int p0), .val (.int p1), .val (.int p2), .val (.int p3), .val (.int p4), .val (.int p5), .val (.int la), .val (.int c0), .val (.int c1), .val (.int lb), .val (.int b0), .val (.int b1), .val (.int nu), .val (.ref fa), .val (.ref fb), .val (.ref s1), .val (.ref s2), .val (.ref vo13), .val (.ref str15), .val (.ref vo16), .unset, .unset, .unset, .unset, .unset] [(.int ((((p5.toUInt32 >>> ((8 : Int32) &&& 31).toUInt32).toInt32) &&& (255 : Int32)).toUInt32.toUInt16.toUInt32.toInt32))]) (fun t k => XS.i2c X16.here hx rfl (hb hby at_196) rfl k) ?_
    obtain ⟨_, _, ⟨T17, L17, k17, n17⟩, -, X17, ⟨Lc17, hQ17, l17, y17, z17⟩, st17⟩ := Jvm.LawKit.callS X16 hx (y := (⟨"java/lang/String", "valueOf", "(C)Ljava/lang/String;"⟩ : MethodName)) hown (mvT hZ (hw _ (List.mem_of_getElem? (i := 21) rfl))) (mvT hZ (hw _ (List.mem_of_getElem? (i := 22) rfl))) (mvT hZ (hw _ (List.mem_of_getElem? (i := 14) rfl))) (mvT hZ (hw _ (List.mem_of_getElem? (i := 23) rfl))) (by decide) (backOf (W := 0) (rm_vof l Z a0 hw [] ((((p5.toUInt32 >>> ((8 : Int32) &&& 31).toUInt32).toInt32) &&& (255 : Int32)).toUInt32.toUInt16.toUInt32.toInt32) cz T16.heap n0 O (own_chb _) S_CS hcz) hZ (hw _ (List.mem_of_getElem? (i := 23) rfl)) (hw _ (List.mem_of_getElem? (i := 14) rfl)) (by decide) (by decide)) (g := (mkF m 197 #[.val (.int p0), .val (.int p1), .val (.int p2), .val (.int p3), .val (.int p4), .val (.int p5), .val (.int la), .val (.int c0), .val (.int c1), .val (.int lb), .val (.int b0), .val (.int b1), .val (.int nu), .val (.ref fa), .val (.ref fb), .val (.ref s1), .val (.ref s2), .val (.ref vo13), .val (.ref str15), .val (.ref vo16), .unset, .unset, .unset, .unset, .unset] [(.int ((((p5.toUInt32 >>> ((8 : Int32) &&& 31).toUInt32).toInt32) &&& (255 : Int32)).toUInt32.toUInt16.toUInt32.toInt32))])) rfl (by rw [hml]; rfl) (argsL := [(.int ((((p5.toUInt32 >>> ((8 : Int32) &&& 31).toUInt32).toInt32) &&& (255 : Int32)).toUInt32.toUInt16.toUInt32.toInt32))]) (rest := []) (lenOf pd_3 rfl) rfl (by show 2 * 0 + _ ≤ _; exact Nat.le_of_eq rfl) (hb hby at_197) (fun _ _ => ⟨rfl, rfl, (by decide : 14 + 2 ≤ _), (by decide : 42 + 5 ≤ _)⟩)
    dsimp only [Pt.U, Pt.locs, Pt.cells, Pt.slots] at X17 l17 y17 z17 st17 hQ17
    subst l17 y17 z17
    obtain ⟨N17, K17, vo17, -, -, -, -, rfl, E_vo17, -, -, -, -⟩ := hQ17
    have N17' := Fr.app N16' N17
    have C' := C.trans (CHr.keep K17 sf0 C.1)
    replace C := C'
    replace E_s1 := E_s1.keep K17
    replace F_v1 := F_v1.keep K17 nin0
    replace F_c1 := F_c1.keep K17 nin0
    replace V_t1 := V_t1.keep K17 nin0
    replace E_s2 := E_s2.keep K17
    replace F_v2 := F_v2.keep K17 nin0
    replace F_c2 := F_c2.keep K17 nin0
    replace V_t2 := V_t2.keep K17 nin0
    replace E_vo13 := E_vo13.keep K17
    replace E_str15 := E_str15.keep K17
    replace F_coder_str15 := F_coder_str15.keep K17 nin0
    replace F_value_str15 := F_value_str15.keep K17 nin0
    replace V_sb15 := V_sb15.keep K17 nin0
    replace E_vo16 := E_vo16.keep K17
    replace O := O.keep K17 all0
    replace hk0 := Nat.le_trans hk0 K17.1
    refine Goes.to (T' := T17) (mkF m 200 #[.val (.int p0), .val (.int p1), .val (.int p2), .val (.int p3), .val (.int p4), .val (.int p5), .val (.int la), .val (.int c0), .val (.int c1), .val (.int lb), .val (.int b0), .val (.int b1), .val (.int nu), .val (.ref fa), .val (.ref fb), .val (.ref s1), .val (.ref s2), .val (.ref vo13), .val (.ref str15), .val (.ref vo16), .unset, .unset, .unset, .unset, .unset] [(.ref vo17)]) (fun t k => st17 t k) ?_
    refine Goes.to (T' := T17) (mkF m 202 #[.val (.int p0), .val (.int p1), .val (.int p2), .val (.int p3), .val (.int p4), .val (.int p5), .val (.int la), .val (.int c0), .val (.int c1), .val (.int lb), .val (.int b0), .val (.int b1), .val (.int nu), .val (.ref fa), .val (.ref fb), .val (.ref s1), .val (.ref s2), .val (.ref vo13), .val (.ref str15), .val (.ref vo16), .val (.ref vo17), .unset, .unset, .unset, .unset] []) (fun t k => XS.astore X17.here hx rfl (hb hby at_200) rfl rfl (l' := #[.val (.int p0), .val (.int p1), .val (.int p2), .val (.int p3), .val (.int p4), .val (.int p5), .val (.int la), .val (.int c0), .val (.int c1), .val (.int lb), .val (.int b0), .val (.int b1), .val (.int nu), .val (.ref fa), .val (.ref fb), .val (.ref s1), .val (.ref s2), .val (.ref vo13), .val (.ref str15), .val (.ref vo16), .val (.ref vo17), .unset, .unset, .unset, .unset]) rfl k) ?_
    obtain ⟨T18, h18, X18, e18, E18, A18, D18, -, st18⟩ := newO X17 hx hZ hown (hw _ (List.mem_of_getElem? (i := 42) rfl)) (hw _ (List.mem_of_getElem? (i := 43) rfl)) (hw _ (List.mem_of_getElem? (i := 44) rfl)) rfl (g := (mkF m 202 #[.val (.int p0), .val (.int p1), .val (.int p2), .val (.int p3), .val (.int p4), .val (.int p5), .val (.int la), .val (.int c0), .val (.int c1), .val (.int lb), .val (.int b0), .val (.int b1), .val (.int nu), .val (.ref fa), .val (.ref fb), .val (.ref s1), .val (.ref s2), .val (.ref vo13), .val (.ref str15), .val (.ref vo16), .val (.ref vo17), .unset, .unset, .unset, .unset] [])) rfl (hb hby at_202) (by decide) (by decide)
    obtain ⟨b18, g18⟩ : ∃ z, z = T17.heap.size := ⟨_, rfl⟩
    rw [← g18] at A18 D18 st18
    have g_b18 : n0 ≤ b18 := Nat.le_trans (O.1 ▸ O.2.1) (Nat.le_of_eq g18.symm)
    have ne_s1_b18 : s1 ≠ b18 := Nat.ne_of_lt (Nat.lt_of_lt_of_le E_s1.lt (Nat.le_of_eq g18.symm))
    have ne_t1_b18 : t1 ≠ b18 := Nat.ne_of_lt (Nat.lt_of_lt_of_le V_t1.lt (Nat.le_of_eq g18.symm))
    have ne_s2_b18 : s2 ≠ b18 := Nat.ne_of_lt (Nat.lt_of_lt_of_le E_s2.lt (Nat.le_of_eq g18.symm))
    have ne_t2_b18 : t2 ≠ b18 := Nat.ne_of_lt (Nat.lt_of_lt_of_le V_t2.lt (Nat.le_of_eq g18.symm))
    have ne_vo13_b18 : vo13 ≠ b18 := Nat.ne_of_lt (Nat.lt_of_lt_of_le E_vo13.lt (Nat.le_of_eq g18.symm))
    have ne_str15_b18 : str15 ≠ b18 := Nat.ne_of_lt (Nat.lt_of_lt_of_le E_str15.lt (Nat.le_of_eq g18.symm))
    have ne_sb15_b18 : sb15 ≠ b18 := Nat.ne_of_lt (Nat.lt_of_lt_of_le V_sb15.lt (Nat.le_of_eq g18.symm))
    have ne_vo16_b18 : vo16 ≠ b18 := Nat.ne_of_lt (Nat.lt_of_lt_of_le E_vo16.lt (Nat.le_of_eq g18.symm))
    have ne_vo17_b18 : vo17 ≠ b18 := Nat.ne_of_lt (Nat.lt_of_lt_of_le E_vo17.lt (Nat.le_of_eq g18.symm))
    replace C := C.trans (CHr.ext E18 C.1)
    replace O := O.ext E18
    replace hk0 := Nat.le_trans hk0 E18.1
    replace E_s1 := E_s1.ext E18
    replace F_v1 := F_v1.ext E18
    replace F_c1 := F_c1.ext E18
    replace V_t1 := V_t1.ext E18
    replace E_s2 := E_s2.ext E18
    replace F_v2 := F_v2.ext E18
    replace F_c2 := F_c2.ext E18
    replace V_t2 := V_t2.ext E18
    replace E_vo13 := E_vo13.ext E18
    replace E_str15 := E_str15.ext E18
    replace F_coder_str15 := F_coder_str15.ext E18
    replace F_value_str15 := F_value_str15.ext E18
    replace V_sb15 := V_sb15.ext E18
    replace E_vo16 := E_vo16.ext E18
    replace E_vo17 := E_vo17.ext E18
    have E_b18 : Exa Z h18 b18 "com/example/forest_in_rows/forestinrows/Installation$OwnColumnDefinition" := A18
    have F_name_b18 : Fld Z h18 b18 "com/example/forest_in_rows/forestinrows/Installation$OwnColumnDefinition" "name" "Ljava/lang/String;" .null := D18 (Or.inr (hw _ (List.mem_of_getElem? (i := 55) rfl))) (ty := (.object "java/lang/String")) (by decide)
    have F_type_b18 : Fld Z h18 b18 "com/example/forest_in_rows/forestinrows/Installation$OwnColumnDefinition" "type" "Ljava/lang/String;" .null := D18 (Or.inr (hw _ (List.mem_of_getElem? (i := 57) rfl))) (ty := (.object "java/lang/String")) (by decide)
    have F_filling_b18 : Fld Z h18 b18 "com/example/forest_in_rows/forestinrows/Installation$OwnColumnDefinition" "filling" "Lcom/example/forest_in_rows/forestinrows/CatalogColumn$Filling;" .null := D18 (Or.inr (hw _ (List.mem_of_getElem? (i := 59) rfl))) (ty := (.object "com/example/forest_in_rows/forestinrows/CatalogColumn$Filling")) (by decide)
    have F_constraints_b18 : Fld Z h18 b18 "com/example/forest_in_rows/forestinrows/Installation$OwnColumnDefinition" "constraints" "Ljava/lang/String;" .null := D18 (Or.inr (hw _ (List.mem_of_getElem? (i := 61) rfl))) (ty := (.object "java/lang/String")) (by decide)
    refine Goes.to (T' := T18) (mkF m 205 #[.val (.int p0), .val (.int p1), .val (.int p2), .val (.int p3), .val (.int p4), .val (.int p5), .val (.int la), .val (.int c0), .val (.int c1), .val (.int lb), .val (.int b0), .val (.int b1), .val (.int nu), .val (.ref fa), .val (.ref fb), .val (.ref s1), .val (.ref s2), .val (.ref vo13), .val (.ref str15), .val (.ref vo16), .val (.ref vo17), .unset, .unset, .unset, .unset] [(.ref b18)]) st18 ?_
    refine Goes.to (T' := T18) (mkF m 206 #[.val (.int p0), .val (.int p1), .val (.int p2), .val (.int p3), .val (.int p4), .val (.int p5), .val (.int la), .val (.int c0), .val (.int c1), .val (.int lb), .val (.int b0), .val (.int b1), .val (.int nu), .val (.ref fa), .val (.ref fb), .val (.ref s1), .val (.ref s2), .val (.ref vo13), .val (.ref str15), .val (.ref vo16), .val (.ref vo17), .unset, .unset, .unset, .unset] [(.ref b18), (.ref b18)]) (fun t k => XS.dup X18.here hx rfl (hb hby at_205) rfl rfl k) ?_
    refine Goes.to (T' := T18) (mkF m 208 #[.val (.int p0), .val (.int p1), .val (.int p2), .val (.int p3), .val (.int p4), .val (.int p5), .val (.int la), .val (.int c0), .val (.int c1), .val (.int lb), .val (.int b0), .val (.int b1), .val (.int nu), .val (.ref fa), .val (.ref fb), .val (.ref s1), .val (.ref s2), .val (.ref vo13), .val (.ref str15), .val (.ref vo16), .val (.ref vo17), .unset, .unset, .unset, .unset] [(.ref vo13), (.ref b18), (.ref b18)]) (fun t k => XS.aload X18.here hx rfl (hb hby at_206) rfl rfl k) ?_
    refine Goes.to (T' := T18) (mkF m 210 #[.val (.int p0), .val (.int p1), .val (.int p2), .val (.int p3), .val (.int p4), .val (.int p5), .val (.int la), .val (.int c0), .val (.int c1), .val (.int lb), .val (.int b0), .val (.int b1), .val (.int nu), .val (.ref fa), .val (.ref fb), .val (.ref s1), .val (.ref s2), .val (.ref vo13), .val (.ref str15), .val (.ref vo16), .val (.ref vo17), .unset, .unset, .unset, .unset] [(.ref s1), (.ref vo13), (.ref b18), (.ref b18)]) (fun t k => XS.aload X18.here hx rfl (hb hby at_208) rfl rfl k) ?_
    refine Goes.to (T' := T18) (mkF m 212 #[.val (.int p0), .val (.int p1), .val (.int p2), .val (.int p3), .val (.int p4), .val (.int p5), .val (.int la), .val (.int c0), .val (.int c1), .val (.int lb), .val (.int b0), .val (.int b1), .val (.int nu), .val (.ref fa), .val (.ref fb), .val (.ref s1), .val (.ref s2), .val (.ref vo13), .val (.ref str15), .val (.ref vo16), .val (.ref vo17), .unset, .unset, .unset, .unset] [(.ref fa), (.ref s1), (.ref vo13), (.ref b18), (.ref b18)]) (fun t k => XS.aload X18.here hx rfl (hb hby at_210) rfl rfl k) ?_
    refine Goes.to (T' := T18) (mkF m 214 #[.val (.int p0), .val (.int p1), .val (.int p2), .val (.int p3), .val (.int p4), .val (.int p5), .val (.int la), .val (.int c0), .val (.int c1), .val (.int lb), .val (.int b0), .val (.int b1), .val (.int nu), .val (.ref fa), .val (.ref fb), .val (.ref s1), .val (.ref s2), .val (.ref vo13), .val (.ref str15), .val (.ref vo16), .val (.ref vo17), .unset, .unset, .unset, .unset] [(.ref str15), (.ref fa), (.ref s1), (.ref vo13), (.ref b18), (.ref b18)]) (fun t k => XS.aload X18.here hx rfl (hb hby at_212) rfl rfl k) ?_
    obtain ⟨_, _, ⟨T19, L19, k19, n19⟩, -, X19, ⟨Lc19, hQ19, l19, y19, z19⟩, st19⟩ := X18.specialBack hx (y := (⟨"com/example/forest_in_rows/forestinrows/Installation$OwnColumnDefinition", "<init>", "(Ljava/lang/String;Ljava/lang/String;Lcom/example/forest_in_rows/forestinrows/CatalogColumn$Filling;Ljava/lang/String;)V"⟩ : MethodName)) rfl hown (mvT hZ (hw _ (List.mem_of_getElem? (i := 45) rfl))) (mvT hZ (hw _ (List.mem_of_getElem? (i := 46) rfl))) (mvT hZ (hw _ (List.mem_of_getElem? (i := 47) rfl))) (by decide) (backOf (W := 1) (rm_ocd l Z a0 hw [] b18 vo13 s1 fa str15 _ _ _ _ h18 n0 O F_name_b18 F_type_b18 F_filling_b18 F_constraints_b18 E_b18 g_b18) hZ (hw _ (List.mem_of_getElem? (i := 47) rfl)) (hw _ (List.mem_of_getElem? (i := 44) rfl)) (by decide) (by decide)) (g := (mkF m 214 #[.val (.int p0), .val (.int p1), .val (.int p2), .val (.int p3), .val (.int p4), .val (.int p5), .val (.int la), .val (.int c0), .val (.int c1), .val (.int lb), .val (.int b0), .val (.int b1), .val (.int nu), .val (.ref fa), .val (.ref fb), .val (.ref s1), .val (.ref s2), .val (.ref vo13), .val (.ref str15), .val (.ref vo16), .val (.ref vo17), .unset, .unset, .unset, .unset] [(.ref str15), (.ref fa), (.ref s1), (.ref vo13), (.ref b18), (.ref b18)])) rfl (by rw [hml]; rfl) (Steps.refl _) (a := b18) (argsL := [(.ref vo13), (.ref s1), (.ref fa), (.ref str15)]) (rest := [(.ref b18)]) (lenOf pd_11 rfl) rfl (by show 2 * 0 + _ ≤ _; exact Nat.le_of_eq rfl) (hb hby at_214) (fun _ _ => ⟨rfl, e18, (by decide : 17 + 0 ≤ _), (by decide : 51 + 0 ≤ _)⟩)
    dsimp only [Pt.U, Pt.locs, Pt.cells, Pt.slots] at X19 l19 y19 z19 st19 hQ19
    subst l19 y19 z19
    obtain ⟨rfl, N19, K19, F_type_b18, F_filling_b18⟩ := hQ19
    have N19' := Fr.app N17' N19
    have C' := C.trans (CHr.keep K19 (sfS (Safe.exa hZ.alike E_b18 (by decide) (by decide)) sf0) C.1)
    replace C := C'
    replace E_s1 := E_s1.keep K19
    replace F_v1 := F_v1.keep K19 (ninS ne_s1_b18 (nin0))
    replace F_c1 := F_c1.keep K19 (ninS ne_s1_b18 (nin0))
    replace V_t1 := V_t1.keep K19 (ninS ne_t1_b18 (nin0))
    replace E_s2 := E_s2.keep K19
    replace F_v2 := F_v2.keep K19 (ninS ne_s2_b18 (nin0))
    replace F_c2 := F_c2.keep K19 (ninS ne_s2_b18 (nin0))
    replace V_t2 := V_t2.keep K19 (ninS ne_t2_b18 (nin0))
    replace E_vo13 := E_vo13.keep K19
    replace E_str15 := E_str15.keep K19
    replace F_coder_str15 := F_coder_str15.keep K19 (ninS ne_str15_b18 (nin0))
    replace F_value_str15 := F_value_str15.keep K19 (ninS ne_str15_b18 (nin0))
    replace V_sb15 := V_sb15.keep K19 (ninS ne_sb15_b18 (nin0))
    replace E_vo16 := E_vo16.keep K19
    replace E_vo17 := E_vo17.keep K19
    replace E_b18 := E_b18.keep K19
    replace O := O.keep K19 (allS g_b18 all0)
    replace hk0 := Nat.le_trans hk0 K19.1
    refine Goes.to (T' := T19) (mkF m 217 #[.val (.int p0), .val (.int p1), .val (.int p2), .val (.int p3), .val (.int p4), .val (.int p5), .val (.int la), .val (.int c0), .val (.int c1), .val (.int lb), .val (.int b0), .val (.int b1), .val (.int nu), .val (.ref fa), .val (.ref fb), .val (.ref s1), .val (.ref s2), .val (.ref vo13), .val (.ref str15), .val (.ref vo16), .val (.ref vo17), .unset, .unset, .unset, .unset] [(.ref b18)]) (fun t k => st19.trans k) ?_
    refine Goes.to (T' := T19) (mkF m 219 #[.val (.int p0), .val (.int p1), .val (.int p2), .val (.int p3), .val (.int p4), .val (.int p5), .val (.int la), .val (.int c0), .val (.int c1), .val (.int lb), .val (.int b0), .val (.int b1), .val (.int nu), .val (.ref fa), .val (.ref fb), .val (.ref s1), .val (.ref s2), .val (.ref vo13), .val (.ref str15), .val (.ref vo16), .val (.ref vo17), .val (.ref b18), .unset, .unset, .unset] []) (fun t k => XS.astore X19.here hx rfl (hb hby at_217) rfl rfl (l' := #[.val (.int p0), .val (.int p1), .val (.int p2), .val (.int p3), .val (.int p4), .val (.int p5), .val (.int la), .val (.int c0), .val (.int c1), .val (.int lb), .val (.int b0), .val (.int b1), .val (.int nu), .val (.ref fa), .val (.ref fb), .val (.ref s1), .val (.ref s2), .val (.ref vo13), .val (.ref str15), .val (.ref vo16), .val (.ref vo17), .val (.ref b18), .unset, .unset, .unset]) rfl k) ?_
    refine Goes.to (T' := T19) (mkF m 221 #[.val (.int p0), .val (.int p1), .val (.int p2), .val (.int p3), .val (.int p4), .val (.int p5), .val (.int la), .val (.int c0), .val (.int c1), .val (.int lb), .val (.int b0), .val (.int b1), .val (.int nu), .val (.ref fa), .val (.ref fb), .val (.ref s1), .val (.ref s2), .val (.ref vo13), .val (.ref str15), .val (.ref vo16), .val (.ref vo17), .val (.ref b18), .unset, .unset, .unset] [(.int nu)]) (fun t k => XS.iload X19.here hx rfl (hb hby at_219) rfl k) ?_
    by_cases hc221_20 : nu = (0 : Int32)
    · refine Goes.to (T' := T19) (mkF m 228 #[.val (.int p0), .val (.int p1), .val (.int p2), .val (.int p3), .val (.int p4), .val (.int p5), .val (.int la), .val (.int c0), .val (.int c1), .val (.int lb), .val (.int b0), .val (.int b1), .val (.int nu), .val (.ref fa), .val (.ref fb), .val (.ref s1), .val (.ref s2), .val (.ref vo13), .val (.ref str15), .val (.ref vo16), .val (.ref vo17), .val (.ref b18), .unset, .unset, .unset] []) (fun t k => XS.ifYes X19.here hx rfl (pc0 := 221) (pc' := 228) rfl (hb hby at_221) rfl ((if0 _ _).trans (teq hc221_20).1) (by decide) (by decide) k) ?_
      obtain ⟨T21, h21, X21, e21, E21, A21, D21, -, st21⟩ := newO X19 hx hZ hown (hw _ (List.mem_of_getElem? (i := 69) rfl)) (hw _ (List.mem_of_getElem? (i := 70) rfl)) (hw _ (List.mem_of_getElem? (i := 71) rfl)) rfl (g := (mkF m 228 #[.val (.int p0), .val (.int p1), .val (.int p2), .val (.int p3), .val (.int p4), .val (.int p5), .val (.int la), .val (.int c0), .val (.int c1), .val (.int lb), .val (.int b0), .val (.int b1), .val (.int nu), .val (.ref fa), .val (.ref fb), .val (.ref s1), .val (.ref s2), .val (.ref vo13), .val (.ref str15), .val (.ref vo16), .val (.ref vo17), .val (.ref b18), .unset, .unset, .unset] [])) rfl (hb hby at_228) (by decide) (by decide)
      obtain ⟨b21, g21⟩ : ∃ z, z = T19.heap.size := ⟨_, rfl⟩
      rw [← g21] at A21 D21 st21
      have g_b21 : n0 ≤ b21 := Nat.le_trans (O.1 ▸ O.2.1) (Nat.le_of_eq g21.symm)
      have ne_s1_b21 : s1 ≠ b21 := Nat.ne_of_lt (Nat.lt_of_lt_of_le E_s1.lt (Nat.le_of_eq g21.symm))
      have ne_t1_b21 : t1 ≠ b21 := Nat.ne_of_lt (Nat.lt_of_lt_of_le V_t1.lt (Nat.le_of_eq g21.symm))
      have ne_s2_b21 : s2 ≠ b21 := Nat.ne_of_lt (Nat.lt_of_lt_of_le E_s2.lt (Nat.le_of_eq g21.symm))
      have ne_t2_b21 : t2 ≠ b21 := Nat.ne_of_lt (Nat.lt_of_lt_of_le V_t2.lt (Nat.le_of_eq g21.symm))
      have ne_vo13_b21 : vo13 ≠ b21 := Nat.ne_of_lt (Nat.lt_of_lt_of_le E_vo13.lt (Nat.le_of_eq g21.symm))
      have ne_str15_b21 : str15 ≠ b21 := Nat.ne_of_lt (Nat.lt_of_lt_of_le E_str15.lt (Nat.le_of_eq g21.symm))
      have ne_sb15_b21 : sb15 ≠ b21 := Nat.ne_of_lt (Nat.lt_of_lt_of_le V_sb15.lt (Nat.le_of_eq g21.symm))
      have ne_vo16_b21 : vo16 ≠ b21 := Nat.ne_of_lt (Nat.lt_of_lt_of_le E_vo16.lt (Nat.le_of_eq g21.symm))
      have ne_vo17_b21 : vo17 ≠ b21 := Nat.ne_of_lt (Nat.lt_of_lt_of_le E_vo17.lt (Nat.le_of_eq g21.symm))
      have ne_b18_b21 : b18 ≠ b21 := Nat.ne_of_lt (Nat.lt_of_lt_of_le E_b18.lt (Nat.le_of_eq g21.symm))
      replace C := C.trans (CHr.ext E21 C.1)
      replace O := O.ext E21
      replace hk0 := Nat.le_trans hk0 E21.1
      replace E_s1 := E_s1.ext E21
      replace F_v1 := F_v1.ext E21
      replace F_c1 := F_c1.ext E21
      replace V_t1 := V_t1.ext E21
      replace E_s2 := E_s2.ext E21
      replace F_v2 := F_v2.ext E21
      replace F_c2 := F_c2.ext E21
      replace V_t2 := V_t2.ext E21
      replace E_vo13 := E_vo13.ext E21
      replace E_str15 := E_str15.ext E21
      replace F_coder_str15 := F_coder_str15.ext E21
      replace F_value_str15 := F_value_str15.ext E21
      replace V_sb15 := V_sb15.ext E21
      replace E_vo16 := E_vo16.ext E21
      replace E_vo17 := E_vo17.ext E21
      replace E_b18 := E_b18.ext E21
      replace F_type_b18 := F_type_b18.ext E21
      replace F_filling_b18 := F_filling_b18.ext E21
      have E_b21 : Exa Z h21 b21 "com/example/forest_in_rows/forestinrows/CatalogColumn" := A21
      have F_type_b21 : Fld Z h21 b21 "com/example/forest_in_rows/forestinrows/CatalogColumn" "type" "Ljava/lang/String;" .null := D21 (Or.inr (hw _ (List.mem_of_getElem? (i := 77) rfl))) (ty := (.object "java/lang/String")) (by decide)
      have F_filling_b21 : Fld Z h21 b21 "com/example/forest_in_rows/forestinrows/CatalogColumn" "filling" "Lcom/example/forest_in_rows/forestinrows/CatalogColumn$Filling;" .null := D21 (Or.inr (hw _ (List.mem_of_getElem? (i := 79) rfl))) (ty := (.object "com/example/forest_in_rows/forestinrows/CatalogColumn$Filling")) (by decide)
      have F_collatable_b21 : Fld Z h21 b21 "com/example/forest_in_rows/forestinrows/CatalogColumn" "collatable" "Z" (.int (0 : Int32)) := D21 (Or.inr (hw _ (List.mem_of_getElem? (i := 81) rfl))) (ty := .boolean) (by decide)
      have F_sortable_b21 : Fld Z h21 b21 "com/example/forest_in_rows/forestinrows/CatalogColumn" "sortable" "Z" (.int (0 : Int32)) := D21 (Or.inr (hw _ (List.mem_of_getElem? (i := 83) rfl))) (ty := .boolean) (by decide)
      have F_declaredType_b21 : Fld Z h21 b21 "com/example/forest_in_rows/forestinrows/CatalogColumn" "declaredType" "Ljava/lang/String;" .null := D21 (Or.inr (hw _ (List.mem_of_getElem? (i := 85) rfl))) (ty := (.object "java/lang/String")) (by decide)
      have F_baseType_b21 : Fld Z h21 b21 "com/example/forest_in_rows/forestinrows/CatalogColumn" "baseType" "Ljava/lang/String;" .null := D21 (Or.inr (hw _ (List.mem_of_getElem? (i := 87) rfl))) (ty := (.object "java/lang/String")) (by decide)
      have F_baseTypeKeepsModifiers_b21 : Fld Z h21 b21 "com/example/forest_in_rows/forestinrows/CatalogColumn" "baseTypeKeepsModifiers" "Z" (.int (0 : Int32)) := D21 (Or.inr (hw _ (List.mem_of_getElem? (i := 89) rfl))) (ty := .boolean) (by decide)
      refine Goes.to (T' := T21) (mkF m 231 #[.val (.int p0), .val (.int p1), .val (.int p2), .val (.int p3), .val (.int p4), .val (.int p5), .val (.int la), .val (.int c0), .val (.int c1), .val (.int lb), .val (.int b0), .val (.int b1), .val (.int nu), .val (.ref fa), .val (.ref fb), .val (.ref s1), .val (.ref s2), .val (.ref vo13), .val (.ref str15), .val (.ref vo16), .val (.ref vo17), .val (.ref b18), .unset, .unset, .unset] [(.ref b21)]) st21 ?_
      refine Goes.to (T' := T21) (mkF m 232 #[.val (.int p0), .val (.int p1), .val (.int p2), .val (.int p3), .val (.int p4), .val (.int p5), .val (.int la), .val (.int c0), .val (.int c1), .val (.int lb), .val (.int b0), .val (.int b1), .val (.int nu), .val (.ref fa), .val (.ref fb), .val (.ref s1), .val (.ref s2), .val (.ref vo13), .val (.ref str15), .val (.ref vo16), .val (.ref vo17), .val (.ref b18), .unset, .unset, .unset] [(.ref b21), (.ref b21)]) (fun t k => XS.dup X21.here hx rfl (hb hby at_231) rfl rfl k) ?_
      refine Goes.to (T' := T21) (mkF m 234 #[.val (.int p0), .val (.int p1), .val (.int p2), .val (.int p3), .val (.int p4), .val (.int p5), .val (.int la), .val (.int c0), .val (.int c1), .val (.int lb), .val (.int b0), .val (.int b1), .val (.int nu), .val (.ref fa), .val (.ref fb), .val (.ref s1), .val (.ref s2), .val (.ref vo13), .val (.ref str15), .val (.ref vo16), .val (.ref vo17), .val (.ref b18), .unset, .unset, .unset] [(.ref s2), (.ref b21), (.ref b21)]) (fun t k => XS.aload X21.here hx rfl (hb hby at_232) rfl rfl k) ?_
      refine Goes.to (T' := T21) (mkF m 236 #[.val (.int p0), .val (.int p1), .val (.int p2), .val (.int p3), .val (.int p4), .val (.int p5), .val (.int la), .val (.int c0), .val (.int c1), .val (.int lb), .val (.int b0), .val (.int b1), .val (.int nu), .val (.ref fa), .val (.ref fb), .val (.ref s1), .val (.ref s2), .val (.ref vo13), .val (.ref str15), .val (.ref vo16), .val (.ref vo17), .val (.ref b18), .unset, .unset, .unset] [(.ref fb), (.ref s2), (.ref b21), (.ref b21)]) (fun t k => XS.aload X21.here hx rfl (hb hby at_234) rfl rfl k) ?_
      refine Goes.to (T' := T21) (mkF m 238 #[.val (.int p0), .val (.int p1), .val (.int p2), .val (.int p3), .val (.int p4), .val (.int p5), .val (.int la), .val (.int c0), .val (.int c1), .val (.int lb), .val (.int b0), .val (.int b1), .val (.int nu), .val (.ref fa), .val (.ref fb), .val (.ref s1), .val (.ref s2), .val (.ref vo13), .val (.ref str15), .val (.ref vo16), .val (.ref vo17), .val (.ref b18), .unset, .unset, .unset] [(.int p5), (.ref fb), (.ref s2), (.ref b21), (.ref b21)]) (fun t k => XS.iload X21.here hx rfl (hb hby at_236) rfl k) ?_
      refine Goes.to (T' := T21) (mkF m 240 #[.val (.int p0), .val (.int p1), .val (.int p2), .val (.int p3), .val (.int p4), .val (.int p5), .val (.int la), .val (.int c0), .val (.int c1), .val (.int lb), .val (.int b0), .val (.int b1), .val (.int nu), .val (.ref fa), .val (.ref fb), .val (.ref s1), .val (.ref s2), .val (.ref vo13), .val (.ref str15), .val (.ref vo16), .val (.ref vo17), .val (.ref b18), .unset, .unset, .unset] [(.int (25 : Int32)), (.int p5), (.ref fb), (.ref s2), (.ref b21), (.ref b21)]) (fun t k => XS.bipush X21.here hx rfl (hb hby at_238) k) ?_
      refine Goes.to (T' := T21) (mkF m 241 #[.val (.int p0), .val (.int p1), .val (.int p2), .val (.int p3), .val (.int p4), .val (.int p5), .val (.int la), .val (.int c0), .val (.int c1), .val (.int lb), .val (.int b0), .val (.int b1), .val (.int nu), .val (.ref fa), .val (.ref fb), .val (.ref s1), .val (.ref s2), .val (.ref vo13), .val (.ref str15), .val (.ref vo16), .val (.ref vo17), .val (.ref b18), .unset, .unset, .unset] [(.int ((p5.toUInt32 >>> ((25 : Int32) &&& 31).toUInt32).toInt32)), (.ref fb), (.ref s2), (.ref b21), (.ref b21)]) (fun t k => XS.iushr X21.here hx rfl (hb hby at_240) rfl k) ?_
      refine Goes.to (T' := T21) (mkF m 242 #[.val (.int p0), .val (.int p1), .val (.int p2), .val (.int p3), .val (.int p4), .val (.int p5), .val (.int la), .val (.int c0), .val (.int c1), .val (.int lb), .val (.int b0), .val (.int b1), .val (.int nu), .val (.ref fa), .val (.ref fb), .val (.ref s1), .val (.ref s2), .val (.ref vo13), .val (.ref str15), .val (.ref vo16), .val (.ref vo17), .val (.ref b18), .unset, .unset, .unset] [(.int (1 : Int32)), (.int ((p5.toUInt32 >>> ((25 : Int32) &&& 31).toUInt32).toInt32)), (.ref fb), (.ref s2), (.ref b21), (.ref b21)]) (fun t k => XS.iconst X21.here hx rfl (hb hby at_241) k) ?_
      refine Goes.to (T' := T21) (mkF m 243 #[.val (.int p0), .val (.int p1), .val (.int p2), .val (.int p3), .val (.int p4), .val (.int p5), .val (.int la), .val (.int c0), .val (.int c1), .val (.int lb), .val (.int b0), .val (.int b1), .val (.int nu), .val (.ref fa), .val (.ref fb), .val (.ref s1), .val (.ref s2), .val (.ref vo13), .val (.ref str15), .val (.ref vo16), .val (.ref vo17), .val (.ref b18), .unset, .unset, .unset] [(.int (((p5.toUInt32 >>> ((25 : Int32) &&& 31).toUInt32).toInt32) &&& (1 : Int32))), (.ref fb), (.ref s2), (.ref b21), (.ref b21)]) (fun t k => XS.iand X21.here hx rfl (hb hby at_242) rfl k) ?_
      have D243_22 : ∀ t, Steps p.tables e below (T21.setTop (mkF m 251 #[.val (.int p0), .val (.int p1), .val (.int p2), .val (.int p3), .val (.int p4), .val (.int p5), .val (.int la), .val (.int c0), .val (.int c1), .val (.int lb), .val (.int b0), .val (.int b1), .val (.int nu), .val (.ref fa), .val (.ref fb), .val (.ref s1), .val (.ref s2), .val (.ref vo13), .val (.ref str15), .val (.ref vo16), .val (.ref vo17), .val (.ref b18), .unset, .unset, .unset] [(.int (if (((p5.toUInt32 >>> ((25 : Int32) &&& 31).toUInt32).toInt32) &&& (1 : Int32)) = (0 : Int32) then (0 : Int32) else (1 : Int32))), (.ref fb), (.ref s2), (.ref b21), (.ref b21)])) t → Steps p.tables e below (T21.setTop (mkF m 243 #[.val (.int p0), .val (.int p1), .val (.int p2), .val (.int p3), .val (.int p4), .val (.int p5), .val (.int la), .val (.int c0), .val (.int c1), .val (.int lb), .val (.int b0), .val (.int b1), .val (.int nu), .val (.ref fa), .val (.ref fb), .val (.ref s1), .val (.ref s2), .val (.ref vo13), .val (.ref str15), .val (.ref vo16), .val (.ref vo17), .val (.ref b18), .unset, .unset, .unset] [(.int (((p5.toUInt32 >>> ((25 : Int32) &&& 31).toUInt32).toInt32) &&& (1 : Int32))), (.ref fb), (.ref s2), (.ref b21), (.ref b21)])) t := by
        intro t k
        by_cases hq : (((p5.toUInt32 >>> ((25 : Int32) &&& 31).toUInt32).toInt32) &&& (1 : Int32)) = (0 : Int32)
        · simp only [if_pos hq] at k
          refine XS.ifYes X21.here hx rfl (pc0 := 243) (pc' := 250) rfl (hb hby at_243) rfl ((if0 _ _).trans (teq hq).1) (by decide) (by decide) ?_
          show Steps p.tables e below (T21.setTop (mkF m 250 #[.val (.int p0), .val (.int p1), .val (.int p2), .val (.int p3), .val (.int p4), .val (.int p5), .val (.int la), .val (.int c0), .val (.int c1), .val (.int lb), .val (.int b0), .val (.int b1), .val (.int nu), .val (.ref fa), .val (.ref fb), .val (.ref s1), .val (.ref s2), .val (.ref vo13), .val (.ref str15), .val (.ref vo16), .val (.ref vo17), .val (.ref b18), .unset, .unset, .unset] [(.ref fb), (.ref s2), (.ref b21), (.ref b21)])) _
          refine XS.iconst X21.here hx rfl (hb hby at_250) ?_
          show Steps p.tables e below (T21.setTop (mkF m 251 #[.val (.int p0), .val (.int p1), .val (.int p2), .val (.int p3), .val (.int p4), .val (.int p5), .val (.int la), .val (.int c0), .val (.int c1), .val (.int lb), .val (.int b0), .val (.int b1), .val (.int nu), .val (.ref fa), .val (.ref fb), .val (.ref s1), .val (.ref s2), .val (.ref vo13), .val (.ref str15), .val (.ref vo16), .val (.ref vo17), .val (.ref b18), .unset, .unset, .unset] [(.int (0 : Int32)), (.ref fb), (.ref s2), (.ref b21), (.ref b21)])) _
          exact k
        · simp only [if_neg hq] at k
          refine XS.ifNo X21.here hx rfl (hb hby at_243) rfl ((if0 _ _).trans (feq hq).1) ?_
          show Steps p.tables e below (T21.setTop (mkF m 246 #[.val (.int p0), .val (.int p1), .val (.int p2), .val (.int p3), .val (.int p4), .val (.int p5), .val (.int la), .val (.int c0), .val (.int c1), .val (.int lb), .val (.int b0), .val (.int b1), .val (.int nu), .val (.ref fa), .val (.ref fb), .val (.ref s1), .val (.ref s2), .val (.ref vo13), .val (.ref str15), .val (.ref vo16), .val (.ref vo17), .val (.ref b18), .unset, .unset, .unset] [(.ref fb), (.ref s2), (.ref b21), (.ref b21)])) _
          refine XS.iconst X21.here hx rfl (hb hby at_246) ?_
          show Steps p.tables e below (T21.setTop (mkF m 247 #[.val (.int p0), .val (.int p1), .val (.int p2), .val (.int p3), .val (.int p4), .val (.int p5), .val (.int la), .val (.int c0), .val (.int c1), .val (.int lb), .val (.int b0), .val (.int b1), .val (.int nu), .val (.ref fa), .val (.ref fb), .val (.ref s1), .val (.ref s2), .val (.ref vo13), .val (.ref str15), .val (.ref vo16), .val (.ref vo17), .val (.ref b18), .unset, .unset, .unset] [(.int (1 : Int32)), (.ref fb), (.ref s2), (.ref b21), (.ref b21)])) _
          refine XS.goto X21.here hx rfl (pc0 := 247) (pc' := 251) rfl (hb hby at_247) (by decide) (by decide) ?_
          show Steps p.tables e below (T21.setTop (mkF m 251 #[.val (.int p0), .val (.int p1), .val (.int p2), .val (.int p3), .val (.int p4), .val (.int p5), .val (.int la), .val (.int c0), .val (.int c1), .val (.int lb), .val (.int b0), .val (.int b1), .val (.int nu), .val (.ref fa), .val (.ref fb), .val (.ref s1), .val (.ref s2), .val (.ref vo13), .val (.ref str15), .val (.ref vo16), .val (.ref vo17), .val (.ref b18), .unset, .unset, .unset] [(.int (1 : Int32)), (.ref fb), (.ref s2), (.ref b21), (.ref b21)])) _
          exact k
      refine Goes.to (T' := T21) (mkF m 251 #[.val (.int p0), .val (.int p1), .val (.int p2), .val (.int p3), .val (.int p4), .val (.int p5), .val (.int la), .val (.int c0), .val (.int c1), .val (.int lb), .val (.int b0), .val (.int b1), .val (.int nu), .val (.ref fa), .val (.ref fb), .val (.ref s1), .val (.ref s2), .val (.ref vo13), .val (.ref str15), .val (.ref vo16), .val (.ref vo17), .val (.ref b18), .unset, .unset, .unset] [(.int (if (((p5.toUInt32 >>> ((25 : Int32) &&& 31).toUInt32).toInt32) &&& (1 : Int32)) = (0 : Int32) then (0 : Int32) else (1 : Int32))), (.ref fb), (.ref s2), (.ref b21), (.ref b21)]) D243_22 ?_
      obtain ⟨q1, q1_eq⟩ : ∃ z, z = (if (((p5.toUInt32 >>> ((25 : Int32) &&& 31).toUInt32).toInt32) &&& (1 : Int32)) = (0 : Int32) then (0 : Int32) else (1 : Int32)) := ⟨_, rfl⟩
      rw [← q1_eq]
      refine Goes.to (T' := T21) (mkF m 253 #[.val (.int p0), .val (.int p1), .val (.int p2), .val (.int p3), .val (.int p4), .val (.int p5), .val (.int la), .val (.int c0), .val (.int c1), .val (.int lb), .val (.int b0), .val (.int b1), .val (.int nu), .val (.ref fa), .val (.ref fb), .val (.ref s1), .val (.ref s2), .val (.ref vo13), .val (.ref str15), .val (.ref vo16), .val (.ref vo17), .val (.ref b18), .unset, .unset, .unset] [(.int p5), (.int q1), (.ref fb), (.ref s2), (.ref b21), (.ref b21)]) (fun t k => XS.iload X21.here hx rfl (hb hby at_251) rfl k) ?_
      refine Goes.to (T' := T21) (mkF m 255 #[.val (.int p0), .val (.int p1), .val (.int p2), .val (.int p3), .val (.int p4), .val (.int p5), .val (.int la), .val (.int c0), .val (.int c1), .val (.int lb), .val (.int b0), .val (.int b1), .val (.int nu), .val (.ref fa), .val (.ref fb), .val (.ref s1), .val (.ref s2), .val (.ref vo13), .val (.ref str15), .val (.ref vo16), .val (.ref vo17), .val (.ref b18), .unset, .unset, .unset] [(.int (26 : Int32)), (.int p5), (.int q1), (.ref fb), (.ref s2), (.ref b21), (.ref b21)]) (fun t k => XS.bipush X21.here hx rfl (hb hby at_253) k) ?_
      refine Goes.to (T' := T21) (mkF m 256 #[.val (.int p0), .val (.int p1), .val (.int p2), .val (.int p3), .val (.int p4), .val (.int p5), .val (.int la), .val (.int c0), .val (.int c1), .val (.int lb), .val (.int b0), .val (.int b1), .val (.int nu), .val (.ref fa), .val (.ref fb), .val (.ref s1), .val (.ref s2), .val (.ref vo13), .val (.ref str15), .val (.ref vo16), .val (.ref vo17), .val (.ref b18), .unset, .unset, .unset] [(.int ((p5.toUInt32 >>> ((26 : Int32) &&& 31).toUInt32).toInt32)), (.int q1), (.ref fb), (.ref s2), (.ref b21), (.ref b21)]) (fun t k => XS.iushr X21.here hx rfl (hb hby at_255) rfl k) ?_
      refine Goes.to (T' := T21) (mkF m 257 #[.val (.int p0), .val (.int p1), .val (.int p2), .val (.int p3), .val (.int p4), .val (.int p5), .val (.int la), .val (.int c0), .val (.int c1), .val (.int lb), .val (.int b0), .val (.int b1), .val (.int nu), .val (.ref fa), .val (.ref fb), .val (.ref s1), .val (.ref s2), .val (.ref vo13), .val (.ref str15), .val (.ref vo16), .val (.ref vo17), .val (.ref b18), .unset, .unset, .unset] [(.int (1 : Int32)), (.int ((p5.toUInt32 >>> ((26 : Int32) &&& 31).toUInt32).toInt32)), (.int q1), (.ref fb), (.ref s2), (.ref b21), (.ref b21)]) (fun t k => XS.iconst X21.here hx rfl (hb hby at_256) k) ?_
      refine Goes.to (T' := T21) (mkF m 258 #[.val (.int p0), .val (.int p1), .val (.int p2), .val (.int p3), .val (.int p4), .val (.int p5), .val (.int la), .val (.int c0), .val (.int c1), .val (.int lb), .val (.int b0), .val (.int b1), .val (.int nu), .val (.ref fa), .val (.ref fb), .val (.ref s1), .val (.ref s2), .val (.ref vo13), .val (.ref str15), .val (.ref vo16), .val (.ref vo17), .val (.ref b18), .unset, .unset, .unset] [(.int (((p5.toUInt32 >>> ((26 : Int32) &&& 31).toUInt32).toInt32) &&& (1 : Int32))), (.int q1), (.ref fb), (.ref s2), (.ref b21), (.ref b21)]) (fun t k => XS.iand X21.here hx rfl (hb hby at_257) rfl k) ?_
      have D258_24 : ∀ t, Steps p.tables e below (T21.setTop (mkF m 266 #[.val (.int p0), .val (.int p1), .val (.int p2), .val (.int p3), .val (.int p4), .val (.int p5), .val (.int la), .val (.int c0), .val (.int c1), .val (.int lb), .val (.int b0), .val (.int b1), .val (.int nu), .val (.ref fa), .val (.ref fb), .val (.ref s1), .val (.ref s2), .val (.ref vo13), .val (.ref str15), .val (.ref vo16), .val (.ref vo17), .val (.ref b18), .unset, .unset, .unset] [(.int (if (((p5.toUInt32 >>> ((26 : Int32) &&& 31).toUInt32).toInt32) &&& (1 : Int32)) = (0 : Int32) then (0 : Int32) else (1 : Int32))), (.int q1), (.ref fb), (.ref s2), (.ref b21), (.ref b21)])) t → Steps p.tables e below (T21.setTop (mkF m 258 #[.val (.int p0), .val (.int p1), .val (.int p2), .val (.int p3), .val (.int p4), .val (.int p5), .val (.int la), .val (.int c0), .val (.int c1), .val (.int lb), .val (.int b0), .val (.int b1), .val (.int nu), .val (.ref fa), .val (.ref fb), .val (.ref s1), .val (.ref s2), .val (.ref vo13), .val (.ref str15), .val (.ref vo16), .val (.ref vo17), .val (.ref b18), .unset, .unset, .unset] [(.int (((p5.toUInt32 >>> ((26 : Int32) &&& 31).toUInt32).toInt32) &&& (1 : Int32))), (.int q1), (.ref fb), (.ref s2), (.ref b21), (.ref b21)])) t := by
        intro t k
        by_cases hq : (((p5.toUInt32 >>> ((26 : Int32) &&& 31).toUInt32).toInt32) &&& (1 : Int32)) = (0 : Int32)
        · simp only [if_pos hq] at k
          refine XS.ifYes X21.here hx rfl (pc0 := 258) (pc' := 265) rfl (hb hby at_258) rfl ((if0 _ _).trans (teq hq).1) (by decide) (by decide) ?_
          show Steps p.tables e below (T21.setTop (mkF m 265 #[.val (.int p0), .val (.int p1), .val (.int p2), .val (.int p3), .val (.int p4), .val (.int p5), .val (.int la), .val (.int c0), .val (.int c1), .val (.int lb), .val (.int b0), .val (.int b1), .val (.int nu), .val (.ref fa), .val (.ref fb), .val (.ref s1), .val (.ref s2), .val (.ref vo13), .val (.ref str15), .val (.ref vo16), .val (.ref vo17), .val (.ref b18), .unset, .unset, .unset] [(.int q1), (.ref fb), (.ref s2), (.ref b21), (.ref b21)])) _
          refine XS.iconst X21.here hx rfl (hb hby at_265) ?_
          show Steps p.tables e below (T21.setTop (mkF m 266 #[.val (.int p0), .val (.int p1), .val (.int p2), .val (.int p3), .val (.int p4), .val (.int p5), .val (.int la), .val (.int c0), .val (.int c1), .val (.int lb), .val (.int b0), .val (.int b1), .val (.int nu), .val (.ref fa), .val (.ref fb), .val (.ref s1), .val (.ref s2), .val (.ref vo13), .val (.ref str15), .val (.ref vo16), .val (.ref vo17), .val (.ref b18), .unset, .unset, .unset] [(.int (0 : Int32)), (.int q1), (.ref fb), (.ref s2), (.ref b21), (.ref b21)])) _
          exact k
        · simp only [if_neg hq] at k
          refine XS.ifNo X21.here hx rfl (hb hby at_258) rfl ((if0 _ _).trans (feq hq).1) ?_
          show Steps p.tables e below (T21.setTop (mkF m 261 #[.val (.int p0), .val (.int p1), .val (.int p2), .val (.int p3), .val (.int p4), .val (.int p5), .val (.int la), .val (.int c0), .val (.int c1), .val (.int lb), .val (.int b0), .val (.int b1), .val (.int nu), .val (.ref fa), .val (.ref fb), .val (.ref s1), .val (.ref s2), .val (.ref vo13), .val (.ref str15), .val (.ref vo16), .val (.ref vo17), .val (.ref b18), .unset, .unset, .unset] [(.int q1), (.ref fb), (.ref s2), (.ref b21), (.ref b21)])) _
          refine XS.iconst X21.here hx rfl (hb hby at_261) ?_
          show Steps p.tables e below (T21.setTop (mkF m 262 #[.val (.int p0), .val (.int p1), .val (.int p2), .val (.int p3), .val (.int p4), .val (.int p5), .val (.int la), .val (.int c0), .val (.int c1), .val (.int lb), .val (.int b0), .val (.int b1), .val (.int nu), .val (.ref fa), .val (.ref fb), .val (.ref s1), .val (.ref s2), .val (.ref vo13), .val (.ref str15), .val (.ref vo16), .val (.ref vo17), .val (.ref b18), .unset, .unset, .unset] [(.int (1 : Int32)), (.int q1), (.ref fb), (.ref s2), (.ref b21), (.ref b21)])) _
          refine XS.goto X21.here hx rfl (pc0 := 262) (pc' := 266) rfl (hb hby at_262) (by decide) (by decide) ?_
          show Steps p.tables e below (T21.setTop (mkF m 266 #[.val (.int p0), .val (.int p1), .val (.int p2), .val (.int p3), .val (.int p4), .val (.int p5), .val (.int la), .val (.int c0), .val (.int c1), .val (.int lb), .val (.int b0), .val (.int b1), .val (.int nu), .val (.ref fa), .val (.ref fb), .val (.ref s1), .val (.ref s2), .val (.ref vo13), .val (.ref str15), .val (.ref vo16), .val (.ref vo17), .val (.ref b18), .unset, .unset, .unset] [(.int (1 : Int32)), (.int q1), (.ref fb), (.ref s2), (.ref b21), (.ref b21)])) _
          exact k
      refine Goes.to (T' := T21) (mkF m 266 #[.val (.int p0), .val (.int p1), .val (.int p2), .val (.int p3), .val (.int p4), .val (.int p5), .val (.int la), .val (.int c0), .val (.int c1), .val (.int lb), .val (.int b0), .val (.int b1), .val (.int nu), .val (.ref fa), .val (.ref fb), .val (.ref s1), .val (.ref s2), .val (.ref vo13), .val (.ref str15), .val (.ref vo16), .val (.ref vo17), .val (.ref b18), .unset, .unset, .unset] [(.int (if (((p5.toUInt32 >>> ((26 : Int32) &&& 31).toUInt32).toInt32) &&& (1 : Int32)) = (0 : Int32) then (0 : Int32) else (1 : Int32))), (.int q1), (.ref fb), (.ref s2), (.ref b21), (.ref b21)]) D258_24 ?_
      obtain ⟨q2, q2_eq⟩ : ∃ z, z = (if (((p5.toUInt32 >>> ((26 : Int32) &&& 31).toUInt32).toInt32) &&& (1 : Int32)) = (0 : Int32) then (0 : Int32) else (1 : Int32)) := ⟨_, rfl⟩
      rw [← q2_eq]
      refine Goes.to (T' := T21) (mkF m 268 #[.val (.int p0), .val (.int p1), .val (.int p2), .val (.int p3), .val (.int p4), .val (.int p5), .val (.int la), .val (.int c0), .val (.int c1), .val (.int lb), .val (.int b0), .val (.int b1), .val (.int nu), .val (.ref fa), .val (.ref fb), .val (.ref s1), .val (.ref s2), .val (.ref vo13), .val (.ref str15), .val (.ref vo16), .val (.ref vo17), .val (.ref b18), .unset, .unset, .unset] [(.ref vo16), (.int q2), (.int q1), (.ref fb), (.ref s2), (.ref b21), (.ref b21)]) (fun t k => XS.aload X21.here hx rfl (hb hby at_266) rfl rfl k) ?_
      refine Goes.to (T' := T21) (mkF m 270 #[.val (.int p0), .val (.int p1), .val (.int p2), .val (.int p3), .val (.int p4), .val (.int p5), .val (.int la), .val (.int c0), .val (.int c1), .val (.int lb), .val (.int b0), .val (.int b1), .val (.int nu), .val (.ref fa), .val (.ref fb), .val (.ref s1), .val (.ref s2), .val (.ref vo13), .val (.ref str15), .val (.ref vo16), .val (.ref vo17), .val (.ref b18), .unset, .unset, .unset] [(.ref vo17), (.ref vo16), (.int q2), (.int q1), (.ref fb), (.ref s2), (.ref b21), (.ref b21)]) (fun t k => XS.aload X21.here hx rfl (hb hby at_268) rfl rfl k) ?_
      refine Goes.to (T' := T21) (mkF m 272 #[.val (.int p0), .val (.int p1), .val (.int p2), .val (.int p3), .val (.int p4), .val (.int p5), .val (.int la), .val (.int c0), .val (.int c1), .val (.int lb), .val (.int b0), .val (.int b1), .val (.int nu), .val (.ref fa), .val (.ref fb), .val (.ref s1), .val (.ref s2), .val (.ref vo13), .val (.ref str15), .val (.ref vo16), .val (.ref vo17), .val (.ref b18), .unset, .unset, .unset] [(.int p5), (.ref vo17), (.ref vo16), (.int q2), (.int q1), (.ref fb), (.ref s2), (.ref b21), (.ref b21)]) (fun t k => XS.iload X21.here hx rfl (hb hby at_270) rfl k) ?_
      refine Goes.to (T' := T21) (mkF m 274 #[.val (.int p0), .val (.int p1), .val (.int p2), .val (.int p3), .val (.int p4), .val (.int p5), .val (.int la), .val (.int c0), .val (.int c1), .val (.int lb), .val (.int b0), .val (.int b1), .val (.int nu), .val (.ref fa), .val (.ref fb), .val (.ref s1), .val (.ref s2), .val (.ref vo13), .val (.ref str15), .val (.ref vo16), .val (.ref vo17), .val (.ref b18), .unset, .unset, .unset] [(.int (27 : Int32)), (.int p5), (.ref vo17), (.ref vo16), (.int q2), (.int q1), (.ref fb), (.ref s2), (.ref b21), (.ref b21)]) (fun t k => XS.bipush X21.here hx rfl (hb hby at_272) k) ?_
      refine Goes.to (T' := T21) (mkF m 275 #[.val (.int p0), .val (.int p1), .val (.int p2), .val (.int p3), .val (.int p4), .val (.int p5), .val (.int la), .val (.int c0), .val (.int c1), .val (.int lb), .val (.int b0), .val (.int b1), .val (.int nu), .val (.ref fa), .val (.ref fb), .val (.ref s1), .val (.ref s2), .val (.ref vo13), .val (.ref str15), .val (.ref vo16), .val (.ref vo17), .val (.ref b18), .unset, .unset, .unset] [(.int ((p5.toUInt32 >>> ((27 : Int32) &&& 31).toUInt32).toInt32)), (.ref vo17), (.ref vo16), (.int q2), (.int q1), (.ref fb), (.ref s2), (.ref b21), (.ref b21)]) (fun t k => XS.iushr X21.here hx rfl (hb hby at_274) rfl k) ?_
      refine Goes.to (T' := T21) (mkF m 276 #[.val (.int p0), .val (.int p1), .val (.int p2), .val (.int p3), .val (.int p4), .val (.int p5), .val (.int la), .val (.int c0), .val (.int c1), .val (.int lb), .val (.int b0), .val (.int b1), .val (.int nu), .val (.ref fa), .val (.ref fb), .val (.ref s1), .val (.ref s2), .val (.ref vo13), .val (.ref str15), .val (.ref vo16), .val (.ref vo17), .val (.ref b18), .unset, .unset, .unset] [(.int (1 : Int32)), (.int ((p5.toUInt32 >>> ((27 : Int32) &&& 31).toUInt32).toInt32)), (.ref vo17), (.ref vo16), (.int q2), (.int q1), (.ref fb), (.ref s2), (.ref b21), (.ref b21)]) (fun t k => XS.iconst X21.here hx rfl (hb hby at_275) k) ?_
      refine Goes.to (T' := T21) (mkF m 277 #[.val (.int p0), .val (.int p1), .val (.int p2), .val (.int p3), .val (.int p4), .val (.int p5), .val (.int la), .val (.int c0), .val (.int c1), .val (.int lb), .val (.int b0), .val (.int b1), .val (.int nu), .val (.ref fa), .val (.ref fb), .val (.ref s1), .val (.ref s2), .val (.ref vo13), .val (.ref str15), .val (.ref vo16), .val (.ref vo17), .val (.ref b18), .unset, .unset, .unset] [(.int (((p5.toUInt32 >>> ((27 : Int32) &&& 31).toUInt32).toInt32) &&& (1 : Int32))), (.ref vo17), (.ref vo16), (.int q2), (.int q1), (.ref fb), (.ref s2), (.ref b21), (.ref b21)]) (fun t k => XS.iand X21.here hx rfl (hb hby at_276) rfl k) ?_
      have D277_26 : ∀ t, Steps p.tables e below (T21.setTop (mkF m 285 #[.val (.int p0), .val (.int p1), .val (.int p2), .val (.int p3), .val (.int p4), .val (.int p5), .val (.int la), .val (.int c0), .val (.int c1), .val (.int lb), .val (.int b0), .val (.int b1), .val (.int nu), .val (.ref fa), .val (.ref fb), .val (.ref s1), .val (.ref s2), .val (.ref vo13), .val (.ref str15), .val (.ref vo16), .val (.ref vo17), .val (.ref b18), .unset, .unset, .unset] [(.int (if (((p5.toUInt32 >>> ((27 : Int32) &&& 31).toUInt32).toInt32) &&& (1 : Int32)) = (0 : Int32) then (0 : Int32) else (1 : Int32))), (.ref vo17), (.ref vo16), (.int q2), (.int q1), (.ref fb), (.ref s2), (.ref b21), (.ref b21)])) t → Steps p.tables e below (T21.setTop (mkF m 277 #[.val (.int p0), .val (.int p1), .val (.int p2), .val (.int p3), .val (.int p4), .val (.int p5), .val (.int la), .val (.int c0), .val (.int c1), .val (.int lb), .val (.int b0), .val (.int b1), .val (.int nu), .val (.ref fa), .val (.ref fb), .val (.ref s1), .val (.ref s2), .val (.ref vo13), .val (.ref str15), .val (.ref vo16), .val (.ref vo17), .val (.ref b18), .unset, .unset, .unset] [(.int (((p5.toUInt32 >>> ((27 : Int32) &&& 31).toUInt32).toInt32) &&& (1 : Int32))), (.ref vo17), (.ref vo16), (.int q2), (.int q1), (.ref fb), (.ref s2), (.ref b21), (.ref b21)])) t := by
        intro t k
        by_cases hq : (((p5.toUInt32 >>> ((27 : Int32) &&& 31).toUInt32).toInt32) &&& (1 : Int32)) = (0 : Int32)
        · simp only [if_pos hq] at k
          refine XS.ifYes X21.here hx rfl (pc0 := 277) (pc' := 284) rfl (hb hby at_277) rfl ((if0 _ _).trans (teq hq).1) (by decide) (by decide) ?_
          show Steps p.tables e below (T21.setTop (mkF m 284 #[.val (.int p0), .val (.int p1), .val (.int p2), .val (.int p3), .val (.int p4), .val (.int p5), .val (.int la), .val (.int c0), .val (.int c1), .val (.int lb), .val (.int b0), .val (.int b1), .val (.int nu), .val (.ref fa), .val (.ref fb), .val (.ref s1), .val (.ref s2), .val (.ref vo13), .val (.ref str15), .val (.ref vo16), .val (.ref vo17), .val (.ref b18), .unset, .unset, .unset] [(.ref vo17), (.ref vo16), (.int q2), (.int q1), (.ref fb), (.ref s2), (.ref b21), (.ref b21)])) _
          refine XS.iconst X21.here hx rfl (hb hby at_284) ?_
          show Steps p.tables e below (T21.setTop (mkF m 285 #[.val (.int p0), .val (.int p1), .val (.int p2), .val (.int p3), .val (.int p4), .val (.int p5), .val (.int la), .val (.int c0), .val (.int c1), .val (.int lb), .val (.int b0), .val (.int b1), .val (.int nu), .val (.ref fa), .val (.ref fb), .val (.ref s1), .val (.ref s2), .val (.ref vo13), .val (.ref str15), .val (.ref vo16), .val (.ref vo17), .val (.ref b18), .unset, .unset, .unset] [(.int (0 : Int32)), (.ref vo17), (.ref vo16), (.int q2), (.int q1), (.ref fb), (.ref s2), (.ref b21), (.ref b21)])) _
          exact k
        · simp only [if_neg hq] at k
          refine XS.ifNo X21.here hx rfl (hb hby at_277) rfl ((if0 _ _).trans (feq hq).1) ?_
          show Steps p.tables e below (T21.setTop (mkF m 280 #[.val (.int p0), .val (.int p1), .val (.int p2), .val (.int p3), .val (.int p4), .val (.int p5), .val (.int la), .val (.int c0), .val (.int c1), .val (.int lb), .val (.int b0), .val (.int b1), .val (.int nu), .val (.ref fa), .val (.ref fb), .val (.ref s1), .val (.ref s2), .val (.ref vo13), .val (.ref str15), .val (.ref vo16), .val (.ref vo17), .val (.ref b18), .unset, .unset, .unset] [(.ref vo17), (.ref vo16), (.int q2), (.int q1), (.ref fb), (.ref s2), (.ref b21), (.ref b21)])) _
          refine XS.iconst X21.here hx rfl (hb hby at_280) ?_
          show Steps p.tables e below (T21.setTop (mkF m 281 #[.val (.int p0), .val (.int p1), .val (.int p2), .val (.int p3), .val (.int p4), .val (.int p5), .val (.int la), .val (.int c0), .val (.int c1), .val (.int lb), .val (.int b0), .val (.int b1), .val (.int nu), .val (.ref fa), .val (.ref fb), .val (.ref s1), .val (.ref s2), .val (.ref vo13), .val (.ref str15), .val (.ref vo16), .val (.ref vo17), .val (.ref b18), .unset, .unset, .unset] [(.int (1 : Int32)), (.ref vo17), (.ref vo16), (.int q2), (.int q1), (.ref fb), (.ref s2), (.ref b21), (.ref b21)])) _
          refine XS.goto X21.here hx rfl (pc0 := 281) (pc' := 285) rfl (hb hby at_281) (by decide) (by decide) ?_
          show Steps p.tables e below (T21.setTop (mkF m 285 #[.val (.int p0), .val (.int p1), .val (.int p2), .val (.int p3), .val (.int p4), .val (.int p5), .val (.int la), .val (.int c0), .val (.int c1), .val (.int lb), .val (.int b0), .val (.int b1), .val (.int nu), .val (.ref fa), .val (.ref fb), .val (.ref s1), .val (.ref s2), .val (.ref vo13), .val (.ref str15), .val (.ref vo16), .val (.ref vo17), .val (.ref b18), .unset, .unset, .unset] [(.int (1 : Int32)), (.ref vo17), (.ref vo16), (.int q2), (.int q1), (.ref fb), (.ref s2), (.ref b21), (.ref b21)])) _
          exact k
      refine Goes.to (T' := T21) (mkF m 285 #[.val (.int p0), .val (.int p1), .val (.int p2), .val (.int p3), .val (.int p4), .val (.int p5), .val (.int la), .val (.int c0), .val (.int c1), .val (.int lb), .val (.int b0), .val (.int b1), .val (.int nu), .val (.ref fa), .val (.ref fb), .val (.ref s1), .val (.ref s2), .val (.ref vo13), .val (.ref str15), .val (.ref vo16), .val (.ref vo17), .val (.ref b18), .unset, .unset, .unset] [(.int (if (((p5.toUInt32 >>> ((27 : Int32) &&& 31).toUInt32).toInt32) &&& (1 : Int32)) = (0 : Int32) then (0 : Int32) else (1 : Int32))), (.ref vo17), (.ref vo16), (.int q2), (.int q1), (.ref fb), (.ref s2), (.ref b21), (.ref b21)]) D277_26 ?_
      obtain ⟨q3, q3_eq⟩ : ∃ z, z = (if (((p5.toUInt32 >>> ((27 : Int32) &&& 31).toUInt32).toInt32) &&& (1 : Int32)) = (0 : Int32) then (0 : Int32) else (1 : Int32)) := ⟨_, rfl⟩
      rw [← q3_eq]
      obtain ⟨_, _, ⟨T28, L28, k28, n28⟩, -, X28, ⟨Lc28, hQ28, l28, y28, z28⟩, st28⟩ := X21.specialBack hx (y := (⟨"com/example/forest_in_rows/forestinrows/CatalogColumn", "<init>", "(Ljava/lang/String;Lcom/example/forest_in_rows/forestinrows/CatalogColumn$Filling;ZZLjava/lang/String;Ljava/lang/String;Z)V"⟩ : MethodName)) rfl hown (mvT hZ (hw _ (List.mem_of_getElem? (i := 72) rfl))) (mvT hZ (hw _ (List.mem_of_getElem? (i := 73) rfl))) (mvT hZ (hw _ (List.mem_of_getElem? (i := 74) rfl))) (by decide) (backOf (W := 1) (rm_ccol l Z a0 hw [] b21 s2 fb vo16 vo17 q1 q2 q3 _ _ _ _ _ _ _ h21 n0 O F_type_b21 F_filling_b21 F_collatable_b21 F_sortable_b21 F_declaredType_b21 F_baseType_b21 F_baseTypeKeepsModifiers_b21 E_b21 g_b21) hZ (hw _ (List.mem_of_getElem? (i := 74) rfl)) (hw _ (List.mem_of_getElem? (i := 71) rfl)) (by decide) (by decide)) (g := (mkF m 285 #[.val (.int p0), .val (.int p1), .val (.int p2), .val (.int p3), .val (.int p4), .val (.int p5), .val (.int la), .val (.int c0), .val (.int c1), .val (.int lb), .val (.int b0), .val (.int b1), .val (.int nu), .val (.ref fa), .val (.ref fb), .val (.ref s1), .val (.ref s2), .val (.ref vo13), .val (.ref str15), .val (.ref vo16), .val (.ref vo17), .val (.ref b18), .unset, .unset, .unset] [(.int q3), (.ref vo17), (.ref vo16), (.int q2), (.int q1), (.ref fb), (.ref s2), (.ref b21), (.ref b21)])) rfl (by rw [hml]; rfl) (Steps.refl _) (a := b21) (argsL := [(.ref s2), (.ref fb), (.int q1), (.int q2), (.ref vo16), (.ref vo17), (.int q3)]) (rest := [(.ref b21)]) (lenOf pd_12 rfl) rfl (by show 2 * 0 + _ ≤ _; exact Nat.le_of_eq rfl) (hb hby at_285) (fun _ _ => ⟨rfl, e21, (by decide : 18 + 0 ≤ _), (by decide : 58 + 0 ≤ _)⟩)
      dsimp only [Pt.U, Pt.locs, Pt.cells, Pt.slots] at X28 l28 y28 z28 st28 hQ28
      subst l28 y28 z28
      obtain ⟨rfl, N28, K28, F_type_b21, F_filling_b21⟩ := hQ28
      have N28' := Fr.app N19' N28
      have C' := C.trans (CHr.keep K28 (sfS (Safe.exa hZ.alike E_b21 (by decide) (by decide)) sf0) C.1)
      replace C := C'
      replace E_s1 := E_s1.keep K28
      replace F_v1 := F_v1.keep K28 (ninS ne_s1_b21 (nin0))
      replace F_c1 := F_c1.keep K28 (ninS ne_s1_b21 (nin0))
      replace V_t1 := V_t1.keep K28 (ninS ne_t1_b21 (nin0))
      replace E_s2 := E_s2.keep K28
      replace F_v2 := F_v2.keep K28 (ninS ne_s2_b21 (nin0))
      replace F_c2 := F_c2.keep K28 (ninS ne_s2_b21 (nin0))
      replace V_t2 := V_t2.keep K28 (ninS ne_t2_b21 (nin0))
      replace E_vo13 := E_vo13.keep K28
      replace E_str15 := E_str15.keep K28
      replace F_coder_str15 := F_coder_str15.keep K28 (ninS ne_str15_b21 (nin0))
      replace F_value_str15 := F_value_str15.keep K28 (ninS ne_str15_b21 (nin0))
      replace V_sb15 := V_sb15.keep K28 (ninS ne_sb15_b21 (nin0))
      replace E_vo16 := E_vo16.keep K28
      replace E_vo17 := E_vo17.keep K28
      replace E_b18 := E_b18.keep K28
      replace F_type_b18 := F_type_b18.keep K28 (ninS ne_b18_b21 (nin0))
      replace F_filling_b18 := F_filling_b18.keep K28 (ninS ne_b18_b21 (nin0))
      replace E_b21 := E_b21.keep K28
      replace O := O.keep K28 (allS g_b21 all0)
      replace hk0 := Nat.le_trans hk0 K28.1
      refine Goes.to (T' := T28) (mkF m 288 #[.val (.int p0), .val (.int p1), .val (.int p2), .val (.int p3), .val (.int p4), .val (.int p5), .val (.int la), .val (.int c0), .val (.int c1), .val (.int lb), .val (.int b0), .val (.int b1), .val (.int nu), .val (.ref fa), .val (.ref fb), .val (.ref s1), .val (.ref s2), .val (.ref vo13), .val (.ref str15), .val (.ref vo16), .val (.ref vo17), .val (.ref b18), .unset, .unset, .unset] [(.ref b21)]) (fun t k => st28.trans k) ?_
      refine Goes.to (T' := T28) (mkF m 290 #[.val (.int p0), .val (.int p1), .val (.int p2), .val (.int p3), .val (.int p4), .val (.int p5), .val (.int la), .val (.int c0), .val (.int c1), .val (.int lb), .val (.int b0), .val (.int b1), .val (.int nu), .val (.ref fa), .val (.ref fb), .val (.ref s1), .val (.ref s2), .val (.ref vo13), .val (.ref str15), .val (.ref vo16), .val (.ref vo17), .val (.ref b18), .val (.ref b21), .unset, .unset] []) (fun t k => XS.astore X28.here hx rfl (hb hby at_288) rfl rfl (l' := #[.val (.int p0), .val (.int p1), .val (.int p2), .val (.int p3), .val (.int p4), .val (.int p5), .val (.int la), .val (.int c0), .val (.int c1), .val (.int lb), .val (.int b0), .val (.int b1), .val (.int nu), .val (.ref fa), .val (.ref fb), .val (.ref s1), .val (.ref s2), .val (.ref vo13), .val (.ref str15), .val (.ref vo16), .val (.ref vo17), .val (.ref b18), .val (.ref b21), .unset, .unset]) rfl k) ?_
      refine Goes.to (T' := T28) (mkF m 292 #[.val (.int p0), .val (.int p1), .val (.int p2), .val (.int p3), .val (.int p4), .val (.int p5), .val (.int la), .val (.int c0), .val (.int c1), .val (.int lb), .val (.int b0), .val (.int b1), .val (.int nu), .val (.ref fa), .val (.ref fb), .val (.ref s1), .val (.ref s2), .val (.ref vo13), .val (.ref str15), .val (.ref vo16), .val (.ref vo17), .val (.ref b18), .val (.ref b21), .unset, .unset] [(.int la)]) (fun t k => XS.iload X28.here hx rfl (hb hby at_290) rfl k) ?_
      refine Goes.to (T' := T28) (mkF m 294 #[.val (.int p0), .val (.int p1), .val (.int p2), .val (.int p3), .val (.int p4), .val (.int p5), .val (.int la), .val (.int c0), .val (.int c1), .val (.int lb), .val (.int b0), .val (.int b1), .val (.int nu), .val (.ref fa), .val (.ref fb), .val (.ref s1), .val (.ref s2), .val (.ref vo13), .val (.ref str15), .val (.ref vo16), .val (.ref vo17), .val (.ref b18), .val (.ref b21), .unset, .unset] [(.int lb), (.int la)]) (fun t k => XS.iload X28.here hx rfl (hb hby at_292) rfl k) ?_
      have D294_29 : ∀ t, Steps p.tables e below (T28.setTop (mkF m 328 #[.val (.int p0), .val (.int p1), .val (.int p2), .val (.int p3), .val (.int p4), .val (.int p5), .val (.int la), .val (.int c0), .val (.int c1), .val (.int lb), .val (.int b0), .val (.int b1), .val (.int nu), .val (.ref fa), .val (.ref fb), .val (.ref s1), .val (.ref s2), .val (.ref vo13), .val (.ref str15), .val (.ref vo16), .val (.ref vo17), .val (.ref b18), .val (.ref b21), .unset, .unset] [(.int (if la = lb then (if la < (1 : Int32) then (if la < (2 : Int32) then (1 : Int32) else (if c1 = b1 then (1 : Int32) else (0 : Int32))) else (if c0 = b0 then (if la < (2 : Int32) then (1 : Int32) else (if c1 = b1 then (1 : Int32) else (0 : Int32))) else (0 : Int32))) else (0 : Int32)))])) t → Steps p.tables e below (T28.setTop (mkF m 294 #[.val (.int p0), .val (.int p1), .val (.int p2), .val (.int p3), .val (.int p4), .val (.int p5), .val (.int la), .val (.int c0), .val (.int c1), .val (.int lb), .val (.int b0), .val (.int b1), .val (.int nu), .val (.ref fa), .val (.ref fb), .val (.ref s1), .val (.ref s2), .val (.ref vo13), .val (.ref str15), .val (.ref vo16), .val (.ref vo17), .val (.ref b18), .val (.ref b21), .unset, .unset] [(.int lb), (.int la)])) t := by
        intro t k
        by_cases hq : la = lb
        · simp only [if_pos hq] at k
          refine XS.icmpNo X28.here hx rfl (hb hby at_294) rfl (teq hq).2 ?_
          show Steps p.tables e below (T28.setTop (mkF m 297 #[.val (.int p0), .val (.int p1), .val (.int p2), .val (.int p3), .val (.int p4), .val (.int p5), .val (.int la), .val (.int c0), .val (.int c1), .val (.int lb), .val (.int b0), .val (.int b1), .val (.int nu), .val (.ref fa), .val (.ref fb), .val (.ref s1), .val (.ref s2), .val (.ref vo13), .val (.ref str15), .val (.ref vo16), .val (.ref vo17), .val (.ref b18), .val (.ref b21), .unset, .unset] [])) _
          refine XS.iload X28.here hx rfl (hb hby at_297) rfl ?_
          show Steps p.tables e below (T28.setTop (mkF m 299 #[.val (.int p0), .val (.int p1), .val (.int p2), .val (.int p3), .val (.int p4), .val (.int p5), .val (.int la), .val (.int c0), .val (.int c1), .val (.int lb), .val (.int b0), .val (.int b1), .val (.int nu), .val (.ref fa), .val (.ref fb), .val (.ref s1), .val (.ref s2), .val (.ref vo13), .val (.ref str15), .val (.ref vo16), .val (.ref vo17), .val (.ref b18), .val (.ref b21), .unset, .unset] [(.int la)])) _
          refine XS.iconst X28.here hx rfl (hb hby at_299) ?_
          show Steps p.tables e below (T28.setTop (mkF m 300 #[.val (.int p0), .val (.int p1), .val (.int p2), .val (.int p3), .val (.int p4), .val (.int p5), .val (.int la), .val (.int c0), .val (.int c1), .val (.int lb), .val (.int b0), .val (.int b1), .val (.int nu), .val (.ref fa), .val (.ref fb), .val (.ref s1), .val (.ref s2), .val (.ref vo13), .val (.ref str15), .val (.ref vo16), .val (.ref vo17), .val (.ref b18), .val (.ref b21), .unset, .unset] [(.int (1 : Int32)), (.int la)])) _
          by_cases hq : la < (1 : Int32)
          · simp only [if_pos hq] at k
            refine XS.icmpYes X28.here hx rfl (pc0 := 300) (pc' := 310) rfl (hb hby at_300) rfl (tlt hq).1 (by decide) (by decide) ?_
            show Steps p.tables e below (T28.setTop (mkF m 310 #[.val (.int p0), .val (.int p1), .val (.int p2), .val (.int p3), .val (.int p4), .val (.int p5), .val (.int la), .val (.int c0), .val (.int c1), .val (.int lb), .val (.int b0), .val (.int b1), .val (.int nu), .val (.ref fa), .val (.ref fb), .val (.ref s1), .val (.ref s2), .val (.ref vo13), .val (.ref str15), .val (.ref vo16), .val (.ref vo17), .val (.ref b18), .val (.ref b21), .unset, .unset] [])) _
            refine XS.iload X28.here hx rfl (hb hby at_310) rfl ?_
            show Steps p.tables e below (T28.setTop (mkF m 312 #[.val (.int p0), .val (.int p1), .val (.int p2), .val (.int p3), .val (.int p4), .val (.int p5), .val (.int la), .val (.int c0), .val (.int c1), .val (.int lb), .val (.int b0), .val (.int b1), .val (.int nu), .val (.ref fa), .val (.ref fb), .val (.ref s1), .val (.ref s2), .val (.ref vo13), .val (.ref str15), .val (.ref vo16), .val (.ref vo17), .val (.ref b18), .val (.ref b21), .unset, .unset] [(.int la)])) _
            refine XS.iconst X28.here hx rfl (hb hby at_312) ?_
            show Steps p.tables e below (T28.setTop (mkF m 313 #[.val (.int p0), .val (.int p1), .val (.int p2), .val (.int p3), .val (.int p4), .val (.int p5), .val (.int la), .val (.int c0), .val (.int c1), .val (.int lb), .val (.int b0), .val (.int b1), .val (.int nu), .val (.ref fa), .val (.ref fb), .val (.ref s1), .val (.ref s2), .val (.ref vo13), .val (.ref str15), .val (.ref vo16), .val (.ref vo17), .val (.ref b18), .val (.ref b21), .unset, .unset] [(.int (2 : Int32)), (.int la)])) _
            by_cases hq : la < (2 : Int32)
            · simp only [if_pos hq] at k
              refine XS.icmpYes X28.here hx rfl (pc0 := 313) (pc' := 323) rfl (hb hby at_313) rfl (tlt hq).1 (by decide) (by decide) ?_
              show Steps p.tables e below (T28.setTop (mkF m 323 #[.val (.int p0), .val (.int p1), .val (.int p2), .val (.int p3), .val (.int p4), .val (.int p5), .val (.int la), .val (.int c0), .val (.int c1), .val (.int lb), .val (.int b0), .val (.int b1), .val (.int nu), .val (.ref fa), .val (.ref fb), .val (.ref s1), .val (.ref s2), .val (.ref vo13), .val (.ref str15), .val (.ref vo16), .val (.ref vo17), .val (.ref b18), .val (.ref b21), .unset, .unset] [])) _
              refine XS.iconst X28.here hx rfl (hb hby at_323) ?_
              show Steps p.tables e below (T28.setTop (mkF m 324 #[.val (.int p0), .val (.int p1), .val (.int p2), .val (.int p3), .val (.int p4), .val (.int p5), .val (.int la), .val (.int c0), .val (.int c1), .val (.int lb), .val (.int b0), .val (.int b1), .val (.int nu), .val (.ref fa), .val (.ref fb), .val (.ref s1), .val (.ref s2), .val (.ref vo13), .val (.ref str15), .val (.ref vo16), .val (.ref vo17), .val (.ref b18), .val (.ref b21), .unset, .unset] [(.int (1 : Int32))])) _
              refine XS.goto X28.here hx rfl (pc0 := 324) (pc' := 328) rfl (hb hby at_324) (by decide) (by decide) ?_
              show Steps p.tables e below (T28.setTop (mkF m 328 #[.val (.int p0), .val (.int p1), .val (.int p2), .val (.int p3), .val (.int p4), .val (.int p5), .val (.int la), .val (.int c0), .val (.int c1), .val (.int lb), .val (.int b0), .val (.int b1), .val (.int nu), .val (.ref fa), .val (.ref fb), .val (.ref s1), .val (.ref s2), .val (.ref vo13), .val (.ref str15), .val (.ref vo16), .val (.ref vo17), .val (.ref b18), .val (.ref b21), .unset, .unset] [(.int (1 : Int32))])) _
              exact k
            · simp only [if_neg hq] at k
              refine XS.icmpNo X28.here hx rfl (hb hby at_313) rfl (flt hq).1 ?_
              show Steps p.tables e below (T28.setTop (mkF m 316 #[.val (.int p0), .val (.int p1), .val (.int p2), .val (.int p3), .val (.int p4), .val (.int p5), .val (.int la), .val (.int c0), .val (.int c1), .val (.int lb), .val (.int b0), .val (.int b1), .val (.int nu), .val (.ref fa), .val (.ref fb), .val (.ref s1), .val (.ref s2), .val (.ref vo13), .val (.ref str15), .val (.ref vo16), .val (.ref vo17), .val (.ref b18), .val (.ref b21), .unset, .unset] [])) _
              refine XS.iload X28.here hx rfl (hb hby at_316) rfl ?_
              show Steps p.tables e below (T28.setTop (mkF m 318 #[.val (.int p0), .val (.int p1), .val (.int p2), .val (.int p3), .val (.int p4), .val (.int p5), .val (.int la), .val (.int c0), .val (.int c1), .val (.int lb), .val (.int b0), .val (.int b1), .val (.int nu), .val (.ref fa), .val (.ref fb), .val (.ref s1), .val (.ref s2), .val (.ref vo13), .val (.ref str15), .val (.ref vo16), .val (.ref vo17), .val (.ref b18), .val (.ref b21), .unset, .unset] [(.int c1)])) _
              refine XS.iload X28.here hx rfl (hb hby at_318) rfl ?_
              show Steps p.tables e below (T28.setTop (mkF m 320 #[.val (.int p0), .val (.int p1), .val (.int p2), .val (.int p3), .val (.int p4), .val (.int p5), .val (.int la), .val (.int c0), .val (.int c1), .val (.int lb), .val (.int b0), .val (.int b1), .val (.int nu), .val (.ref fa), .val (.ref fb), .val (.ref s1), .val (.ref s2), .val (.ref vo13), .val (.ref str15), .val (.ref vo16), .val (.ref vo17), .val (.ref b18), .val (.ref b21), .unset, .unset] [(.int b1), (.int c1)])) _
              by_cases hq : c1 = b1
              · simp only [if_pos hq] at k
                refine XS.icmpNo X28.here hx rfl (hb hby at_320) rfl (teq hq).2 ?_
                show Steps p.tables e below (T28.setTop (mkF m 323 #[.val (.int p0), .val (.int p1), .val (.int p2), .val (.int p3), .val (.int p4), .val (.int p5), .val (.int la), .val (.int c0), .val (.int c1), .val (.int lb), .val (.int b0), .val (.int b1), .val (.int nu), .val (.ref fa), .val (.ref fb), .val (.ref s1), .val (.ref s2), .val (.ref vo13), .val (.ref str15), .val (.ref vo16), .val (.ref vo17), .val (.ref b18), .val (.ref b21), .unset, .unset] [])) _
                refine XS.iconst X28.here hx rfl (hb hby at_323) ?_
                show Steps p.tables e below (T28.setTop (mkF m 324 #[.val (.int p0), .val (.int p1), .val (.int p2), .val (.int p3), .val (.int p4), .val (.int p5), .val (.int la), .val (.int c0), .val (.int c1), .val (.int lb), .val (.int b0), .val (.int b1), .val (.int nu), .val (.ref fa), .val (.ref fb), .val (.ref s1), .val (.ref s2), .val (.ref vo13), .val (.ref str15), .val (.ref vo16), .val (.ref vo17), .val (.ref b18), .val (.ref b21), .unset, .unset] [(.int (1 : Int32))])) _
                refine XS.goto X28.here hx rfl (pc0 := 324) (pc' := 328) rfl (hb hby at_324) (by decide) (by decide) ?_
                show Steps p.tables e below (T28.setTop (mkF m 328 #[.val (.int p0), .val (.int p1), .val (.int p2), .val (.int p3), .val (.int p4), .val (.int p5), .val (.int la), .val (.int c0), .val (.int c1), .val (.int lb), .val (.int b0), .val (.int b1), .val (.int nu), .val (.ref fa), .val (.ref fb), .val (.ref s1), .val (.ref s2), .val (.ref vo13), .val (.ref str15), .val (.ref vo16), .val (.ref vo17), .val (.ref b18), .val (.ref b21), .unset, .unset] [(.int (1 : Int32))])) _
                exact k
              · simp only [if_neg hq] at k
                refine XS.icmpYes X28.here hx rfl (pc0 := 320) (pc' := 327) rfl (hb hby at_320) rfl (feq hq).2 (by decide) (by decide) ?_
                show Steps p.tables e below (T28.setTop (mkF m 327 #[.val (.int p0), .val (.int p1), .val (.int p2), .val (.int p3), .val (.int p4), .val (.int p5), .val (.int la), .val (.int c0), .val (.int c1), .val (.int lb), .val (.int b0), .val (.int b1), .val (.int nu), .val (.ref fa), .val (.ref fb), .val (.ref s1), .val (.ref s2), .val (.ref vo13), .val (.ref str15), .val (.ref vo16), .val (.ref vo17), .val (.ref b18), .val (.ref b21), .unset, .unset] [])) _
                refine XS.iconst X28.here hx rfl (hb hby at_327) ?_
                show Steps p.tables e below (T28.setTop (mkF m 328 #[.val (.int p0), .val (.int p1), .val (.int p2), .val (.int p3), .val (.int p4), .val (.int p5), .val (.int la), .val (.int c0), .val (.int c1), .val (.int lb), .val (.int b0), .val (.int b1), .val (.int nu), .val (.ref fa), .val (.ref fb), .val (.ref s1), .val (.ref s2), .val (.ref vo13), .val (.ref str15), .val (.ref vo16), .val (.ref vo17), .val (.ref b18), .val (.ref b21), .unset, .unset] [(.int (0 : Int32))])) _
                exact k
          · simp only [if_neg hq] at k
            refine XS.icmpNo X28.here hx rfl (hb hby at_300) rfl (flt hq).1 ?_
            show Steps p.tables e below (T28.setTop (mkF m 303 #[.val (.int p0), .val (.int p1), .val (.int p2), .val (.int p3), .val (.int p4), .val (.int p5), .val (.int la), .val (.int c0), .val (.int c1), .val (.int lb), .val (.int b0), .val (.int b1), .val (.int nu), .val (.ref fa), .val (.ref fb), .val (.ref s1), .val (.ref s2), .val (.ref vo13), .val (.ref str15), .val (.ref vo16), .val (.ref vo17), .val (.ref b18), .val (.ref b21), .unset, .unset] [])) _
            refine XS.iload X28.here hx rfl (hb hby at_303) rfl ?_
            show Steps p.tables e below (T28.setTop (mkF m 305 #[.val (.int p0), .val (.int p1), .val (.int p2), .val (.int p3), .val (.int p4), .val (.int p5), .val (.int la), .val (.int c0), .val (.int c1), .val (.int lb), .val (.int b0), .val (.int b1), .val (.int nu), .val (.ref fa), .val (.ref fb), .val (.ref s1), .val (.ref s2), .val (.ref vo13), .val (.ref str15), .val (.ref vo16), .val (.ref vo17), .val (.ref b18), .val (.ref b21), .unset, .unset] [(.int c0)])) _
            refine XS.iload X28.here hx rfl (hb hby at_305) rfl ?_
            show Steps p.tables e below (T28.setTop (mkF m 307 #[.val (.int p0), .val (.int p1), .val (.int p2), .val (.int p3), .val (.int p4), .val (.int p5), .val (.int la), .val (.int c0), .val (.int c1), .val (.int lb), .val (.int b0), .val (.int b1), .val (.int nu), .val (.ref fa), .val (.ref fb), .val (.ref s1), .val (.ref s2), .val (.ref vo13), .val (.ref str15), .val (.ref vo16), .val (.ref vo17), .val (.ref b18), .val (.ref b21), .unset, .unset] [(.int b0), (.int c0)])) _
            by_cases hq : c0 = b0
            · simp only [if_pos hq] at k
              refine XS.icmpNo X28.here hx rfl (hb hby at_307) rfl (teq hq).2 ?_
              show Steps p.tables e below (T28.setTop (mkF m 310 #[.val (.int p0), .val (.int p1), .val (.int p2), .val (.int p3), .val (.int p4), .val (.int p5), .val (.int la), .val (.int c0), .val (.int c1), .val (.int lb), .val (.int b0), .val (.int b1), .val (.int nu), .val (.ref fa), .val (.ref fb), .val (.ref s1), .val (.ref s2), .val (.ref vo13), .val (.ref str15), .val (.ref vo16), .val (.ref vo17), .val (.ref b18), .val (.ref b21), .unset, .unset] [])) _
              refine XS.iload X28.here hx rfl (hb hby at_310) rfl ?_
              show Steps p.tables e below (T28.setTop (mkF m 312 #[.val (.int p0), .val (.int p1), .val (.int p2), .val (.int p3), .val (.int p4), .val (.int p5), .val (.int la), .val (.int c0), .val (.int c1), .val (.int lb), .val (.int b0), .val (.int b1), .val (.int nu), .val (.ref fa), .val (.ref fb), .val (.ref s1), .val (.ref s2), .val (.ref vo13), .val (.ref str15), .val (.ref vo16), .val (.ref vo17), .val (.ref b18), .val (.ref b21), .unset, .unset] [(.int la)])) _
              refine XS.iconst X28.here hx rfl (hb hby at_312) ?_
              show Steps p.tables e below (T28.setTop (mkF m 313 #[.val (.int p0), .val (.int p1), .val (.int p2), .val (.int p3), .val (.int p4), .val (.int p5), .val (.int la), .val (.int c0), .val (.int c1), .val (.int lb), .val (.int b0), .val (.int b1), .val (.int nu), .val (.ref fa), .val (.ref fb), .val (.ref s1), .val (.ref s2), .val (.ref vo13), .val (.ref str15), .val (.ref vo16), .val (.ref vo17), .val (.ref b18), .val (.ref b21), .unset, .unset] [(.int (2 : Int32)), (.int la)])) _
              by_cases hq : la < (2 : Int32)
              · simp only [if_pos hq] at k
                refine XS.icmpYes X28.here hx rfl (pc0 := 313) (pc' := 323) rfl (hb hby at_313) rfl (tlt hq).1 (by decide) (by decide) ?_
                show Steps p.tables e below (T28.setTop (mkF m 323 #[.val (.int p0), .val (.int p1), .val (.int p2), .val (.int p3), .val (.int p4), .val (.int p5), .val (.int la), .val (.int c0), .val (.int c1), .val (.int lb), .val (.int b0), .val (.int b1), .val (.int nu), .val (.ref fa), .val (.ref fb), .val (.ref s1), .val (.ref s2), .val (.ref vo13), .val (.ref str15), .val (.ref vo16), .val (.ref vo17), .val (.ref b18), .val (.ref b21), .unset, .unset] [])) _
                refine XS.iconst X28.here hx rfl (hb hby at_323) ?_
                show Steps p.tables e below (T28.setTop (mkF m 324 #[.val (.int p0), .val (.int p1), .val (.int p2), .val (.int p3), .val (.int p4), .val (.int p5), .val (.int la), .val (.int c0), .val (.int c1), .val (.int lb), .val (.int b0), .val (.int b1), .val (.int nu), .val (.ref fa), .val (.ref fb), .val (.ref s1), .val (.ref s2), .val (.ref vo13), .val (.ref str15), .val (.ref vo16), .val (.ref vo17), .val (.ref b18), .val (.ref b21), .unset, .unset] [(.int (1 : Int32))])) _
                refine XS.goto X28.here hx rfl (pc0 := 324) (pc' := 328) rfl (hb hby at_324) (by decide) (by decide) ?_
                show Steps p.tables e below (T28.setTop (mkF m 328 #[.val (.int p0), .val (.int p1), .val (.int p2), .val (.int p3), .val (.int p4), .val (.int p5), .val (.int la), .val (.int c0), .val (.int c1), .val (.int lb), .val (.int b0), .val (.int b1), .val (.int nu), .val (.ref fa), .val (.ref fb), .val (.ref s1), .val (.ref s2), .val (.ref vo13), .val (.ref str15), .val (.ref vo16), .val (.ref vo17), .val (.ref b18), .val (.ref b21), .unset, .unset] [(.int (1 : Int32))])) _
                exact k
              · simp only [if_neg hq] at k
                refine XS.icmpNo X28.here hx rfl (hb hby at_313) rfl (flt hq).1 ?_
                show Steps p.tables e below (T28.setTop (mkF m 316 #[.val (.int p0), .val (.int p1), .val (.int p2), .val (.int p3), .val (.int p4), .val (.int p5), .val (.int la), .val (.int c0), .val (.int c1), .val (.int lb), .val (.int b0), .val (.int b1), .val (.int nu), .val (.ref fa), .val (.ref fb), .val (.ref s1), .val (.ref s2), .val (.ref vo13), .val (.ref str15), .val (.ref vo16), .val (.ref vo17), .val (.ref b18), .val (.ref b21), .unset, .unset] [])) _
                refine XS.iload X28.here hx rfl (hb hby at_316) rfl ?_
                show Steps p.tables e below (T28.setTop (mkF m 318 #[.val (.int p0), .val (.int p1), .val (.int p2), .val (.int p3), .val (.int p4), .val (.int p5), .val (.int la), .val (.int c0), .val (.int c1), .val (.int lb), .val (.int b0), .val (.int b1), .val (.int nu), .val (.ref fa), .val (.ref fb), .val (.ref s1), .val (.ref s2), .val (.ref vo13), .val (.ref str15), .val (.ref vo16), .val (.ref vo17), .val (.ref b18), .val (.ref b21), .unset, .unset] [(.int c1)])) _
                refine XS.iload X28.here hx rfl (hb hby at_318) rfl ?_
                show Steps p.tables e below (T28.setTop (mkF m 320 #[.val (.int p0), .val (.int p1), .val (.int p2), .val (.int p3), .val (.int p4), .val (.int p5), .val (.int la), .val (.int c0), .val (.int c1), .val (.int lb), .val (.int b0), .val (.int b1), .val (.int nu), .val (.ref fa), .val (.ref fb), .val (.ref s1), .val (.ref s2), .val (.ref vo13), .val (.ref str15), .val (.ref vo16), .val (.ref vo17), .val (.ref b18), .val (.ref b21), .unset, .unset] [(.int b1), (.int c1)])) _
                by_cases hq : c1 = b1
                · simp only [if_pos hq] at k
                  refine XS.icmpNo X28.here hx rfl (hb hby at_320) rfl (teq hq).2 ?_
                  show Steps p.tables e below (T28.setTop (mkF m 323 #[.val (.int p0), .val (.int p1), .val (.int p2), .val (.int p3), .val (.int p4), .val (.int p5), .val (.int la), .val (.int c0), .val (.int c1), .val (.int lb), .val (.int b0), .val (.int b1), .val (.int nu), .val (.ref fa), .val (.ref fb), .val (.ref s1), .val (.ref s2), .val (.ref vo13), .val (.ref str15), .val (.ref vo16), .val (.ref vo17), .val (.ref b18), .val (.ref b21), .unset, .unset] [])) _
                  refine XS.iconst X28.here hx rfl (hb hby at_323) ?_
                  show Steps p.tables e below (T28.setTop (mkF m 324 #[.val (.int p0), .val (.int p1), .val (.int p2), .val (.int p3), .val (.int p4), .val (.int p5), .val (.int la), .val (.int c0), .val (.int c1), .val (.int lb), .val (.int b0), .val (.int b1), .val (.int nu), .val (.ref fa), .val (.ref fb), .val (.ref s1), .val (.ref s2), .val (.ref vo13), .val (.ref str15), .val (.ref vo16), .val (.ref vo17), .val (.ref b18), .val (.ref b21), .unset, .unset] [(.int (1 : Int32))])) _
                  refine XS.goto X28.here hx rfl (pc0 := 324) (pc' := 328) rfl (hb hby at_324) (by decide) (by decide) ?_
                  show Steps p.tables e below (T28.setTop (mkF m 328 #[.val (.int p0), .val (.int p1), .val (.int p2), .val (.int p3), .val (.int p4), .val (.int p5), .val (.int la), .val (.int c0), .val (.int c1), .val (.int lb), .val (.int b0), .val (.int b1), .val (.int nu), .val (.ref fa), .val (.ref fb), .val (.ref s1), .val (.ref s2), .val (.ref vo13), .val (.ref str15), .val (.ref vo16), .val (.ref vo17), .val (.ref b18), .val (.ref b21), .unset, .unset] [(.int (1 : Int32))])) _
                  exact k
                · simp only [if_neg hq] at k
                  refine XS.icmpYes X28.here hx rfl (pc0 := 320) (pc' := 327) rfl (hb hby at_320) rfl (feq hq).2 (by decide) (by decide) ?_
                  show Steps p.tables e below (T28.setTop (mkF m 327 #[.val (.int p0), .val (.int p1), .val (.int p2), .val (.int p3), .val (.int p4), .val (.int p5), .val (.int la), .val (.int c0), .val (.int c1), .val (.int lb), .val (.int b0), .val (.int b1), .val (.int nu), .val (.ref fa), .val (.ref fb), .val (.ref s1), .val (.ref s2), .val (.ref vo13), .val (.ref str15), .val (.ref vo16), .val (.ref vo17), .val (.ref b18), .val (.ref b21), .unset, .unset] [])) _
                  refine XS.iconst X28.here hx rfl (hb hby at_327) ?_
                  show Steps p.tables e below (T28.setTop (mkF m 328 #[.val (.int p0), .val (.int p1), .val (.int p2), .val (.int p3), .val (.int p4), .val (.int p5), .val (.int la), .val (.int c0), .val (.int c1), .val (.int lb), .val (.int b0), .val (.int b1), .val (.int nu), .val (.ref fa), .val (.ref fb), .val (.ref s1), .val (.ref s2), .val (.ref vo13), .val (.ref str15), .val (.ref vo16), .val (.ref vo17), .val (.ref b18), .val (.ref b21), .unset, .unset] [(.int (0 : Int32))])) _
                  exact k
            · simp only [if_neg hq] at k
              refine XS.icmpYes X28.here hx rfl (pc0 := 307) (pc' := 327) rfl (hb hby at_307) rfl (feq hq).2 (by decide) (by decide) ?_
              show Steps p.tables e below (T28.setTop (mkF m 327 #[.val (.int p0), .val (.int p1), .val (.int p2), .val (.int p3), .val (.int p4), .val (.int p5), .val (.int la), .val (.int c0), .val (.int c1), .val (.int lb), .val (.int b0), .val (.int b1), .val (.int nu), .val (.ref fa), .val (.ref fb), .val (.ref s1), .val (.ref s2), .val (.ref vo13), .val (.ref str15), .val (.ref vo16), .val (.ref vo17), .val (.ref b18), .val (.ref b21), .unset, .unset] [])) _
              refine XS.iconst X28.here hx rfl (hb hby at_327) ?_
              show Steps p.tables e below (T28.setTop (mkF m 328 #[.val (.int p0), .val (.int p1), .val (.int p2), .val (.int p3), .val (.int p4), .val (.int p5), .val (.int la), .val (.int c0), .val (.int c1), .val (.int lb), .val (.int b0), .val (.int b1), .val (.int nu), .val (.ref fa), .val (.ref fb), .val (.ref s1), .val (.ref s2), .val (.ref vo13), .val (.ref str15), .val (.ref vo16), .val (.ref vo17), .val (.ref b18), .val (.ref b21), .unset, .unset] [(.int (0 : Int32))])) _
              exact k
        · simp only [if_neg hq] at k
          refine XS.icmpYes X28.here hx rfl (pc0 := 294) (pc' := 327) rfl (hb hby at_294) rfl (feq hq).2 (by decide) (by decide) ?_
          show Steps p.tables e below (T28.setTop (mkF m 327 #[.val (.int p0), .val (.int p1), .val (.int p2), .val (.int p3), .val (.int p4), .val (.int p5), .val (.int la), .val (.int c0), .val (.int c1), .val (.int lb), .val (.int b0), .val (.int b1), .val (.int nu), .val (.ref fa), .val (.ref fb), .val (.ref s1), .val (.ref s2), .val (.ref vo13), .val (.ref str15), .val (.ref vo16), .val (.ref vo17), .val (.ref b18), .val (.ref b21), .unset, .unset] [])) _
          refine XS.iconst X28.here hx rfl (hb hby at_327) ?_
          show Steps p.tables e below (T28.setTop (mkF m 328 #[.val (.int p0), .val (.int p1), .val (.int p2), .val (.int p3), .val (.int p4), .val (.int p5), .val (.int la), .val (.int c0), .val (.int c1), .val (.int lb), .val (.int b0), .val (.int b1), .val (.int nu), .val (.ref fa), .val (.ref fb), .val (.ref s1), .val (.ref s2), .val (.ref vo13), .val (.ref str15), .val (.ref vo16), .val (.ref vo17), .val (.ref b18), .val (.ref b21), .unset, .unset] [(.int (0 : Int32))])) _
          exact k
      refine Goes.to (T' := T28) (mkF m 328 #[.val (.int p0), .val (.int p1), .val (.int p2), .val (.int p3), .val (.int p4), .val (.int p5), .val (.int la), .val (.int c0), .val (.int c1), .val (.int lb), .val (.int b0), .val (.int b1), .val (.int nu), .val (.ref fa), .val (.ref fb), .val (.ref s1), .val (.ref s2), .val (.ref vo13), .val (.ref str15), .val (.ref vo16), .val (.ref vo17), .val (.ref b18), .val (.ref b21), .unset, .unset] [(.int (if la = lb then (if la < (1 : Int32) then (if la < (2 : Int32) then (1 : Int32) else (if c1 = b1 then (1 : Int32) else (0 : Int32))) else (if c0 = b0 then (if la < (2 : Int32) then (1 : Int32) else (if c1 = b1 then (1 : Int32) else (0 : Int32))) else (0 : Int32))) else (0 : Int32)))]) D294_29 ?_
      obtain ⟨sty, sty_eq⟩ : ∃ z, z = (if la = lb then (if la < (1 : Int32) then (if la < (2 : Int32) then (1 : Int32) else (if c1 = b1 then (1 : Int32) else (0 : Int32))) else (if c0 = b0 then (if la < (2 : Int32) then (1 : Int32) else (if c1 = b1 then (1 : Int32) else (0 : Int32))) else (0 : Int32))) else (0 : Int32)) := ⟨_, rfl⟩
      rw [← sty_eq]
      refine Goes.to (T' := T28) (mkF m 330 #[.val (.int p0), .val (.int p1), .val (.int p2), .val (.int p3), .val (.int p4), .val (.int p5), .val (.int la), .val (.int c0), .val (.int c1), .val (.int lb), .val (.int b0), .val (.int b1), .val (.int nu), .val (.ref fa), .val (.ref fb), .val (.ref s1), .val (.ref s2), .val (.ref vo13), .val (.ref str15), .val (.ref vo16), .val (.ref vo17), .val (.ref b18), .val (.ref b21), .val (.int sty), .unset] []) (fun t k => XS.istore X28.here hx rfl (hb hby at_328) rfl (l' := #[.val (.int p0), .val (.int p1), .val (.int p2), .val (.int p3), .val (.int p4), .val (.int p5), .val (.int la), .val (.int c0), .val (.int c1), .val (.int lb), .val (.int b0), .val (.int b1), .val (.int nu), .val (.ref fa), .val (.ref fb), .val (.ref s1), .val (.ref s2), .val (.ref vo13), .val (.ref str15), .val (.ref vo16), .val (.ref vo17), .val (.ref b18), .val (.ref b21), .val (.int sty), .unset]) rfl k) ?_
      refine Goes.to (T' := T28) (mkF m 332 #[.val (.int p0), .val (.int p1), .val (.int p2), .val (.int p3), .val (.int p4), .val (.int p5), .val (.int la), .val (.int c0), .val (.int c1), .val (.int lb), .val (.int b0), .val (.int b1), .val (.int nu), .val (.ref fa), .val (.ref fb), .val (.ref s1), .val (.ref s2), .val (.ref vo13), .val (.ref str15), .val (.ref vo16), .val (.ref vo17), .val (.ref b18), .val (.ref b21), .val (.int sty), .unset] [(.int nu)]) (fun t k => XS.iload X28.here hx rfl (hb hby at_330) rfl k) ?_
      refine Goes.to (T' := T28) (mkF m 335 #[.val (.int p0), .val (.int p1), .val (.int p2), .val (.int p3), .val (.int p4), .val (.int p5), .val (.int la), .val (.int c0), .val (.int c1), .val (.int lb), .val (.int b0), .val (.int b1), .val (.int nu), .val (.ref fa), .val (.ref fb), .val (.ref s1), .val (.ref s2), .val (.ref vo13), .val (.ref str15), .val (.ref vo16), .val (.ref vo17), .val (.ref b18), .val (.ref b21), .val (.int sty), .unset] []) (fun t k => XS.ifNo X28.here hx rfl (hb hby at_332) rfl ((if0 _ _).trans (teq (hc221_20 : nu = (0 : Int32))).2) k) ?_
      refine Goes.to (T' := T28) (mkF m 337 #[.val (.int p0), .val (.int p1), .val (.int p2), .val (.int p3), .val (.int p4), .val (.int p5), .val (.int la), .val (.int c0), .val (.int c1), .val (.int lb), .val (.int b0), .val (.int b1), .val (.int nu), .val (.ref fa), .val (.ref fb), .val (.ref s1), .val (.ref s2), .val (.ref vo13), .val (.ref str15), .val (.ref vo16), .val (.ref vo17), .val (.ref b18), .val (.ref b21), .val (.int sty), .unset] [(.int sty)]) (fun t k => XS.iload X28.here hx rfl (hb hby at_335) rfl k) ?_
      by_cases hc337_31 : sty = (0 : Int32)
      · refine Goes.to (T' := T28) (mkF m 351 #[.val (.int p0), .val (.int p1), .val (.int p2), .val (.int p3), .val (.int p4), .val (.int p5), .val (.int la), .val (.int c0), .val (.int c1), .val (.int lb), .val (.int b0), .val (.int b1), .val (.int nu), .val (.ref fa), .val (.ref fb), .val (.ref s1), .val (.ref s2), .val (.ref vo13), .val (.ref str15), .val (.ref vo16), .val (.ref vo17), .val (.ref b18), .val (.ref b21), .val (.int sty), .unset] []) (fun t k => XS.ifYes X28.here hx rfl (pc0 := 337) (pc' := 351) rfl (hb hby at_337) rfl ((if0 _ _).trans (teq hc337_31).1) (by decide) (by decide) k) ?_
        refine Goes.to (T' := T28) (mkF m 352 #[.val (.int p0), .val (.int p1), .val (.int p2), .val (.int p3), .val (.int p4), .val (.int p5), .val (.int la), .val (.int c0), .val (.int c1), .val (.int lb), .val (.int b0), .val (.int b1), .val (.int nu), .val (.ref fa), .val (.ref fb), .val (.ref s1), .val (.ref s2), .val (.ref vo13), .val (.ref str15), .val (.ref vo16), .val (.ref vo17), .val (.ref b18), .val (.ref b21), .val (.int sty), .unset] [(.int (0 : Int32))]) (fun t k => XS.iconst X28.here hx rfl (hb hby at_351) k) ?_
        refine Goes.to (T' := T28) (mkF m 354 #[.val (.int p0), .val (.int p1), .val (.int p2), .val (.int p3), .val (.int p4), .val (.int p5), .val (.int la), .val (.int c0), .val (.int c1), .val (.int lb), .val (.int b0), .val (.int b1), .val (.int nu), .val (.ref fa), .val (.ref fb), .val (.ref s1), .val (.ref s2), .val (.ref vo13), .val (.ref str15), .val (.ref vo16), .val (.ref vo17), .val (.ref b18), .val (.ref b21), .val (.int sty), .val (.int (0 : Int32))] []) (fun t k => XS.istore X28.here hx rfl (hb hby at_352) rfl (l' := #[.val (.int p0), .val (.int p1), .val (.int p2), .val (.int p3), .val (.int p4), .val (.int p5), .val (.int la), .val (.int c0), .val (.int c1), .val (.int lb), .val (.int b0), .val (.int b1), .val (.int nu), .val (.ref fa), .val (.ref fb), .val (.ref s1), .val (.ref s2), .val (.ref vo13), .val (.ref str15), .val (.ref vo16), .val (.ref vo17), .val (.ref b18), .val (.ref b21), .val (.int sty), .val (.int (0 : Int32))]) rfl k) ?_
        refine Goes.to (T' := T28) (mkF m 356 #[.val (.int p0), .val (.int p1), .val (.int p2), .val (.int p3), .val (.int p4), .val (.int p5), .val (.int la), .val (.int c0), .val (.int c1), .val (.int lb), .val (.int b0), .val (.int b1), .val (.int nu), .val (.ref fa), .val (.ref fb), .val (.ref s1), .val (.ref s2), .val (.ref vo13), .val (.ref str15), .val (.ref vo16), .val (.ref vo17), .val (.ref b18), .val (.ref b21), .val (.int sty), .val (.int (0 : Int32))] [(.ref b18)]) (fun t k => XS.aload X28.here hx rfl (hb hby at_354) rfl rfl k) ?_
        refine Goes.to (T' := T28) (mkF m 358 #[.val (.int p0), .val (.int p1), .val (.int p2), .val (.int p3), .val (.int p4), .val (.int p5), .val (.int la), .val (.int c0), .val (.int c1), .val (.int lb), .val (.int b0), .val (.int b1), .val (.int nu), .val (.ref fa), .val (.ref fb), .val (.ref s1), .val (.ref s2), .val (.ref vo13), .val (.ref str15), .val (.ref vo16), .val (.ref vo17), .val (.ref b18), .val (.ref b21), .val (.int sty), .val (.int (0 : Int32))] [(.ref b21), (.ref b18)]) (fun t k => XS.aload X28.here hx rfl (hb hby at_356) rfl rfl k) ?_
        obtain ⟨cq32, kq32, q32a, q32b, q32c⟩ := isOf hZ rfl E_b18
        obtain ⟨_, _, ⟨T32, L32, k32, n32⟩, -, X32, ⟨Lc32, hQ32, l32, y32, z32⟩, st32⟩ := X28.virtualBack hx (y := (⟨"com/example/forest_in_rows/forestinrows/Installation$OwnColumnDefinition", "standsAs", "(Lcom/example/forest_in_rows/forestinrows/CatalogColumn;)Z"⟩ : MethodName)) (z := (⟨"com/example/forest_in_rows/forestinrows/Installation$OwnColumnDefinition", "standsAs", "(Lcom/example/forest_in_rows/forestinrows/CatalogColumn;)Z"⟩ : MethodName)) hown (mvT hZ (hw _ (List.mem_of_getElem? (i := 62) rfl))) (mvT hZ (hw _ (List.mem_of_getElem? (i := 63) rfl))) (notFace_of_selects (args := #[]) (mvT hZ (hw _ (List.mem_of_getElem? (i := 65) rfl)))) (mvT hZ (hw _ (List.mem_of_getElem? (i := 65) rfl))) (mvT hZ (hw _ (List.mem_of_getElem? (i := 64) rfl))) (by decide) (backOf (W := 0) (rm_saS l Z a0 hw [] b18 b21 s1 t1 s2 t2 fa fb k1 k2 m1 m2 cz vs1 vs2 _ _ T28.heap n0 O F_type_b18 F_filling_b18 F_type_b21 F_filling_b21 E_b18 E_b21 E_s1 F_v1 F_c1 V_t1 hcd1 (own_csb ha0 ha1) (own_csl _ _ _) E_s2 F_v2 F_c2 V_t2 hcd2 (own_csb hb0 hb1) (own_csl _ _ _) S_CS hcz) hZ (hw _ (List.mem_of_getElem? (i := 66) rfl)) (hw _ (List.mem_of_getElem? (i := 44) rfl)) (by decide) (by decide)) q32a q32c (g := (mkF m 358 #[.val (.int p0), .val (.int p1), .val (.int p2), .val (.int p3), .val (.int p4), .val (.int p5), .val (.int la), .val (.int c0), .val (.int c1), .val (.int lb), .val (.int b0), .val (.int b1), .val (.int nu), .val (.ref fa), .val (.ref fb), .val (.ref s1), .val (.ref s2), .val (.ref vo13), .val (.ref str15), .val (.ref vo16), .val (.ref vo17), .val (.ref b18), .val (.ref b21), .val (.int sty), .val (.int (0 : Int32))] [(.ref b21), (.ref b18)])) rfl (by rw [hml]; rfl) (Steps.refl _) (argsL := [(.ref b21)]) (rest := []) (lenOf pd_13 rfl) rfl (by show 2 * 0 + _ ≤ _; exact Nat.le_of_eq rfl) (hb hby at_358) (fun _ _ => ⟨rfl, rfl, (by decide : 18 + 0 ≤ _), (by decide : 58 + 0 ≤ _)⟩)
        dsimp only [Pt.U, Pt.locs, Pt.cells, Pt.slots] at X32 l32 y32 z32 st32 hQ32
        subst l32 y32 z32
        obtain ⟨rfl, N32, hs32⟩ := hQ32
        have N32' := Fr.app N28' N32
        refine Goes.to (T' := T32) (mkF m 361 #[.val (.int p0), .val (.int p1), .val (.int p2), .val (.int p3), .val (.int p4), .val (.int p5), .val (.int la), .val (.int c0), .val (.int c1), .val (.int lb), .val (.int b0), .val (.int b1), .val (.int nu), .val (.ref fa), .val (.ref fb), .val (.ref s1), .val (.ref s2), .val (.ref vo13), .val (.ref str15), .val (.ref vo16), .val (.ref vo17), .val (.ref b18), .val (.ref b21), .val (.int sty), .val (.int (0 : Int32))] [(.int (bit (own_cs lb b0 b1 = own_cs la c0 c1 ∧ fb = fa)))]) (fun t k => st32.trans k) ?_
        refine Goes.to (T' := T32) (mkF m 363 #[.val (.int p0), .val (.int p1), .val (.int p2), .val (.int p3), .val (.int p4), .val (.int p5), .val (.int la), .val (.int c0), .val (.int c1), .val (.int lb), .val (.int b0), .val (.int b1), .val (.int nu), .val (.ref fa), .val (.ref fb), .val (.ref s1), .val (.ref s2), .val (.ref vo13), .val (.ref str15), .val (.ref vo16), .val (.ref vo17), .val (.ref b18), .val (.ref b21), .val (.int sty), .val (.int (0 : Int32))] [(.int (0 : Int32)), (.int (bit (own_cs lb b0 b1 = own_cs la c0 c1 ∧ fb = fa)))]) (fun t k => XS.iload X32.here hx rfl (hb hby at_361) rfl k) ?_
        refine Goes.to (T' := T32) (mkF m 366 #[.val (.int p0), .val (.int p1), .val (.int p2), .val (.int p3), .val (.int p4), .val (.int p5), .val (.int la), .val (.int c0), .val (.int c1), .val (.int lb), .val (.int b0), .val (.int b1), .val (.int nu), .val (.ref fa), .val (.ref fb), .val (.ref s1), .val (.ref s2), .val (.ref vo13), .val (.ref str15), .val (.ref vo16), .val (.ref vo17), .val (.ref b18), .val (.ref b21), .val (.int sty), .val (.int (0 : Int32))] []) (fun t k => XS.icmpNo X32.here hx rfl (hb hby at_363) rfl (teq (bit_f (fun q => own_st0 (own_same hla hlb sty_eq) hc337_31 q.1) : (bit (own_cs lb b0 b1 = own_cs la c0 c1 ∧ fb = fa)) = (0 : Int32))).2 k) ?_
        refine Goes.to (T' := T32) (mkF m 367 #[.val (.int p0), .val (.int p1), .val (.int p2), .val (.int p3), .val (.int p4), .val (.int p5), .val (.int la), .val (.int c0), .val (.int c1), .val (.int lb), .val (.int b0), .val (.int b1), .val (.int nu), .val (.ref fa), .val (.ref fb), .val (.ref s1), .val (.ref s2), .val (.ref vo13), .val (.ref str15), .val (.ref vo16), .val (.ref vo17), .val (.ref b18), .val (.ref b21), .val (.int sty), .val (.int (0 : Int32))] [(.int (1 : Int32))]) (fun t k => XS.iconst X32.here hx rfl (hb hby at_366) k) ?_
        refine Goes.to (T' := T32) (mkF m 371 #[.val (.int p0), .val (.int p1), .val (.int p2), .val (.int p3), .val (.int p4), .val (.int p5), .val (.int la), .val (.int c0), .val (.int c1), .val (.int lb), .val (.int b0), .val (.int b1), .val (.int nu), .val (.ref fa), .val (.ref fb), .val (.ref s1), .val (.ref s2), .val (.ref vo13), .val (.ref str15), .val (.ref vo16), .val (.ref vo17), .val (.ref b18), .val (.ref b21), .val (.int sty), .val (.int (0 : Int32))] [(.int (1 : Int32))]) (fun t k => XS.goto X32.here hx rfl (pc0 := 367) (pc' := 371) rfl (hb hby at_367) (by decide) (by decide) k) ?_
        refine Goes.retNW X32 hx Bd.notSynchronized hS0 (by rw [hs32]; exact hk0) (t := .boolean) Bd.returns (by simp) (hb hby at_371) (by decide) (by decide) ?_
        rw [hs32]
        exact ⟨rfl, N32'⟩
      · refine Goes.to (T' := T28) (mkF m 340 #[.val (.int p0), .val (.int p1), .val (.int p2), .val (.int p3), .val (.int p4), .val (.int p5), .val (.int la), .val (.int c0), .val (.int c1), .val (.int lb), .val (.int b0), .val (.int b1), .val (.int nu), .val (.ref fa), .val (.ref fb), .val (.ref s1), .val (.ref s2), .val (.ref vo13), .val (.ref str15), .val (.ref vo16), .val (.ref vo17), .val (.ref b18), .val (.ref b21), .val (.int sty), .unset] []) (fun t k => XS.ifNo X28.here hx rfl (hb hby at_337) rfl ((if0 _ _).trans (feq hc337_31).1) k) ?_
        refine Goes.to (T' := T28) (mkF m 342 #[.val (.int p0), .val (.int p1), .val (.int p2), .val (.int p3), .val (.int p4), .val (.int p5), .val (.int la), .val (.int c0), .val (.int c1), .val (.int lb), .val (.int b0), .val (.int b1), .val (.int nu), .val (.ref fa), .val (.ref fb), .val (.ref s1), .val (.ref s2), .val (.ref vo13), .val (.ref str15), .val (.ref vo16), .val (.ref vo17), .val (.ref b18), .val (.ref b21), .val (.int sty), .unset] [(.ref fa)]) (fun t k => XS.aload X28.here hx rfl (hb hby at_340) rfl rfl k) ?_
        refine Goes.to (T' := T28) (mkF m 344 #[.val (.int p0), .val (.int p1), .val (.int p2), .val (.int p3), .val (.int p4), .val (.int p5), .val (.int la), .val (.int c0), .val (.int c1), .val (.int lb), .val (.int b0), .val (.int b1), .val (.int nu), .val (.ref fa), .val (.ref fb), .val (.ref s1), .val (.ref s2), .val (.ref vo13), .val (.ref str15), .val (.ref vo16), .val (.ref vo17), .val (.ref b18), .val (.ref b21), .val (.int sty), .unset] [(.ref fb), (.ref fa)]) (fun t k => XS.aload X28.here hx rfl (hb hby at_342) rfl rfl k) ?_
        by_cases ha344_33 : fa = fb
        · refine Goes.to (T' := T28) (mkF m 347 #[.val (.int p0), .val (.int p1), .val (.int p2), .val (.int p3), .val (.int p4), .val (.int p5), .val (.int la), .val (.int c0), .val (.int c1), .val (.int lb), .val (.int b0), .val (.int b1), .val (.int nu), .val (.ref fa), .val (.ref fb), .val (.ref s1), .val (.ref s2), .val (.ref vo13), .val (.ref str15), .val (.ref vo16), .val (.ref vo17), .val (.ref b18), .val (.ref b21), .val (.int sty), .unset] []) (fun t k => Jvm.RoadKit.acmp (g := (mkF m 344 #[.val (.int p0), .val (.int p1), .val (.int p2), .val (.int p3), .val (.int p4), .val (.int p5), .val (.int la), .val (.int c0), .val (.int c1), .val (.int lb), .val (.int b0), .val (.int b1), .val (.int nu), .val (.ref fa), .val (.ref fb), .val (.ref s1), .val (.ref s2), .val (.ref vo13), .val (.ref str15), .val (.ref vo16), .val (.ref vo17), .val (.ref b18), .val (.ref b21), .val (.int sty), .unset] [(.ref fb), (.ref fa)])) X28 hx rfl rfl rfl (pc0 := 344) (pc' := 347) (same := true) rfl (hb hby at_344) rfl (decide_eq_true (congrArg Value.ref ha344_33)) (by decide) (by decide) k) ?_
          refine Goes.to (T' := T28) (mkF m 348 #[.val (.int p0), .val (.int p1), .val (.int p2), .val (.int p3), .val (.int p4), .val (.int p5), .val (.int la), .val (.int c0), .val (.int c1), .val (.int lb), .val (.int b0), .val (.int b1), .val (.int nu), .val (.ref fa), .val (.ref fb), .val (.ref s1), .val (.ref s2), .val (.ref vo13), .val (.ref str15), .val (.ref vo16), .val (.ref vo17), .val (.ref b18), .val (.ref b21), .val (.int sty), .unset] [(.int (1 : Int32))]) (fun t k => XS.iconst X28.here hx rfl (hb hby at_347) k) ?_
          refine Goes.to (T' := T28) (mkF m 352 #[.val (.int p0), .val (.int p1), .val (.int p2), .val (.int p3), .val (.int p4), .val (.int p5), .val (.int la), .val (.int c0), .val (.int c1), .val (.int lb), .val (.int b0), .val (.int b1), .val (.int nu), .val (.ref fa), .val (.ref fb), .val (.ref s1), .val (.ref s2), .val (.ref vo13), .val (.ref str15), .val (.ref vo16), .val (.ref vo17), .val (.ref b18), .val (.ref b21), .val (.int sty), .unset] [(.int (1 : Int32))]) (fun t k => XS.goto X28.here hx rfl (pc0 := 348) (pc' := 352) rfl (hb hby at_348) (by decide) (by decide) k) ?_
          refine Goes.to (T' := T28) (mkF m 354 #[.val (.int p0), .val (.int p1), .val (.int p2), .val (.int p3), .val (.int p4), .val (.int p5), .val (.int la), .val (.int c0), .val (.int c1), .val (.int lb), .val (.int b0), .val (.int b1), .val (.int nu), .val (.ref fa), .val (.ref fb), .val (.ref s1), .val (.ref s2), .val (.ref vo13), .val (.ref str15), .val (.ref vo16), .val (.ref vo17), .val (.ref b18), .val (.ref b21), .val (.int sty), .val (.int (1 : Int32))] []) (fun t k => XS.istore X28.here hx rfl (hb hby at_352) rfl (l' := #[.val (.int p0), .val (.int p1), .val (.int p2), .val (.int p3), .val (.int p4), .val (.int p5), .val (.int la), .val (.int c0), .val (.int c1), .val (.int lb), .val (.int b0), .val (.int b1), .val (.int nu), .val (.ref fa), .val (.ref fb), .val (.ref s1), .val (.ref s2), .val (.ref vo13), .val (.ref str15), .val (.ref vo16), .val (.ref vo17), .val (.ref b18), .val (.ref b21), .val (.int sty), .val (.int (1 : Int32))]) rfl k) ?_
          refine Goes.to (T' := T28) (mkF m 356 #[.val (.int p0), .val (.int p1), .val (.int p2), .val (.int p3), .val (.int p4), .val (.int p5), .val (.int la), .val (.int c0), .val (.int c1), .val (.int lb), .val (.int b0), .val (.int b1), .val (.int nu), .val (.ref fa), .val (.ref fb), .val (.ref s1), .val (.ref s2), .val (.ref vo13), .val (.ref str15), .val (.ref vo16), .val (.ref vo17), .val (.ref b18), .val (.ref b21), .val (.int sty), .val (.int (1 : Int32))] [(.ref b18)]) (fun t k => XS.aload X28.here hx rfl (hb hby at_354) rfl rfl k) ?_
          refine Goes.to (T' := T28) (mkF m 358 #[.val (.int p0), .val (.int p1), .val (.int p2), .val (.int p3), .val (.int p4), .val (.int p5), .val (.int la), .val (.int c0), .val (.int c1), .val (.int lb), .val (.int b0), .val (.int b1), .val (.int nu), .val (.ref fa), .val (.ref fb), .val (.ref s1), .val (.ref s2), .val (.ref vo13), .val (.ref str15), .val (.ref vo16), .val (.ref vo17), .val (.ref b18), .val (.ref b21), .val (.int sty), .val (.int (1 : Int32))] [(.ref b21), (.ref b18)]) (fun t k => XS.aload X28.here hx rfl (hb hby at_356) rfl rfl k) ?_
          obtain ⟨cq34, kq34, q34a, q34b, q34c⟩ := isOf hZ rfl E_b18
          obtain ⟨_, _, ⟨T34, L34, k34, n34⟩, -, X34, ⟨Lc34, hQ34, l34, y34, z34⟩, st34⟩ := X28.virtualBack hx (y := (⟨"com/example/forest_in_rows/forestinrows/Installation$OwnColumnDefinition", "standsAs", "(Lcom/example/forest_in_rows/forestinrows/CatalogColumn;)Z"⟩ : MethodName)) (z := (⟨"com/example/forest_in_rows/forestinrows/Installation$OwnColumnDefinition", "standsAs", "(Lcom/example/forest_in_rows/forestinrows/CatalogColumn;)Z"⟩ : MethodName)) hown (mvT hZ (hw _ (List.mem_of_getElem? (i := 62) rfl))) (mvT hZ (hw _ (List.mem_of_getElem? (i := 63) rfl))) (notFace_of_selects (args := #[]) (mvT hZ (hw _ (List.mem_of_getElem? (i := 65) rfl)))) (mvT hZ (hw _ (List.mem_of_getElem? (i := 65) rfl))) (mvT hZ (hw _ (List.mem_of_getElem? (i := 64) rfl))) (by decide) (backOf (W := 0) (rm_saS l Z a0 hw [] b18 b21 s1 t1 s2 t2 fa fb k1 k2 m1 m2 cz vs1 vs2 _ _ T28.heap n0 O F_type_b18 F_filling_b18 F_type_b21 F_filling_b21 E_b18 E_b21 E_s1 F_v1 F_c1 V_t1 hcd1 (own_csb ha0 ha1) (own_csl _ _ _) E_s2 F_v2 F_c2 V_t2 hcd2 (own_csb hb0 hb1) (own_csl _ _ _) S_CS hcz) hZ (hw _ (List.mem_of_getElem? (i := 66) rfl)) (hw _ (List.mem_of_getElem? (i := 44) rfl)) (by decide) (by decide)) q34a q34c (g := (mkF m 358 #[.val (.int p0), .val (.int p1), .val (.int p2), .val (.int p3), .val (.int p4), .val (.int p5), .val (.int la), .val (.int c0), .val (.int c1), .val (.int lb), .val (.int b0), .val (.int b1), .val (.int nu), .val (.ref fa), .val (.ref fb), .val (.ref s1), .val (.ref s2), .val (.ref vo13), .val (.ref str15), .val (.ref vo16), .val (.ref vo17), .val (.ref b18), .val (.ref b21), .val (.int sty), .val (.int (1 : Int32))] [(.ref b21), (.ref b18)])) rfl (by rw [hml]; rfl) (Steps.refl _) (argsL := [(.ref b21)]) (rest := []) (lenOf pd_13 rfl) rfl (by show 2 * 0 + _ ≤ _; exact Nat.le_of_eq rfl) (hb hby at_358) (fun _ _ => ⟨rfl, rfl, (by decide : 18 + 0 ≤ _), (by decide : 58 + 0 ≤ _)⟩)
          dsimp only [Pt.U, Pt.locs, Pt.cells, Pt.slots] at X34 l34 y34 z34 st34 hQ34
          subst l34 y34 z34
          obtain ⟨rfl, N34, hs34⟩ := hQ34
          have N34' := Fr.app N28' N34
          refine Goes.to (T' := T34) (mkF m 361 #[.val (.int p0), .val (.int p1), .val (.int p2), .val (.int p3), .val (.int p4), .val (.int p5), .val (.int la), .val (.int c0), .val (.int c1), .val (.int lb), .val (.int b0), .val (.int b1), .val (.int nu), .val (.ref fa), .val (.ref fb), .val (.ref s1), .val (.ref s2), .val (.ref vo13), .val (.ref str15), .val (.ref vo16), .val (.ref vo17), .val (.ref b18), .val (.ref b21), .val (.int sty), .val (.int (1 : Int32))] [(.int (bit (own_cs lb b0 b1 = own_cs la c0 c1 ∧ fb = fa)))]) (fun t k => st34.trans k) ?_
          refine Goes.to (T' := T34) (mkF m 363 #[.val (.int p0), .val (.int p1), .val (.int p2), .val (.int p3), .val (.int p4), .val (.int p5), .val (.int la), .val (.int c0), .val (.int c1), .val (.int lb), .val (.int b0), .val (.int b1), .val (.int nu), .val (.ref fa), .val (.ref fb), .val (.ref s1), .val (.ref s2), .val (.ref vo13), .val (.ref str15), .val (.ref vo16), .val (.ref vo17), .val (.ref b18), .val (.ref b21), .val (.int sty), .val (.int (1 : Int32))] [(.int (1 : Int32)), (.int (bit (own_cs lb b0 b1 = own_cs la c0 c1 ∧ fb = fa)))]) (fun t k => XS.iload X34.here hx rfl (hb hby at_361) rfl k) ?_
          refine Goes.to (T' := T34) (mkF m 366 #[.val (.int p0), .val (.int p1), .val (.int p2), .val (.int p3), .val (.int p4), .val (.int p5), .val (.int la), .val (.int c0), .val (.int c1), .val (.int lb), .val (.int b0), .val (.int b1), .val (.int nu), .val (.ref fa), .val (.ref fb), .val (.ref s1), .val (.ref s2), .val (.ref vo13), .val (.ref str15), .val (.ref vo16), .val (.ref vo17), .val (.ref b18), .val (.ref b21), .val (.int sty), .val (.int (1 : Int32))] []) (fun t k => XS.icmpNo X34.here hx rfl (hb hby at_363) rfl (teq (bit_t ⟨own_st1 (own_same hla hlb sty_eq) hc337_31, ha344_33.symm⟩ : (bit (own_cs lb b0 b1 = own_cs la c0 c1 ∧ fb = fa)) = (1 : Int32))).2 k) ?_
          refine Goes.to (T' := T34) (mkF m 367 #[.val (.int p0), .val (.int p1), .val (.int p2), .val (.int p3), .val (.int p4), .val (.int p5), .val (.int la), .val (.int c0), .val (.int c1), .val (.int lb), .val (.int b0), .val (.int b1), .val (.int nu), .val (.ref fa), .val (.ref fb), .val (.ref s1), .val (.ref s2), .val (.ref vo13), .val (.ref str15), .val (.ref vo16), .val (.ref vo17), .val (.ref b18), .val (.ref b21), .val (.int sty), .val (.int (1 : Int32))] [(.int (1 : Int32))]) (fun t k => XS.iconst X34.here hx rfl (hb hby at_366) k) ?_
          refine Goes.to (T' := T34) (mkF m 371 #[.val (.int p0), .val (.int p1), .val (.int p2), .val (.int p3), .val (.int p4), .val (.int p5), .val (.int la), .val (.int c0), .val (.int c1), .val (.int lb), .val (.int b0), .val (.int b1), .val (.int nu), .val (.ref fa), .val (.ref fb), .val (.ref s1), .val (.ref s2), .val (.ref vo13), .val (.ref str15), .val (.ref vo16), .val (.ref vo17), .val (.ref b18), .val (.ref b21), .val (.int sty), .val (.int (1 : Int32))] [(.int (1 : Int32))]) (fun t k => XS.goto X34.here hx rfl (pc0 := 367) (pc' := 371) rfl (hb hby at_367) (by decide) (by decide) k) ?_
          refine Goes.retNW X34 hx Bd.notSynchronized hS0 (by rw [hs34]; exact hk0) (t := .boolean) Bd.returns (by simp) (hb hby at_371) (by decide) (by decide) ?_
          rw [hs34]
          exact ⟨rfl, N34'⟩
        · refine Goes.to (T' := T28) (mkF m 351 #[.val (.int p0), .val (.int p1), .val (.int p2), .val (.int p3), .val (.int p4), .val (.int p5), .val (.int la), .val (.int c0), .val (.int c1), .val (.int lb), .val (.int b0), .val (.int b1), .val (.int nu), .val (.ref fa), .val (.ref fb), .val (.ref s1), .val (.ref s2), .val (.ref vo13), .val (.ref str15), .val (.ref vo16), .val (.ref vo17), .val (.ref b18), .val (.ref b21), .val (.int sty), .unset] []) (fun t k => Jvm.RoadKit.acmp (g := (mkF m 344 #[.val (.int p0), .val (.int p1), .val (.int p2), .val (.int p3), .val (.int p4), .val (.int p5), .val (.int la), .val (.int c0), .val (.int c1), .val (.int lb), .val (.int b0), .val (.int b1), .val (.int nu), .val (.ref fa), .val (.ref fb), .val (.ref s1), .val (.ref s2), .val (.ref vo13), .val (.ref str15), .val (.ref vo16), .val (.ref vo17), .val (.ref b18), .val (.ref b21), .val (.int sty), .unset] [(.ref fb), (.ref fa)])) X28 hx rfl rfl rfl (pc0 := 344) (pc' := 351) (same := false) rfl (hb hby at_344) rfl (decide_eq_false fun q => ha344_33 (Value.ref.inj q)) (by decide) (by decide) k) ?_
          refine Goes.to (T' := T28) (mkF m 352 #[.val (.int p0), .val (.int p1), .val (.int p2), .val (.int p3), .val (.int p4), .val (.int p5), .val (.int la), .val (.int c0), .val (.int c1), .val (.int lb), .val (.int b0), .val (.int b1), .val (.int nu), .val (.ref fa), .val (.ref fb), .val (.ref s1), .val (.ref s2), .val (.ref vo13), .val (.ref str15), .val (.ref vo16), .val (.ref vo17), .val (.ref b18), .val (.ref b21), .val (.int sty), .unset] [(.int (0 : Int32))]) (fun t k => XS.iconst X28.here hx rfl (hb hby at_351) k) ?_
          refine Goes.to (T' := T28) (mkF m 354 #[.val (.int p0), .val (.int p1), .val (.int p2), .val (.int p3), .val (.int p4), .val (.int p5), .val (.int la), .val (.int c0), .val (.int c1), .val (.int lb), .val (.int b0), .val (.int b1), .val (.int nu), .val (.ref fa), .val (.ref fb), .val (.ref s1), .val (.ref s2), .val (.ref vo13), .val (.ref str15), .val (.ref vo16), .val (.ref vo17), .val (.ref b18), .val (.ref b21), .val (.int sty), .val (.int (0 : Int32))] []) (fun t k => XS.istore X28.here hx rfl (hb hby at_352) rfl (l' := #[.val (.int p0), .val (.int p1), .val (.int p2), .val (.int p3), .val (.int p4), .val (.int p5), .val (.int la), .val (.int c0), .val (.int c1), .val (.int lb), .val (.int b0), .val (.int b1), .val (.int nu), .val (.ref fa), .val (.ref fb), .val (.ref s1), .val (.ref s2), .val (.ref vo13), .val (.ref str15), .val (.ref vo16), .val (.ref vo17), .val (.ref b18), .val (.ref b21), .val (.int sty), .val (.int (0 : Int32))]) rfl k) ?_
          refine Goes.to (T' := T28) (mkF m 356 #[.val (.int p0), .val (.int p1), .val (.int p2), .val (.int p3), .val (.int p4), .val (.int p5), .val (.int la), .val (.int c0), .val (.int c1), .val (.int lb), .val (.int b0), .val (.int b1), .val (.int nu), .val (.ref fa), .val (.ref fb), .val (.ref s1), .val (.ref s2), .val (.ref vo13), .val (.ref str15), .val (.ref vo16), .val (.ref vo17), .val (.ref b18), .val (.ref b21), .val (.int sty), .val (.int (0 : Int32))] [(.ref b18)]) (fun t k => XS.aload X28.here hx rfl (hb hby at_354) rfl rfl k) ?_
          refine Goes.to (T' := T28) (mkF m 358 #[.val (.int p0), .val (.int p1), .val (.int p2), .val (.int p3), .val (.int p4), .val (.int p5), .val (.int la), .val (.int c0), .val (.int c1), .val (.int lb), .val (.int b0), .val (.int b1), .val (.int nu), .val (.ref fa), .val (.ref fb), .val (.ref s1), .val (.ref s2), .val (.ref vo13), .val (.ref str15), .val (.ref vo16), .val (.ref vo17), .val (.ref b18), .val (.ref b21), .val (.int sty), .val (.int (0 : Int32))] [(.ref b21), (.ref b18)]) (fun t k => XS.aload X28.here hx rfl (hb hby at_356) rfl rfl k) ?_
          obtain ⟨cq35, kq35, q35a, q35b, q35c⟩ := isOf hZ rfl E_b18
          obtain ⟨_, _, ⟨T35, L35, k35, n35⟩, -, X35, ⟨Lc35, hQ35, l35, y35, z35⟩, st35⟩ := X28.virtualBack hx (y := (⟨"com/example/forest_in_rows/forestinrows/Installation$OwnColumnDefinition", "standsAs", "(Lcom/example/forest_in_rows/forestinrows/CatalogColumn;)Z"⟩ : MethodName)) (z := (⟨"com/example/forest_in_rows/forestinrows/Installation$OwnColumnDefinition", "standsAs", "(Lcom/example/forest_in_rows/forestinrows/CatalogColumn;)Z"⟩ : MethodName)) hown (mvT hZ (hw _ (List.mem_of_getElem? (i := 62) rfl))) (mvT hZ (hw _ (List.mem_of_getElem? (i := 63) rfl))) (notFace_of_selects (args := #[]) (mvT hZ (hw _ (List.mem_of_getElem? (i := 65) rfl)))) (mvT hZ (hw _ (List.mem_of_getElem? (i := 65) rfl))) (mvT hZ (hw _ (List.mem_of_getElem? (i := 64) rfl))) (by decide) (backOf (W := 0) (rm_saS l Z a0 hw [] b18 b21 s1 t1 s2 t2 fa fb k1 k2 m1 m2 cz vs1 vs2 _ _ T28.heap n0 O F_type_b18 F_filling_b18 F_type_b21 F_filling_b21 E_b18 E_b21 E_s1 F_v1 F_c1 V_t1 hcd1 (own_csb ha0 ha1) (own_csl _ _ _) E_s2 F_v2 F_c2 V_t2 hcd2 (own_csb hb0 hb1) (own_csl _ _ _) S_CS hcz) hZ (hw _ (List.mem_of_getElem? (i := 66) rfl)) (hw _ (List.mem_of_getElem? (i := 44) rfl)) (by decide) (by decide)) q35a q35c (g := (mkF m 358 #[.val (.int p0), .val (.int p1), .val (.int p2), .val (.int p3), .val (.int p4), .val (.int p5), .val (.int la), .val (.int c0), .val (.int c1), .val (.int lb), .val (.int b0), .val (.int b1), .val (.int nu), .val (.ref fa), .val (.ref fb), .val (.ref s1), .val (.ref s2), .val (.ref vo13), .val (.ref str15), .val (.ref vo16), .val (.ref vo17), .val (.ref b18), .val (.ref b21), .val (.int sty), .val (.int (0 : Int32))] [(.ref b21), (.ref b18)])) rfl (by rw [hml]; rfl) (Steps.refl _) (argsL := [(.ref b21)]) (rest := []) (lenOf pd_13 rfl) rfl (by show 2 * 0 + _ ≤ _; exact Nat.le_of_eq rfl) (hb hby at_358) (fun _ _ => ⟨rfl, rfl, (by decide : 18 + 0 ≤ _), (by decide : 58 + 0 ≤ _)⟩)
          dsimp only [Pt.U, Pt.locs, Pt.cells, Pt.slots] at X35 l35 y35 z35 st35 hQ35
          subst l35 y35 z35
          obtain ⟨rfl, N35, hs35⟩ := hQ35
          have N35' := Fr.app N28' N35
          refine Goes.to (T' := T35) (mkF m 361 #[.val (.int p0), .val (.int p1), .val (.int p2), .val (.int p3), .val (.int p4), .val (.int p5), .val (.int la), .val (.int c0), .val (.int c1), .val (.int lb), .val (.int b0), .val (.int b1), .val (.int nu), .val (.ref fa), .val (.ref fb), .val (.ref s1), .val (.ref s2), .val (.ref vo13), .val (.ref str15), .val (.ref vo16), .val (.ref vo17), .val (.ref b18), .val (.ref b21), .val (.int sty), .val (.int (0 : Int32))] [(.int (bit (own_cs lb b0 b1 = own_cs la c0 c1 ∧ fb = fa)))]) (fun t k => st35.trans k) ?_
          refine Goes.to (T' := T35) (mkF m 363 #[.val (.int p0), .val (.int p1), .val (.int p2), .val (.int p3), .val (.int p4), .val (.int p5), .val (.int la), .val (.int c0), .val (.int c1), .val (.int lb), .val (.int b0), .val (.int b1), .val (.int nu), .val (.ref fa), .val (.ref fb), .val (.ref s1), .val (.ref s2), .val (.ref vo13), .val (.ref str15), .val (.ref vo16), .val (.ref vo17), .val (.ref b18), .val (.ref b21), .val (.int sty), .val (.int (0 : Int32))] [(.int (0 : Int32)), (.int (bit (own_cs lb b0 b1 = own_cs la c0 c1 ∧ fb = fa)))]) (fun t k => XS.iload X35.here hx rfl (hb hby at_361) rfl k) ?_
          refine Goes.to (T' := T35) (mkF m 366 #[.val (.int p0), .val (.int p1), .val (.int p2), .val (.int p3), .val (.int p4), .val (.int p5), .val (.int la), .val (.int c0), .val (.int c1), .val (.int lb), .val (.int b0), .val (.int b1), .val (.int nu), .val (.ref fa), .val (.ref fb), .val (.ref s1), .val (.ref s2), .val (.ref vo13), .val (.ref str15), .val (.ref vo16), .val (.ref vo17), .val (.ref b18), .val (.ref b21), .val (.int sty), .val (.int (0 : Int32))] []) (fun t k => XS.icmpNo X35.here hx rfl (hb hby at_363) rfl (teq (bit_f (fun q => ha344_33 q.2.symm) : (bit (own_cs lb b0 b1 = own_cs la c0 c1 ∧ fb = fa)) = (0 : Int32))).2 k) ?_
          refine Goes.to (T' := T35) (mkF m 367 #[.val (.int p0), .val (.int p1), .val (.int p2), .val (.int p3), .val (.int p4), .val (.int p5), .val (.int la), .val (.int c0), .val (.int c1), .val (.int lb), .val (.int b0), .val (.int b1), .val (.int nu), .val (.ref fa), .val (.ref fb), .val (.ref s1), .val (.ref s2), .val (.ref vo13), .val (.ref str15), .val (.ref vo16), .val (.ref vo17), .val (.ref b18), .val (.ref b21), .val (.int sty), .val (.int (0 : Int32))] [(.int (1 : Int32))]) (fun t k => XS.iconst X35.here hx rfl (hb hby at_366) k) ?_
          refine Goes.to (T' := T35) (mkF m 371 #[.val (.int p0), .val (.int p1), .val (.int p2), .val (.int p3), .val (.int p4), .val (.int p5), .val (.int la), .val (.int c0), .val (.int c1), .val (.int lb), .val (.int b0), .val (.int b1), .val (.int nu), .val (.ref fa), .val (.ref fb), .val (.ref s1), .val (.ref s2), .val (.ref vo13), .val (.ref str15), .val (.ref vo16), .val (.ref vo17), .val (.ref b18), .val (.ref b21), .val (.int sty), .val (.int (0 : Int32))] [(.int (1 : Int32))]) (fun t k => XS.goto X35.here hx rfl (pc0 := 367) (pc' := 371) rfl (hb hby at_367) (by decide) (by decide) k) ?_
          refine Goes.retNW X35 hx Bd.notSynchronized hS0 (by rw [hs35]; exact hk0) (t := .boolean) Bd.returns (by simp) (hb hby at_371) (by decide) (by decide) ?_
          rw [hs35]
          exact ⟨rfl, N35'⟩
    · refine Goes.to (T' := T19) (mkF m 224 #[.val (.int p0), .val (.int p1), .val (.int p2), .val (.int p3), .val (.int p4), .val (.int p5), .val (.int la), .val (.int c0), .val (.int c1), .val (.int lb), .val (.int b0), .val (.int b1), .val (.int nu), .val (.ref fa), .val (.ref fb), .val (.ref s1), .val (.ref s2), .val (.ref vo13), .val (.ref str15), .val (.ref vo16), .val (.ref vo17), .val (.ref b18), .unset, .unset, .unset] []) (fun t k => XS.ifNo X19.here hx rfl (hb hby at_221) rfl ((if0 _ _).trans (feq hc221_20).1) k) ?_
      refine Goes.to (T' := T19) (mkF m 225 #[.val (.int p0), .val (.int p1), .val (.int p2), .val (.int p3), .val (.int p4), .val (.int p5), .val (.int la), .val (.int c0), .val (.int c1), .val (.int lb), .val (.int b0), .val (.int b1), .val (.int nu), .val (.ref fa), .val (.ref fb), .val (.ref s1), .val (.ref s2), .val (.ref vo13), .val (.ref str15), .val (.ref vo16), .val (.ref vo17), .val (.ref b18), .unset, .unset, .unset] [.null]) (fun t k => XS.aconstNull X19.here hx rfl (hb hby at_224) k) ?_
      refine Goes.to (T' := T19) (mkF m 288 #[.val (.int p0), .val (.int p1), .val (.int p2), .val (.int p3), .val (.int p4), .val (.int p5), .val (.int la), .val (.int c0), .val (.int c1), .val (.int lb), .val (.int b0), .val (.int b1), .val (.int nu), .val (.ref fa), .val (.ref fb), .val (.ref s1), .val (.ref s2), .val (.ref vo13), .val (.ref str15), .val (.ref vo16), .val (.ref vo17), .val (.ref b18), .unset, .unset, .unset] [.null]) (fun t k => XS.goto X19.here hx rfl (pc0 := 225) (pc' := 288) rfl (hb hby at_225) (by decide) (by decide) k) ?_
      refine Goes.to (T' := T19) (mkF m 290 #[.val (.int p0), .val (.int p1), .val (.int p2), .val (.int p3), .val (.int p4), .val (.int p5), .val (.int la), .val (.int c0), .val (.int c1), .val (.int lb), .val (.int b0), .val (.int b1), .val (.int nu), .val (.ref fa), .val (.ref fb), .val (.ref s1), .val (.ref s2), .val (.ref vo13), .val (.ref str15), .val (.ref vo16), .val (.ref vo17), .val (.ref b18), .val .null, .unset, .unset] []) (fun t k => XS.astore X19.here hx rfl (hb hby at_288) rfl rfl (l' := #[.val (.int p0), .val (.int p1), .val (.int p2), .val (.int p3), .val (.int p4), .val (.int p5), .val (.int la), .val (.int c0), .val (.int c1), .val (.int lb), .val (.int b0), .val (.int b1), .val (.int nu), .val (.ref fa), .val (.ref fb), .val (.ref s1), .val (.ref s2), .val (.ref vo13), .val (.ref str15), .val (.ref vo16), .val (.ref vo17), .val (.ref b18), .val .null, .unset, .unset]) rfl k) ?_
      refine Goes.to (T' := T19) (mkF m 292 #[.val (.int p0), .val (.int p1), .val (.int p2), .val (.int p3), .val (.int p4), .val (.int p5), .val (.int la), .val (.int c0), .val (.int c1), .val (.int lb), .val (.int b0), .val (.int b1), .val (.int nu), .val (.ref fa), .val (.ref fb), .val (.ref s1), .val (.ref s2), .val (.ref vo13), .val (.ref str15), .val (.ref vo16), .val (.ref vo17), .val (.ref b18), .val .null, .unset, .unset] [(.int la)]) (fun t k => XS.iload X19.here hx rfl (hb hby at_290) rfl k) ?_
      refine Goes.to (T' := T19) (mkF m 294 #[.val (.int p0), .val (.int p1), .val (.int p2), .val (.int p3), .val (.int p4), .val (.int p5), .val (.int la), .val (.int c0), .val (.int c1), .val (.int lb), .val (.int b0), .val (.int b1), .val (.int nu), .val (.ref fa), .val (.ref fb), .val (.ref s1), .val (.ref s2), .val (.ref vo13), .val (.ref str15), .val (.ref vo16), .val (.ref vo17), .val (.ref b18), .val .null, .unset, .unset] [(.int lb), (.int la)]) (fun t k => XS.iload X19.here hx rfl (hb hby at_292) rfl k) ?_
      have D294_36 : ∀ t, Steps p.tables e below (T19.setTop (mkF m 328 #[.val (.int p0), .val (.int p1), .val (.int p2), .val (.int p3), .val (.int p4), .val (.int p5), .val (.int la), .val (.int c0), .val (.int c1), .val (.int lb), .val (.int b0), .val (.int b1), .val (.int nu), .val (.ref fa), .val (.ref fb), .val (.ref s1), .val (.ref s2), .val (.ref vo13), .val (.ref str15), .val (.ref vo16), .val (.ref vo17), .val (.ref b18), .val .null, .unset, .unset] [(.int (if la = lb then (if la < (1 : Int32) then (if la < (2 : Int32) then (1 : Int32) else (if c1 = b1 then (1 : Int32) else (0 : Int32))) else (if c0 = b0 then (if la < (2 : Int32) then (1 : Int32) else (if c1 = b1 then (1 : Int32) else (0 : Int32))) else (0 : Int32))) else (0 : Int32)))])) t → Steps p.tables e below (T19.setTop (mkF m 294 #[.val (.int p0), .val (.int p1), .val (.int p2), .val (.int p3), .val (.int p4), .val (.int p5), .val (.int la), .val (.int c0), .val (.int c1), .val (.int lb), .val (.int b0), .val (.int b1), .val (.int nu), .val (.ref fa), .val (.ref fb), .val (.ref s1), .val (.ref s2), .val (.ref vo13), .val (.ref str15), .val (.ref vo16), .val (.ref vo17), .val (.ref b18), .val .null, .unset, .unset] [(.int lb), (.int la)])) t := by
        intro t k
        by_cases hq : la = lb
        · simp only [if_pos hq] at k
          refine XS.icmpNo X19.here hx rfl (hb hby at_294) rfl (teq hq).2 ?_
          show Steps p.tables e below (T19.setTop (mkF m 297 #[.val (.int p0), .val (.int p1), .val (.int p2), .val (.int p3), .val (.int p4), .val (.int p5), .val (.int la), .val (.int c0), .val (.int c1), .val (.int lb), .val (.int b0), .val (.int b1), .val (.int nu), .val (.ref fa), .val (.ref fb), .val (.ref s1), .val (.ref s2), .val (.ref vo13), .val (.ref str15), .val (.ref vo16), .val (.ref vo17), .val (.ref b18), .val .null, .unset, .unset] [])) _
          refine XS.iload X19.here hx rfl (hb hby at_297) rfl ?_
          show Steps p.tables e below (T19.setTop (mkF m 299 #[.val (.int p0), .val (.int p1), .val (.int p2), .val (.int p3), .val (.int p4), .val (.int p5), .val (.int la), .val (.int c0), .val (.int c1), .val (.int lb), .val (.int b0), .val (.int b1), .val (.int nu), .val (.ref fa), .val (.ref fb), .val (.ref s1), .val (.ref s2), .val (.ref vo13), .val (.ref str15), .val (.ref vo16), .val (.ref vo17), .val (.ref b18), .val .null, .unset, .unset] [(.int la)])) _
          refine XS.iconst X19.here hx rfl (hb hby at_299) ?_
          show Steps p.tables e below (T19.setTop (mkF m 300 #[.val (.int p0), .val (.int p1), .val (.int p2), .val (.int p3), .val (.int p4), .val (.int p5), .val (.int la), .val (.int c0), .val (.int c1), .val (.int lb), .val (.int b0), .val (.int b1), .val (.int nu), .val (.ref fa), .val (.ref fb), .val (.ref s1), .val (.ref s2), .val (.ref vo13), .val (.ref str15), .val (.ref vo16), .val (.ref vo17), .val (.ref b18), .val .null, .unset, .unset] [(.int (1 : Int32)), (.int la)])) _
          by_cases hq : la < (1 : Int32)
          · simp only [if_pos hq] at k
            refine XS.icmpYes X19.here hx rfl (pc0 := 300) (pc' := 310) rfl (hb hby at_300) rfl (tlt hq).1 (by decide) (by decide) ?_
            show Steps p.tables e below (T19.setTop (mkF m 310 #[.val (.int p0), .val (.int p1), .val (.int p2), .val (.int p3), .val (.int p4), .val (.int p5), .val (.int la), .val (.int c0), .val (.int c1), .val (.int lb), .val (.int b0), .val (.int b1), .val (.int nu), .val (.ref fa), .val (.ref fb), .val (.ref s1), .val (.ref s2), .val (.ref vo13), .val (.ref str15), .val (.ref vo16), .val (.ref vo17), .val (.ref b18), .val .null, .unset, .unset] [])) _
            refine XS.iload X19.here hx rfl (hb hby at_310) rfl ?_
            show Steps p.tables e below (T19.setTop (mkF m 312 #[.val (.int p0), .val (.int p1), .val (.int p2), .val (.int p3), .val (.int p4), .val (.int p5), .val (.int la), .val (.int c0), .val (.int c1), .val (.int lb), .val (.int b0), .val (.int b1), .val (.int nu), .val (.ref fa), .val (.ref fb), .val (.ref s1), .val (.ref s2), .val (.ref vo13), .val (.ref str15), .val (.ref vo16), .val (.ref vo17), .val (.ref b18), .val .null, .unset, .unset] [(.int la)])) _
            refine XS.iconst X19.here hx rfl (hb hby at_312) ?_
            show Steps p.tables e below (T19.setTop (mkF m 313 #[.val (.int p0), .val (.int p1), .val (.int p2), .val (.int p3), .val (.int p4), .val (.int p5), .val (.int la), .val (.int c0), .val (.int c1), .val (.int lb), .val (.int b0), .val (.int b1), .val (.int nu), .val (.ref fa), .val (.ref fb), .val (.ref s1), .val (.ref s2), .val (.ref vo13), .val (.ref str15), .val (.ref vo16), .val (.ref vo17), .val (.ref b18), .val .null, .unset, .unset] [(.int (2 : Int32)), (.int la)])) _
            by_cases hq : la < (2 : Int32)
            · simp only [if_pos hq] at k
              refine XS.icmpYes X19.here hx rfl (pc0 := 313) (pc' := 323) rfl (hb hby at_313) rfl (tlt hq).1 (by decide) (by decide) ?_
              show Steps p.tables e below (T19.setTop (mkF m 323 #[.val (.int p0), .val (.int p1), .val (.int p2), .val (.int p3), .val (.int p4), .val (.int p5), .val (.int la), .val (.int c0), .val (.int c1), .val (.int lb), .val (.int b0), .val (.int b1), .val (.int nu), .val (.ref fa), .val (.ref fb), .val (.ref s1), .val (.ref s2), .val (.ref vo13), .val (.ref str15), .val (.ref vo16), .val (.ref vo17), .val (.ref b18), .val .null, .unset, .unset] [])) _
              refine XS.iconst X19.here hx rfl (hb hby at_323) ?_
              show Steps p.tables e below (T19.setTop (mkF m 324 #[.val (.int p0), .val (.int p1), .val (.int p2), .val (.int p3), .val (.int p4), .val (.int p5), .val (.int la), .val (.int c0), .val (.int c1), .val (.int lb), .val (.int b0), .val (.int b1), .val (.int nu), .val (.ref fa), .val (.ref fb), .val (.ref s1), .val (.ref s2), .val (.ref vo13), .val (.ref str15), .val (.ref vo16), .val (.ref vo17), .val (.ref b18), .val .null, .unset, .unset] [(.int (1 : Int32))])) _
              refine XS.goto X19.here hx rfl (pc0 := 324) (pc' := 328) rfl (hb hby at_324) (by decide) (by decide) ?_
              show Steps p.tables e below (T19.setTop (mkF m 328 #[.val (.int p0), .val (.int p1), .val (.int p2), .val (.int p3), .val (.int p4), .val (.int p5), .val (.int la), .val (.int c0), .val (.int c1), .val (.int lb), .val (.int b0), .val (.int b1), .val (.int nu), .val (.ref fa), .val (.ref fb), .val (.ref s1), .val (.ref s2), .val (.ref vo13), .val (.ref str15), .val (.ref vo16), .val (.ref vo17), .val (.ref b18), .val .null, .unset, .unset] [(.int (1 : Int32))])) _
              exact k
            · simp only [if_neg hq] at k
              refine XS.icmpNo X19.here hx rfl (hb hby at_313) rfl (flt hq).1 ?_
              show Steps p.tables e below (T19.setTop (mkF m 316 #[.val (.int p0), .val (.int p1), .val (.int p2), .val (.int p3), .val (.int p4), .val (.int p5), .val (.int la), .val (.int c0), .val (.int c1), .val (.int lb), .val (.int b0), .val (.int b1), .val (.int nu), .val (.ref fa), .val (.ref fb), .val (.ref s1), .val (.ref s2), .val (.ref vo13), .val (.ref str15), .val (.ref vo16), .val (.ref vo17), .val (.ref b18), .val .null, .unset, .unset] [])) _
              refine XS.iload X19.here hx rfl (hb hby at_316) rfl ?_
              show Steps p.tables e below (T19.setTop (mkF m 318 #[.val (.int p0), .val (.int p1), .val (.int p2), .val (.int p3), .val (.int p4), .val (.int p5), .val (.int la), .val (.int c0), .val (.int c1), .val (.int lb), .val (.int b0), .val (.int b1), .val (.int nu), .val (.ref fa), .val (.ref fb), .val (.ref s1), .val (.ref s2), .val (.ref vo13), .val (.ref str15), .val (.ref vo16), .val (.ref vo17), .val (.ref b18), .val .null, .unset, .unset] [(.int c1)])) _
              refine XS.iload X19.here hx rfl (hb hby at_318) rfl ?_
              show Steps p.tables e below (T19.setTop (mkF m 320 #[.val (.int p0), .val (.int p1), .val (.int p2), .val (.int p3), .val (.int p4), .val (.int p5), .val (.int la), .val (.int c0), .val (.int c1), .val (.int lb), .val (.int b0), .val (.int b1), .val (.int nu), .val (.ref fa), .val (.ref fb), .val (.ref s1), .val (.ref s2), .val (.ref vo13), .val (.ref str15), .val (.ref vo16), .val (.ref vo17), .val (.ref b18), .val .null, .unset, .unset] [(.int b1), (.int c1)])) _
              by_cases hq : c1 = b1
              · simp only [if_pos hq] at k
                refine XS.icmpNo X19.here hx rfl (hb hby at_320) rfl (teq hq).2 ?_
                show Steps p.tables e below (T19.setTop (mkF m 323 #[.val (.int p0), .val (.int p1), .val (.int p2), .val (.int p3), .val (.int p4), .val (.int p5), .val (.int la), .val (.int c0), .val (.int c1), .val (.int lb), .val (.int b0), .val (.int b1), .val (.int nu), .val (.ref fa), .val (.ref fb), .val (.ref s1), .val (.ref s2), .val (.ref vo13), .val (.ref str15), .val (.ref vo16), .val (.ref vo17), .val (.ref b18), .val .null, .unset, .unset] [])) _
                refine XS.iconst X19.here hx rfl (hb hby at_323) ?_
                show Steps p.tables e below (T19.setTop (mkF m 324 #[.val (.int p0), .val (.int p1), .val (.int p2), .val (.int p3), .val (.int p4), .val (.int p5), .val (.int la), .val (.int c0), .val (.int c1), .val (.int lb), .val (.int b0), .val (.int b1), .val (.int nu), .val (.ref fa), .val (.ref fb), .val (.ref s1), .val (.ref s2), .val (.ref vo13), .val (.ref str15), .val (.ref vo16), .val (.ref vo17), .val (.ref b18), .val .null, .unset, .unset] [(.int (1 : Int32))])) _
                refine XS.goto X19.here hx rfl (pc0 := 324) (pc' := 328) rfl (hb hby at_324) (by decide) (by decide) ?_
                show Steps p.tables e below (T19.setTop (mkF m 328 #[.val (.int p0), .val (.int p1), .val (.int p2), .val (.int p3), .val (.int p4), .val (.int p5), .val (.int la), .val (.int c0), .val (.int c1), .val (.int lb), .val (.int b0), .val (.int b1), .val (.int nu), .val (.ref fa), .val (.ref fb), .val (.ref s1), .val (.ref s2), .val (.ref vo13), .val (.ref str15), .val (.ref vo16), .val (.ref vo17), .val (.ref b18), .val .null, .unset, .unset] [(.int (1 : Int32))])) _
                exact k
              · simp only [if_neg hq] at k
                refine XS.icmpYes X19.here hx rfl (pc0 := 320) (pc' := 327) rfl (hb hby at_320) rfl (feq hq).2 (by decide) (by decide) ?_
                show Steps p.tables e below (T19.setTop (mkF m 327 #[.val (.int p0), .val (.int p1), .val (.int p2), .val (.int p3), .val (.int p4), .val (.int p5), .val (.int la), .val (.int c0), .val (.int c1), .val (.int lb), .val (.int b0), .val (.int b1), .val (.int nu), .val (.ref fa), .val (.ref fb), .val (.ref s1), .val (.ref s2), .val (.ref vo13), .val (.ref str15), .val (.ref vo16), .val (.ref vo17), .val (.ref b18), .val .null, .unset, .unset] [])) _
                refine XS.iconst X19.here hx rfl (hb hby at_327) ?_
                show Steps p.tables e below (T19.setTop (mkF m 328 #[.val (.int p0), .val (.int p1), .val (.int p2), .val (.int p3), .val (.int p4), .val (.int p5), .val (.int la), .val (.int c0), .val (.int c1), .val (.int lb), .val (.int b0), .val (.int b1), .val (.int nu), .val (.ref fa), .val (.ref fb), .val (.ref s1), .val (.ref s2), .val (.ref vo13), .val (.ref str15), .val (.ref vo16), .val (.ref vo17), .val (.ref b18), .val .null, .unset, .unset] [(.int (0 : Int32))])) _
                exact k
          · simp only [if_neg hq] at k
            refine XS.icmpNo X19.here hx rfl (hb hby at_300) rfl (flt hq).1 ?_
            show Steps p.tables e below (T19.setTop (mkF m 303 #[.val (.int p0), .val (.int p1), .val (.int p2), .val (.int p3), .val (.int p4), .val (.int p5), .val (.int la), .val (.int c0), .val (.int c1), .val (.int lb), .val (.int b0), .val (.int b1), .val (.int nu), .val (.ref fa), .val (.ref fb), .val (.ref s1), .val (.ref s2), .val (.ref vo13), .val (.ref str15), .val (.ref vo16), .val (.ref vo17), .val (.ref b18), .val .null, .unset, .unset] [])) _
            refine XS.iload X19.here hx rfl (hb hby at_303) rfl ?_
            show Steps p.tables e below (T19.setTop (mkF m 305 #[.val (.int p0), .val (.int p1), .val (.int p2), .val (.int p3), .val (.int p4), .val (.int p5), .val (.int la), .val (.int c0), .val (.int c1), .val (.int lb), .val (.int b0), .val (.int b1), .val (.int nu), .val (.ref fa), .val (.ref fb), .val (.ref s1), .val (.ref s2), .val (.ref vo13), .val (.ref str15), .val (.ref vo16), .val (.ref vo17), .val (.ref b18), .val .null, .unset, .unset] [(.int c0)])) _
            refine XS.iload X19.here hx rfl (hb hby at_305) rfl ?_
            show Steps p.tables e below (T19.setTop (mkF m 307 #[.val (.int p0), .val (.int p1), .val (.int p2), .val (.int p3), .val (.int p4), .val (.int p5), .val (.int la), .val (.int c0), .val (.int c1), .val (.int lb), .val (.int b0), .val (.int b1), .val (.int nu), .val (.ref fa), .val (.ref fb), .val (.ref s1), .val (.ref s2), .val (.ref vo13), .val (.ref str15), .val (.ref vo16), .val (.ref vo17), .val (.ref b18), .val .null, .unset, .unset] [(.int b0), (.int c0)])) _
            by_cases hq : c0 = b0
            · simp only [if_pos hq] at k
              refine XS.icmpNo X19.here hx rfl (hb hby at_307) rfl (teq hq).2 ?_
              show Steps p.tables e below (T19.setTop (mkF m 310 #[.val (.int p0), .val (.int p1), .val (.int p2), .val (.int p3), .val (.int p4), .val (.int p5), .val (.int la), .val (.int c0), .val (.int c1), .val (.int lb), .val (.int b0), .val (.int b1), .val (.int nu), .val (.ref fa), .val (.ref fb), .val (.ref s1), .val (.ref s2), .val (.ref vo13), .val (.ref str15), .val (.ref vo16), .val (.ref vo17), .val (.ref b18), .val .null, .unset, .unset] [])) _
              refine XS.iload X19.here hx rfl (hb hby at_310) rfl ?_
              show Steps p.tables e below (T19.setTop (mkF m 312 #[.val (.int p0), .val (.int p1), .val (.int p2), .val (.int p3), .val (.int p4), .val (.int p5), .val (.int la), .val (.int c0), .val (.int c1), .val (.int lb), .val (.int b0), .val (.int b1), .val (.int nu), .val (.ref fa), .val (.ref fb), .val (.ref s1), .val (.ref s2), .val (.ref vo13), .val (.ref str15), .val (.ref vo16), .val (.ref vo17), .val (.ref b18), .val .null, .unset, .unset] [(.int la)])) _
              refine XS.iconst X19.here hx rfl (hb hby at_312) ?_
              show Steps p.tables e below (T19.setTop (mkF m 313 #[.val (.int p0), .val (.int p1), .val (.int p2), .val (.int p3), .val (.int p4), .val (.int p5), .val (.int la), .val (.int c0), .val (.int c1), .val (.int lb), .val (.int b0), .val (.int b1), .val (.int nu), .val (.ref fa), .val (.ref fb), .val (.ref s1), .val (.ref s2), .val (.ref vo13), .val (.ref str15), .val (.ref vo16), .val (.ref vo17), .val (.ref b18), .val .null, .unset, .unset] [(.int (2 : Int32)), (.int la)])) _
              by_cases hq : la < (2 : Int32)
              · simp only [if_pos hq] at k
                refine XS.icmpYes X19.here hx rfl (pc0 := 313) (pc' := 323) rfl (hb hby at_313) rfl (tlt hq).1 (by decide) (by decide) ?_
                show Steps p.tables e below (T19.setTop (mkF m 323 #[.val (.int p0), .val (.int p1), .val (.int p2), .val (.int p3), .val (.int p4), .val (.int p5), .val (.int la), .val (.int c0), .val (.int c1), .val (.int lb), .val (.int b0), .val (.int b1), .val (.int nu), .val (.ref fa), .val (.ref fb), .val (.ref s1), .val (.ref s2), .val (.ref vo13), .val (.ref str15), .val (.ref vo16), .val (.ref vo17), .val (.ref b18), .val .null, .unset, .unset] [])) _
                refine XS.iconst X19.here hx rfl (hb hby at_323) ?_
                show Steps p.tables e below (T19.setTop (mkF m 324 #[.val (.int p0), .val (.int p1), .val (.int p2), .val (.int p3), .val (.int p4), .val (.int p5), .val (.int la), .val (.int c0), .val (.int c1), .val (.int lb), .val (.int b0), .val (.int b1), .val (.int nu), .val (.ref fa), .val (.ref fb), .val (.ref s1), .val (.ref s2), .val (.ref vo13), .val (.ref str15), .val (.ref vo16), .val (.ref vo17), .val (.ref b18), .val .null, .unset, .unset] [(.int (1 : Int32))])) _
                refine XS.goto X19.here hx rfl (pc0 := 324) (pc' := 328) rfl (hb hby at_324) (by decide) (by decide) ?_
                show Steps p.tables e below (T19.setTop (mkF m 328 #[.val (.int p0), .val (.int p1), .val (.int p2), .val (.int p3), .val (.int p4), .val (.int p5), .val (.int la), .val (.int c0), .val (.int c1), .val (.int lb), .val (.int b0), .val (.int b1), .val (.int nu), .val (.ref fa), .val (.ref fb), .val (.ref s1), .val (.ref s2), .val (.ref vo13), .val (.ref str15), .val (.ref vo16), .val (.ref vo17), .val (.ref b18), .val .null, .unset, .unset] [(.int (1 : Int32))])) _
                exact k
              · simp only [if_neg hq] at k
                refine XS.icmpNo X19.here hx rfl (hb hby at_313) rfl (flt hq).1 ?_
                show Steps p.tables e below (T19.setTop (mkF m 316 #[.val (.int p0), .val (.int p1), .val (.int p2), .val (.int p3), .val (.int p4), .val (.int p5), .val (.int la), .val (.int c0), .val (.int c1), .val (.int lb), .val (.int b0), .val (.int b1), .val (.int nu), .val (.ref fa), .val (.ref fb), .val (.ref s1), .val (.ref s2), .val (.ref vo13), .val (.ref str15), .val (.ref vo16), .val (.ref vo17), .val (.ref b18), .val .null, .unset, .unset] [])) _
                refine XS.iload X19.here hx rfl (hb hby at_316) rfl ?_
                show Steps p.tables e below (T19.setTop (mkF m 318 #[.val (.int p0), .val (.int p1), .val (.int p2), .val (.int p3), .val (.int p4), .val (.int p5), .val (.int la), .val (.int c0), .val (.int c1), .val (.int lb), .val (.int b0), .val (.int b1), .val (.int nu), .val (.ref fa), .val (.ref fb), .val (.ref s1), .val (.ref s2), .val (.ref vo13), .val (.ref str15), .val (.ref vo16), .val (.ref vo17), .val (.ref b18), .val .null, .unset, .unset] [(.int c1)])) _
                refine XS.iload X19.here hx rfl (hb hby at_318) rfl ?_
                show Steps p.tables e below (T19.setTop (mkF m 320 #[.val (.int p0), .val (.int p1), .val (.int p2), .val (.int p3), .val (.int p4), .val (.int p5), .val (.int la), .val (.int c0), .val (.int c1), .val (.int lb), .val (.int b0), .val (.int b1), .val (.int nu), .val (.ref fa), .val (.ref fb), .val (.ref s1), .val (.ref s2), .val (.ref vo13), .val (.ref str15), .val (.ref vo16), .val (.ref vo17), .val (.ref b18), .val .null, .unset, .unset] [(.int b1), (.int c1)])) _
                by_cases hq : c1 = b1
                · simp only [if_pos hq] at k
                  refine XS.icmpNo X19.here hx rfl (hb hby at_320) rfl (teq hq).2 ?_
                  show Steps p.tables e below (T19.setTop (mkF m 323 #[.val (.int p0), .val (.int p1), .val (.int p2), .val (.int p3), .val (.int p4), .val (.int p5), .val (.int la), .val (.int c0), .val (.int c1), .val (.int lb), .val (.int b0), .val (.int b1), .val (.int nu), .val (.ref fa), .val (.ref fb), .val (.ref s1), .val (.ref s2), .val (.ref vo13), .val (.ref str15), .val (.ref vo16), .val (.ref vo17), .val (.ref b18), .val .null, .unset, .unset] [])) _
                  refine XS.iconst X19.here hx rfl (hb hby at_323) ?_
                  show Steps p.tables e below (T19.setTop (mkF m 324 #[.val (.int p0), .val (.int p1), .val (.int p2), .val (.int p3), .val (.int p4), .val (.int p5), .val (.int la), .val (.int c0), .val (.int c1), .val (.int lb), .val (.int b0), .val (.int b1), .val (.int nu), .val (.ref fa), .val (.ref fb), .val (.ref s1), .val (.ref s2), .val (.ref vo13), .val (.ref str15), .val (.ref vo16), .val (.ref vo17), .val (.ref b18), .val .null, .unset, .unset] [(.int (1 : Int32))])) _
                  refine XS.goto X19.here hx rfl (pc0 := 324) (pc' := 328) rfl (hb hby at_324) (by decide) (by decide) ?_
                  show Steps p.tables e below (T19.setTop (mkF m 328 #[.val (.int p0), .val (.int p1), .val (.int p2), .val (.int p3), .val (.int p4), .val (.int p5), .val (.int la), .val (.int c0), .val (.int c1), .val (.int lb), .val (.int b0), .val (.int b1), .val (.int nu), .val (.ref fa), .val (.ref fb), .val (.ref s1), .val (.ref s2), .val (.ref vo13), .val (.ref str15), .val (.ref vo16), .val (.ref vo17), .val (.ref b18), .val .null, .unset, .unset] [(.int (1 : Int32))])) _
                  exact k
                · simp only [if_neg hq] at k
                  refine XS.icmpYes X19.here hx rfl (pc0 := 320) (pc' := 327) rfl (hb hby at_320) rfl (feq hq).2 (by decide) (by decide) ?_
                  show Steps p.tables e below (T19.setTop (mkF m 327 #[.val (.int p0), .val (.int p1), .val (.int p2), .val (.int p3), .val (.int p4), .val (.int p5), .val (.int la), .val (.int c0), .val (.int c1), .val (.int lb), .val (.int b0), .val (.int b1), .val (.int nu), .val (.ref fa), .val (.ref fb), .val (.ref s1), .val (.ref s2), .val (.ref vo13), .val (.ref str15), .val (.ref vo16), .val (.ref vo17), .val (.ref b18), .val .null, .unset, .unset] [])) _
                  refine XS.iconst X19.here hx rfl (hb hby at_327) ?_
                  show Steps p.tables e below (T19.setTop (mkF m 328 #[.val (.int p0), .val (.int p1), .val (.int p2), .val (.int p3), .val (.int p4), .val (.int p5), .val (.int la), .val (.int c0), .val (.int c1), .val (.int lb), .val (.int b0), .val (.int b1), .val (.int nu), .val (.ref fa), .val (.ref fb), .val (.ref s1), .val (.ref s2), .val (.ref vo13), .val (.ref str15), .val (.ref vo16), .val (.ref vo17), .val (.ref b18), .val .null, .unset, .unset] [(.int (0 : Int32))])) _
                  exact k
            · simp only [if_neg hq] at k
              refine XS.icmpYes X19.here hx rfl (pc0 := 307) (pc' := 327) rfl (hb hby at_307) rfl (feq hq).2 (by decide) (by decide) ?_
              show Steps p.tables e below (T19.setTop (mkF m 327 #[.val (.int p0), .val (.int p1), .val (.int p2), .val (.int p3), .val (.int p4), .val (.int p5), .val (.int la), .val (.int c0), .val (.int c1), .val (.int lb), .val (.int b0), .val (.int b1), .val (.int nu), .val (.ref fa), .val (.ref fb), .val (.ref s1), .val (.ref s2), .val (.ref vo13), .val (.ref str15), .val (.ref vo16), .val (.ref vo17), .val (.ref b18), .val .null, .unset, .unset] [])) _
              refine XS.iconst X19.here hx rfl (hb hby at_327) ?_
              show Steps p.tables e below (T19.setTop (mkF m 328 #[.val (.int p0), .val (.int p1), .val (.int p2), .val (.int p3), .val (.int p4), .val (.int p5), .val (.int la), .val (.int c0), .val (.int c1), .val (.int lb), .val (.int b0), .val (.int b1), .val (.int nu), .val (.ref fa), .val (.ref fb), .val (.ref s1), .val (.ref s2), .val (.ref vo13), .val (.ref str15), .val (.ref vo16), .val (.ref vo17), .val (.ref b18), .val .null, .unset, .unset] [(.int (0 : Int32))])) _
              exact k
        · simp only [if_neg hq] at k
          refine XS.icmpYes X19.here hx rfl (pc0 := 294) (pc' := 327) rfl (hb hby at_294) rfl (feq hq).2 (by decide) (by decide) ?_
          show Steps p.tables e below (T19.setTop (mkF m 327 #[.val (.int p0), .val (.int p1), .val (.int p2), .val (.int p3), .val (.int p4), .val (.int p5), .val (.int la), .val (.int c0), .val (.int c1), .val (.int lb), .val (.int b0), .val (.int b1), .val (.int nu), .val (.ref fa), .val (.ref fb), .val (.ref s1), .val (.ref s2), .val (.ref vo13), .val (.ref str15), .val (.ref vo16), .val (.ref vo17), .val (.ref b18), .val .null, .unset, .unset] [])) _
          refine XS.iconst X19.here hx rfl (hb hby at_327) ?_
          show Steps p.tables e below (T19.setTop (mkF m 328 #[.val (.int p0), .val (.int p1), .val (.int p2), .val (.int p3), .val (.int p4), .val (.int p5), .val (.int la), .val (.int c0), .val (.int c1), .val (.int lb), .val (.int b0), .val (.int b1), .val (.int nu), .val (.ref fa), .val (.ref fb), .val (.ref s1), .val (.ref s2), .val (.ref vo13), .val (.ref str15), .val (.ref vo16), .val (.ref vo17), .val (.ref b18), .val .null, .unset, .unset] [(.int (0 : Int32))])) _
          exact k
      refine Goes.to (T' := T19) (mkF m 328 #[.val (.int p0), .val (.int p1), .val (.int p2), .val (.int p3), .val (.int p4), .val (.int p5), .val (.int la), .val (.int c0), .val (.int c1), .val (.int lb), .val (.int b0), .val (.int b1), .val (.int nu), .val (.ref fa), .val (.ref fb), .val (.ref s1), .val (.ref s2), .val (.ref vo13), .val (.ref str15), .val (.ref vo16), .val (.ref vo17), .val (.ref b18), .val .null, .unset, .unset] [(.int (if la = lb then (if la < (1 : Int32) then (if la < (2 : Int32) then (1 : Int32) else (if c1 = b1 then (1 : Int32) else (0 : Int32))) else (if c0 = b0 then (if la < (2 : Int32) then (1 : Int32) else (if c1 = b1 then (1 : Int32) else (0 : Int32))) else (0 : Int32))) else (0 : Int32)))]) D294_36 ?_
      obtain ⟨sty, sty_eq⟩ : ∃ z, z = (if la = lb then (if la < (1 : Int32) then (if la < (2 : Int32) then (1 : Int32) else (if c1 = b1 then (1 : Int32) else (0 : Int32))) else (if c0 = b0 then (if la < (2 : Int32) then (1 : Int32) else (if c1 = b1 then (1 : Int32) else (0 : Int32))) else (0 : Int32))) else (0 : Int32)) := ⟨_, rfl⟩
      rw [← sty_eq]
      refine Goes.to (T' := T19) (mkF m 330 #[.val (.int p0), .val (.int p1), .val (.int p2), .val (.int p3), .val (.int p4), .val (.int p5), .val (.int la), .val (.int c0), .val (.int c1), .val (.int lb), .val (.int b0), .val (.int b1), .val (.int nu), .val (.ref fa), .val (.ref fb), .val (.ref s1), .val (.ref s2), .val (.ref vo13), .val (.ref str15), .val (.ref vo16), .val (.ref vo17), .val (.ref b18), .val .null, .val (.int sty), .unset] []) (fun t k => XS.istore X19.here hx rfl (hb hby at_328) rfl (l' := #[.val (.int p0), .val (.int p1), .val (.int p2), .val (.int p3), .val (.int p4), .val (.int p5), .val (.int la), .val (.int c0), .val (.int c1), .val (.int lb), .val (.int b0), .val (.int b1), .val (.int nu), .val (.ref fa), .val (.ref fb), .val (.ref s1), .val (.ref s2), .val (.ref vo13), .val (.ref str15), .val (.ref vo16), .val (.ref vo17), .val (.ref b18), .val .null, .val (.int sty), .unset]) rfl k) ?_
      refine Goes.to (T' := T19) (mkF m 332 #[.val (.int p0), .val (.int p1), .val (.int p2), .val (.int p3), .val (.int p4), .val (.int p5), .val (.int la), .val (.int c0), .val (.int c1), .val (.int lb), .val (.int b0), .val (.int b1), .val (.int nu), .val (.ref fa), .val (.ref fb), .val (.ref s1), .val (.ref s2), .val (.ref vo13), .val (.ref str15), .val (.ref vo16), .val (.ref vo17), .val (.ref b18), .val .null, .val (.int sty), .unset] [(.int nu)]) (fun t k => XS.iload X19.here hx rfl (hb hby at_330) rfl k) ?_
      refine Goes.to (T' := T19) (mkF m 351 #[.val (.int p0), .val (.int p1), .val (.int p2), .val (.int p3), .val (.int p4), .val (.int p5), .val (.int la), .val (.int c0), .val (.int c1), .val (.int lb), .val (.int b0), .val (.int b1), .val (.int nu), .val (.ref fa), .val (.ref fb), .val (.ref s1), .val (.ref s2), .val (.ref vo13), .val (.ref str15), .val (.ref vo16), .val (.ref vo17), .val (.ref b18), .val .null, .val (.int sty), .unset] []) (fun t k => XS.ifYes X19.here hx rfl (pc0 := 332) (pc' := 351) rfl (hb hby at_332) rfl ((if0 _ _).trans (feq (hc221_20 : ¬ (nu = (0 : Int32)))).2) (by decide) (by decide) k) ?_
      refine Goes.to (T' := T19) (mkF m 352 #[.val (.int p0), .val (.int p1), .val (.int p2), .val (.int p3), .val (.int p4), .val (.int p5), .val (.int la), .val (.int c0), .val (.int c1), .val (.int lb), .val (.int b0), .val (.int b1), .val (.int nu), .val (.ref fa), .val (.ref fb), .val (.ref s1), .val (.ref s2), .val (.ref vo13), .val (.ref str15), .val (.ref vo16), .val (.ref vo17), .val (.ref b18), .val .null, .val (.int sty), .unset] [(.int (0 : Int32))]) (fun t k => XS.iconst X19.here hx rfl (hb hby at_351) k) ?_
      refine Goes.to (T' := T19) (mkF m 354 #[.val (.int p0), .val (.int p1), .val (.int p2), .val (.int p3), .val (.int p4), .val (.int p5), .val (.int la), .val (.int c0), .val (.int c1), .val (.int lb), .val (.int b0), .val (.int b1), .val (.int nu), .val (.ref fa), .val (.ref fb), .val (.ref s1), .val (.ref s2), .val (.ref vo13), .val (.ref str15), .val (.ref vo16), .val (.ref vo17), .val (.ref b18), .val .null, .val (.int sty), .val (.int (0 : Int32))] []) (fun t k => XS.istore X19.here hx rfl (hb hby at_352) rfl (l' := #[.val (.int p0), .val (.int p1), .val (.int p2), .val (.int p3), .val (.int p4), .val (.int p5), .val (.int la), .val (.int c0), .val (.int c1), .val (.int lb), .val (.int b0), .val (.int b1), .val (.int nu), .val (.ref fa), .val (.ref fb), .val (.ref s1), .val (.ref s2), .val (.ref vo13), .val (.ref str15), .val (.ref vo16), .val (.ref vo17), .val (.ref b18), .val .null, .val (.int sty), .val (.int (0 : Int32))]) rfl k) ?_
      refine Goes.to (T' := T19) (mkF m 356 #[.val (.int p0), .val (.int p1), .val (.int p2), .val (.int p3), .val (.int p4), .val (.int p5), .val (.int la), .val (.int c0), .val (.int c1), .val (.int lb), .val (.int b0), .val (.int b1), .val (.int nu), .val (.ref fa), .val (.ref fb), .val (.ref s1), .val (.ref s2), .val (.ref vo13), .val (.ref str15), .val (.ref vo16), .val (.ref vo17), .val (.ref b18), .val .null, .val (.int sty), .val (.int (0 : Int32))] [(.ref b18)]) (fun t k => XS.aload X19.here hx rfl (hb hby at_354) rfl rfl k) ?_
      refine Goes.to (T' := T19) (mkF m 358 #[.val (.int p0), .val (.int p1), .val (.int p2), .val (.int p3), .val (.int p4), .val (.int p5), .val (.int la), .val (.int c0), .val (.int c1), .val (.int lb), .val (.int b0), .val (.int b1), .val (.int nu), .val (.ref fa), .val (.ref fb), .val (.ref s1), .val (.ref s2), .val (.ref vo13), .val (.ref str15), .val (.ref vo16), .val (.ref vo17), .val (.ref b18), .val .null, .val (.int sty), .val (.int (0 : Int32))] [.null, (.ref b18)]) (fun t k => XS.aload X19.here hx rfl (hb hby at_356) rfl rfl k) ?_
      obtain ⟨cq38, kq38, q38a, q38b, q38c⟩ := isOf hZ rfl E_b18
      obtain ⟨_, _, ⟨T38, L38, k38, n38⟩, -, X38, ⟨Lc38, hQ38, l38, y38, z38⟩, st38⟩ := X19.virtualBack hx (y := (⟨"com/example/forest_in_rows/forestinrows/Installation$OwnColumnDefinition", "standsAs", "(Lcom/example/forest_in_rows/forestinrows/CatalogColumn;)Z"⟩ : MethodName)) (z := (⟨"com/example/forest_in_rows/forestinrows/Installation$OwnColumnDefinition", "standsAs", "(Lcom/example/forest_in_rows/forestinrows/CatalogColumn;)Z"⟩ : MethodName)) hown (mvT hZ (hw _ (List.mem_of_getElem? (i := 62) rfl))) (mvT hZ (hw _ (List.mem_of_getElem? (i := 63) rfl))) (notFace_of_selects (args := #[]) (mvT hZ (hw _ (List.mem_of_getElem? (i := 65) rfl)))) (mvT hZ (hw _ (List.mem_of_getElem? (i := 65) rfl))) (mvT hZ (hw _ (List.mem_of_getElem? (i := 64) rfl))) (by decide) (backOf (W := 0) (rm_saN l Z a0 hw [] b18 T19.heap n0 O) hZ (hw _ (List.mem_of_getElem? (i := 66) rfl)) (hw _ (List.mem_of_getElem? (i := 44) rfl)) (by decide) (by decide)) q38a q38c (g := (mkF m 358 #[.val (.int p0), .val (.int p1), .val (.int p2), .val (.int p3), .val (.int p4), .val (.int p5), .val (.int la), .val (.int c0), .val (.int c1), .val (.int lb), .val (.int b0), .val (.int b1), .val (.int nu), .val (.ref fa), .val (.ref fb), .val (.ref s1), .val (.ref s2), .val (.ref vo13), .val (.ref str15), .val (.ref vo16), .val (.ref vo17), .val (.ref b18), .val .null, .val (.int sty), .val (.int (0 : Int32))] [.null, (.ref b18)])) rfl (by rw [hml]; rfl) (Steps.refl _) (argsL := [.null]) (rest := []) (lenOf pd_13 rfl) rfl (by show 2 * 0 + _ ≤ _; exact Nat.le_of_eq rfl) (hb hby at_358) (fun _ _ => ⟨rfl, rfl, (by decide : 17 + 0 ≤ _), (by decide : 51 + 0 ≤ _)⟩)
      dsimp only [Pt.U, Pt.locs, Pt.cells, Pt.slots] at X38 l38 y38 z38 st38 hQ38
      subst l38 y38 z38
      obtain ⟨rfl, N38, hs38⟩ := hQ38
      have N38' := Fr.app N19' N38
      refine Goes.to (T' := T38) (mkF m 361 #[.val (.int p0), .val (.int p1), .val (.int p2), .val (.int p3), .val (.int p4), .val (.int p5), .val (.int la), .val (.int c0), .val (.int c1), .val (.int lb), .val (.int b0), .val (.int b1), .val (.int nu), .val (.ref fa), .val (.ref fb), .val (.ref s1), .val (.ref s2), .val (.ref vo13), .val (.ref str15), .val (.ref vo16), .val (.ref vo17), .val (.ref b18), .val .null, .val (.int sty), .val (.int (0 : Int32))] [(.int (0 : Int32))]) (fun t k => st38.trans k) ?_
      refine Goes.to (T' := T38) (mkF m 363 #[.val (.int p0), .val (.int p1), .val (.int p2), .val (.int p3), .val (.int p4), .val (.int p5), .val (.int la), .val (.int c0), .val (.int c1), .val (.int lb), .val (.int b0), .val (.int b1), .val (.int nu), .val (.ref fa), .val (.ref fb), .val (.ref s1), .val (.ref s2), .val (.ref vo13), .val (.ref str15), .val (.ref vo16), .val (.ref vo17), .val (.ref b18), .val .null, .val (.int sty), .val (.int (0 : Int32))] [(.int (0 : Int32)), (.int (0 : Int32))]) (fun t k => XS.iload X38.here hx rfl (hb hby at_361) rfl k) ?_
      refine Goes.to (T' := T38) (mkF m 366 #[.val (.int p0), .val (.int p1), .val (.int p2), .val (.int p3), .val (.int p4), .val (.int p5), .val (.int la), .val (.int c0), .val (.int c1), .val (.int lb), .val (.int b0), .val (.int b1), .val (.int nu), .val (.ref fa), .val (.ref fb), .val (.ref s1), .val (.ref s2), .val (.ref vo13), .val (.ref str15), .val (.ref vo16), .val (.ref vo17), .val (.ref b18), .val .null, .val (.int sty), .val (.int (0 : Int32))] []) (fun t k => XS.icmpNo X38.here hx rfl (hb hby at_363) rfl (teq (by rfl : (0 : Int32) = (0 : Int32))).2 k) ?_
      refine Goes.to (T' := T38) (mkF m 367 #[.val (.int p0), .val (.int p1), .val (.int p2), .val (.int p3), .val (.int p4), .val (.int p5), .val (.int la), .val (.int c0), .val (.int c1), .val (.int lb), .val (.int b0), .val (.int b1), .val (.int nu), .val (.ref fa), .val (.ref fb), .val (.ref s1), .val (.ref s2), .val (.ref vo13), .val (.ref str15), .val (.ref vo16), .val (.ref vo17), .val (.ref b18), .val .null, .val (.int sty), .val (.int (0 : Int32))] [(.int (1 : Int32))]) (fun t k => XS.iconst X38.here hx rfl (hb hby at_366) k) ?_
      refine Goes.to (T' := T38) (mkF m 371 #[.val (.int p0), .val (.int p1), .val (.int p2), .val (.int p3), .val (.int p4), .val (.int p5), .val (.int la), .val (.int c0), .val (.int c1), .val (.int lb), .val (.int b0), .val (.int b1), .val (.int nu), .val (.ref fa), .val (.ref fb), .val (.ref s1), .val (.ref s2), .val (.ref vo13), .val (.ref str15), .val (.ref vo16), .val (.ref vo17), .val (.ref b18), .val .null, .val (.int sty), .val (.int (0 : Int32))] [(.int (1 : Int32))]) (fun t k => XS.goto X38.here hx rfl (pc0 := 367) (pc' := 371) rfl (hb hby at_367) (by decide) (by decide) k) ?_
      refine Goes.retNW X38 hx Bd.notSynchronized hS0 (by rw [hs38]; exact hk0) (t := .boolean) Bd.returns (by simp) (hb hby at_371) (by decide) (by decide) ?_
      rw [hs38]
      exact ⟨rfl, N38'⟩
  · refine Goes.to (T' := T13) (mkF m 166 #[.val (.int p0), .val (.int p1), .val (.int p2), .val (.int p3), .val (.int p4), .val (.int p5), .val (.int la), .val (.int c0), .val (.int c1), .val (.int lb), .val (.int b0), .val (.int b1), .val (.int nu), .val (.ref fa), .val (.ref fb), .val (.ref s1), .val (.ref s2), .val (.ref vo13), .unset, .unset, .unset, .unset, .unset, .unset, .unset] []) (fun t k => XS.ifNo X13.here hx rfl (hb hby at_163) rfl ((if0 _ _).trans (feq hc163_14).1) k) ?_
    obtain ⟨str39, T39, h39, k39, sb39, kb39, X39, e39, E39, hS39, hk39, hZ39, hown39, E_str39, F_coder_str39, F_value_str39, V_sb39, lt_str39, lt_sb39, R39, -, hne39, st39⟩ := ldcCH X13 hx hZ hown (hw _ (List.mem_of_getElem? (i := 105) rfl)) (fun a ha => hw a (own_strs a ha)) rfl hS0 hk0 hEL (by decide) C.1 (vs := [(.int (32 : Int32)), (.int (78 : Int32)), (.int (79 : Int32)), (.int (84 : Int32)), (.int (32 : Int32)), (.int (78 : Int32)), (.int (85 : Int32)), (.int (76 : Int32)), (.int (76 : Int32))]) (z := 9) ⟨by decide, rfl⟩ (by decide) rfl (g := (mkF m 166 #[.val (.int p0), .val (.int p1), .val (.int p2), .val (.int p3), .val (.int p4), .val (.int p5), .val (.int la), .val (.int c0), .val (.int c1), .val (.int lb), .val (.int b0), .val (.int b1), .val (.int nu), .val (.ref fa), .val (.ref fb), .val (.ref s1), .val (.ref s2), .val (.ref vo13), .unset, .unset, .unset, .unset, .unset, .unset, .unset] [])) rfl (hb hby at_166) (n := 36) (by decide) (by decide) (by decide) (by decide)
    replace C := C.trans R39
    replace O := O.ext E39
    replace E_s1 := E_s1.ext E39
    replace F_v1 := F_v1.ext E39
    replace F_c1 := F_c1.ext E39
    replace V_t1 := V_t1.ext E39
    replace E_s2 := E_s2.ext E39
    replace F_v2 := F_v2.ext E39
    replace F_c2 := F_c2.ext E39
    replace V_t2 := V_t2.ext E39
    replace E_vo13 := E_vo13.ext E39
    replace hS0 := hS39
    replace hk0 := hk39
    replace hZ := hZ39
    replace hown := hown39
    refine Goes.to (T' := T39) (mkF m 168 #[.val (.int p0), .val (.int p1), .val (.int p2), .val (.int p3), .val (.int p4), .val (.int p5), .val (.int la), .val (.int c0), .val (.int c1), .val (.int lb), .val (.int b0), .val (.int b1), .val (.int nu), .val (.ref fa), .val (.ref fb), .val (.ref s1), .val (.ref s2), .val (.ref vo13), .unset, .unset, .unset, .unset, .unset, .unset, .unset] [(.ref str39)]) st39 ?_
    refine Goes.to (T' := T39) (mkF m 173 #[.val (.int p0), .val (.int p1), .val (.int p2), .val (.int p3), .val (.int p4), .val (.int p5), .val (.int la), .val (.int c0), .val (.int c1), .val (.int lb), .val (.int b0), .val (.int b1), .val (.int nu), .val (.ref fa), .val (.ref fb), .val (.ref s1), .val (.ref s2), .val (.ref vo13), .unset, .unset, .unset, .unset, .unset, .unset, .unset] [(.ref str39)]) (fun t k => XS.goto X39.here hx rfl (pc0 := 168) (pc' := 173) rfl (hb hby at_168) (by decide) (by decide) k) ?_
    refine Goes.to (T' := T39) (mkF m 175 #[.val (.int p0), .val (.int p1), .val (.int p2), .val (.int p3), .val (.int p4), .val (.int p5), .val (.int la), .val (.int c0), .val (.int c1), .val (.int lb), .val (.int b0), .val (.int b1), .val (.int nu), .val (.ref fa), .val (.ref fb), .val (.ref s1), .val (.ref s2), .val (.ref vo13), .val (.ref str39), .unset, .unset, .unset, .unset, .unset, .unset] []) (fun t k => XS.astore X39.here hx rfl (hb hby at_173) rfl rfl (l' := #[.val (.int p0), .val (.int p1), .val (.int p2), .val (.int p3), .val (.int p4), .val (.int p5), .val (.int la), .val (.int c0), .val (.int c1), .val (.int lb), .val (.int b0), .val (.int b1), .val (.int nu), .val (.ref fa), .val (.ref fb), .val (.ref s1), .val (.ref s2), .val (.ref vo13), .val (.ref str39), .unset, .unset, .unset, .unset, .unset, .unset]) rfl k) ?_
    refine Goes.to (T' := T39) (mkF m 177 #[.val (.int p0), .val (.int p1), .val (.int p2), .val (.int p3), .val (.int p4), .val (.int p5), .val (.int la), .val (.int c0), .val (.int c1), .val (.int lb), .val (.int b0), .val (.int b1), .val (.int nu), .val (.ref fa), .val (.ref fb), .val (.ref s1), .val (.ref s2), .val (.ref vo13), .val (.ref str39), .unset, .unset, .unset, .unset, .unset, .unset] [(.int p5)]) (fun t k => XS.iload X39.here hx rfl (hb hby at_175) rfl k) ?_
    refine Goes.to (T' := T39) (mkF m 180 #[.val (.int p0), .val (.int p1), .val (.int p2), .val (.int p3), .val (.int p4), .val (.int p5), .val (.int la), .val (.int c0), .val (.int c1), .val (.int lb), .val (.int b0), .val (.int b1), .val (.int nu), .val (.ref fa), .val (.ref fb), .val (.ref s1), .val (.ref s2), .val (.ref vo13), .val (.ref str39), .unset, .unset, .unset, .unset, .unset, .unset] [(.int (255 : Int32)), (.int p5)]) (fun t k => XS.sipush X39.here hx rfl (hb hby at_177) k) ?_
    refine Goes.to (T' := T39) (mkF m 181 #[.val (.int p0), .val (.int p1), .val (.int p2), .val (.int p3), .val (.int p4), .val (.int p5), .val (.int la), .val (.int c0), .val (.int c1), .val (.int lb), .val (.int b0), .val (.int b1), .val (.int nu), .val (.ref fa), .val (.ref fb), .val (.ref s1), .val (.ref s2), .val (.ref vo13), .val (.ref str39), .unset, .unset, .unset, .unset, .unset, .unset] [(.int (p5 &&& (255 : Int32)))]) (fun t k => XS.iand X39.here hx rfl (hb hby at_180) rfl k) ?_
    refine Goes.to (T' := T39) (mkF m 182 #[.val (.int p0), .val (.int p1), .val (.int p2), .val (.int p3), .val (.int p4), .val (.int p5), .val (.int la), .val (.int c0), .val (.int c1), .val (.int lb), .val (.int b0), .val (.int b1), .val (.int nu), .val (.ref fa), .val (.ref fb), .val (.ref s1), .val (.ref s2), .val (.ref vo13), .val (.ref str39), .unset, .unset, .unset, .unset, .unset, .unset] [(.int ((p5 &&& (255 : Int32)).toUInt32.toUInt16.toUInt32.toInt32))]) (fun t k => XS.i2c X39.here hx rfl (hb hby at_181) rfl k) ?_
    obtain ⟨_, _, ⟨T40, L40, k40, n40⟩, -, X40, ⟨Lc40, hQ40, l40, y40, z40⟩, st40⟩ := Jvm.LawKit.callS X39 hx (y := (⟨"java/lang/String", "valueOf", "(C)Ljava/lang/String;"⟩ : MethodName)) hown (mvT hZ (hw _ (List.mem_of_getElem? (i := 21) rfl))) (mvT hZ (hw _ (List.mem_of_getElem? (i := 22) rfl))) (mvT hZ (hw _ (List.mem_of_getElem? (i := 14) rfl))) (mvT hZ (hw _ (List.mem_of_getElem? (i := 23) rfl))) (by decide) (backOf (W := 0) (rm_vof l Z a0 hw [] ((p5 &&& (255 : Int32)).toUInt32.toUInt16.toUInt32.toInt32) cz h39 n0 O (own_chb _) S_CS hcz) hZ (hw _ (List.mem_of_getElem? (i := 23) rfl)) (hw _ (List.mem_of_getElem? (i := 14) rfl)) (by decide) (by decide)) (g := (mkF m 182 #[.val (.int p0), .val (.int p1), .val (.int p2), .val (.int p3), .val (.int p4), .val (.int p5), .val (.int la), .val (.int c0), .val (.int c1), .val (.int lb), .val (.int b0), .val (.int b1), .val (.int nu), .val (.ref fa), .val (.ref fb), .val (.ref s1), .val (.ref s2), .val (.ref vo13), .val (.ref str39), .unset, .unset, .unset, .unset, .unset, .unset] [(.int ((p5 &&& (255 : Int32)).toUInt32.toUInt16.toUInt32.toInt32))])) rfl (by rw [hml]; rfl) (argsL := [(.int ((p5 &&& (255 : Int32)).toUInt32.toUInt16.toUInt32.toInt32))]) (rest := []) (lenOf pd_3 rfl) rfl (by show 2 * 0 + _ ≤ _; exact Nat.le_of_eq rfl) (hb hby at_182) (fun _ _ => ⟨rfl, e39, (by decide : 12 + 2 ≤ _), (by decide : 73 + 5 ≤ _)⟩)
    dsimp only [Pt.U, Pt.locs, Pt.cells, Pt.slots] at X40 l40 y40 z40 st40 hQ40
    subst l40 y40 z40
    obtain ⟨N40, K40, vo40, -, -, -, -, rfl, E_vo40, -, -, -, -⟩ := hQ40
    have N40' := Fr.app N13' N40
    have C' := C.trans (CHr.keep K40 sf0 C.1)
    replace C := C'
    replace E_s1 := E_s1.keep K40
    replace F_v1 := F_v1.keep K40 nin0
    replace F_c1 := F_c1.keep K40 nin0
    replace V_t1 := V_t1.keep K40 nin0
    replace E_s2 := E_s2.keep K40
    replace F_v2 := F_v2.keep K40 nin0
    replace F_c2 := F_c2.keep K40 nin0
    replace V_t2 := V_t2.keep K40 nin0
    replace E_vo13 := E_vo13.keep K40
    replace E_str39 := E_str39.keep K40
    replace F_coder_str39 := F_coder_str39.keep K40 nin0
    replace F_value_str39 := F_value_str39.keep K40 nin0
    replace V_sb39 := V_sb39.keep K40 nin0
    replace O := O.keep K40 all0
    replace hk0 := Nat.le_trans hk0 K40.1
    refine Goes.to (T' := T40) (mkF m 185 #[.val (.int p0), .val (.int p1), .val (.int p2), .val (.int p3), .val (.int p4), .val (.int p5), .val (.int la), .val (.int c0), .val (.int c1), .val (.int lb), .val (.int b0), .val (.int b1), .val (.int nu), .val (.ref fa), .val (.ref fb), .val (.ref s1), .val (.ref s2), .val (.ref vo13), .val (.ref str39), .unset, .unset, .unset, .unset, .unset, .unset] [(.ref vo40)]) (fun t k => st40 t k) ?_
    refine Goes.to (T' := T40) (mkF m 187 #[.val (.int p0), .val (.int p1), .val (.int p2), .val (.int p3), .val (.int p4), .val (.int p5), .val (.int la), .val (.int c0), .val (.int c1), .val (.int lb), .val (.int b0), .val (.int b1), .val (.int nu), .val (.ref fa), .val (.ref fb), .val (.ref s1), .val (.ref s2), .val (.ref vo13), .val (.ref str39), .val (.ref vo40), .unset, .unset, .unset, .unset, .unset] []) (fun t k => XS.astore X40.here hx rfl (hb hby at_185) rfl rfl (l' := #[.val (.int p0), .val (.int p1), .val (.int p2), .val (.int p3), .val (.int p4), .val (.int p5), .val (.int la), .val (.int c0), .val (.int c1), .val (.int lb), .val (.int b0), .val (.int b1), .val (.int nu), .val (.ref fa), .val (.ref fb), .val (.ref s1), .val (.ref s2), .val (.ref vo13), .val (.ref str39), .val (.ref vo40), .unset, .unset, .unset, .unset, .unset]) rfl k) ?_
    refine Goes.to (T' := T40) (mkF m 189 #[.val (.int p0), .val (.int p1), .val (.int p2), .val (.int p3), .val (.int p4), .val (.int p5), .val (.int la), .val (.int c0), .val (.int c1), .val (.int lb), .val (.int b0), .val (.int b1), .val (.int nu), .val (.ref fa), .val (.ref fb), .val (.ref s1), .val (.ref s2), .val (.ref vo13), .val (.ref str39), .val (.ref vo40), .unset, .unset, .unset, .unset, .unset] [(.int p5)]) (fun t k => XS.iload X40.here hx rfl (hb hby at_187) rfl k) ?_
    refine Goes.to (T' := T40) (mkF m 191 #[.val (.int p0), .val (.int p1), .val (.int p2), .val (.int p3), .val (.int p4), .val (.int p5), .val (.int la), .val (.int c0), .val (.int c1), .val (.int lb), .val (.int b0), .val (.int b1), .val (.int nu), .val (.ref fa), .val (.ref fb), .val (.ref s1), .val (.ref s2), .val (.ref vo13), .val (.ref str39), .val (.ref vo40), .unset, .unset, .unset, .unset, .unset] [(.int (8 : Int32)), (.int p5)]) (fun t k => XS.bipush X40.here hx rfl (hb hby at_189) k) ?_
    refine Goes.to (T' := T40) (mkF m 192 #[.val (.int p0), .val (.int p1), .val (.int p2), .val (.int p3), .val (.int p4), .val (.int p5), .val (.int la), .val (.int c0), .val (.int c1), .val (.int lb), .val (.int b0), .val (.int b1), .val (.int nu), .val (.ref fa), .val (.ref fb), .val (.ref s1), .val (.ref s2), .val (.ref vo13), .val (.ref str39), .val (.ref vo40), .unset, .unset, .unset, .unset, .unset] [(.int ((p5.toUInt32 >>> ((8 : Int32) &&& 31).toUInt32).toInt32))]) (fun t k => XS.iushr X40.here hx rfl (hb hby at_191) rfl k) ?_
    refine Goes.to (T' := T40) (mkF m 195 #[.val (.int p0), .val (.int p1), .val (.int p2), .val (.int p3), .val (.int p4), .val (.int p5), .val (.int la), .val (.int c0), .val (.int c1), .val (.int lb), .val (.int b0), .val (.int b1), .val (.int nu), .val (.ref fa), .val (.ref fb), .val (.ref s1), .val (.ref s2), .val (.ref vo13), .val (.ref str39), .val (.ref vo40), .unset, .unset, .unset, .unset, .unset] [(.int (255 : Int32)), (.int ((p5.toUInt32 >>> ((8 : Int32) &&& 31).toUInt32).toInt32))]) (fun t k => XS.sipush X40.here hx rfl (hb hby at_192) k) ?_
    refine Goes.to (T' := T40) (mkF m 196 #[.val (.int p0), .val (.int p1), .val (.int p2), .val (.int p3), .val (.int p4), .val (.int p5), .val (.int la), .val (.int c0), .val (.int c1), .val (.int lb), .val (.int b0), .val (.int b1), .val (.int nu), .val (.ref fa), .val (.ref fb), .val (.ref s1), .val (.ref s2), .val (.ref vo13), .val (.ref str39), .val (.ref vo40), .unset, .unset, .unset, .unset, .unset] [(.int (((p5.toUInt32 >>> ((8 : Int32) &&& 31).toUInt32).toInt32) &&& (255 : Int32)))]) (fun t k => XS.iand X40.here hx rfl (hb hby at_195) rfl k) ?_
    refine Goes.to (T' := T40) (mkF m 197 #[.val (.int p0), .val (.int p1), .val (.int p2), .val (.int p3), .val (.int p4), .val (.int p5), .val (.int la), .val (.int c0), .val (.int c1), .val (.int lb), .val (.int b0), .val (.int b1), .val (.int nu), .val (.ref fa), .val (.ref fb), .val (.ref s1), .val (.ref s2), .val (.ref vo13), .val (.ref str39), .val (.ref vo40), .unset, .unset, .unset, .unset, .unset] [(.int ((((p5.toUInt32 >>> ((8 : Int32) &&& 31).toUInt32).toInt32) &&& (255 : Int32)).toUInt32.toUInt16.toUInt32.toInt32))]) (fun t k => XS.i2c X40.here hx rfl (hb hby at_196) rfl k) ?_
    obtain ⟨_, _, ⟨T41, L41, k41, n41⟩, -, X41, ⟨Lc41, hQ41, l41, y41, z41⟩, st41⟩ := Jvm.LawKit.callS X40 hx (y := (⟨"java/lang/String", "valueOf", "(C)Ljava/lang/String;"⟩ : MethodName)) hown (mvT hZ (hw _ (List.mem_of_getElem? (i := 21) rfl))) (mvT hZ (hw _ (List.mem_of_getElem? (i := 22) rfl))) (mvT hZ (hw _ (List.mem_of_getElem? (i := 14) rfl))) (mvT hZ (hw _ (List.mem_of_getElem? (i := 23) rfl))) (by decide) (backOf (W := 0) (rm_vof l Z a0 hw [] ((((p5.toUInt32 >>> ((8 : Int32) &&& 31).toUInt32).toInt32) &&& (255 : Int32)).toUInt32.toUInt16.toUInt32.toInt32) cz T40.heap n0 O (own_chb _) S_CS hcz) hZ (hw _ (List.mem_of_getElem? (i := 23) rfl)) (hw _ (List.mem_of_getElem? (i := 14) rfl)) (by decide) (by decide)) (g := (mkF m 197 #[.val (.int p0), .val (.int p1), .val (.int p2), .val (.int p3), .val (.int p4), .val (.int p5), .val (.int la), .val (.int c0), .val (.int c1), .val (.int lb), .val (.int b0), .val (.int b1), .val (.int nu), .val (.ref fa), .val (.ref fb), .val (.ref s1), .val (.ref s2), .val (.ref vo13), .val (.ref str39), .val (.ref vo40), .unset, .unset, .unset, .unset, .unset] [(.int ((((p5.toUInt32 >>> ((8 : Int32) &&& 31).toUInt32).toInt32) &&& (255 : Int32)).toUInt32.toUInt16.toUInt32.toInt32))])) rfl (by rw [hml]; rfl) (argsL := [(.int ((((p5.toUInt32 >>> ((8 : Int32) &&& 31).toUInt32).toInt32) &&& (255 : Int32)).toUInt32.toUInt16.toUInt32.toInt32))]) (rest := []) (lenOf pd_3 rfl) rfl (by show 2 * 0 + _ ≤ _; exact Nat.le_of_eq rfl) (hb hby at_197) (fun _ _ => ⟨rfl, rfl, (by decide : 14 + 2 ≤ _), (by decide : 78 + 5 ≤ _)⟩)
    dsimp only [Pt.U, Pt.locs, Pt.cells, Pt.slots] at X41 l41 y41 z41 st41 hQ41
    subst l41 y41 z41
    obtain ⟨N41, K41, vo41, -, -, -, -, rfl, E_vo41, -, -, -, -⟩ := hQ41
    have N41' := Fr.app N40' N41
    have C' := C.trans (CHr.keep K41 sf0 C.1)
    replace C := C'
    replace E_s1 := E_s1.keep K41
    replace F_v1 := F_v1.keep K41 nin0
    replace F_c1 := F_c1.keep K41 nin0
    replace V_t1 := V_t1.keep K41 nin0
    replace E_s2 := E_s2.keep K41
    replace F_v2 := F_v2.keep K41 nin0
    replace F_c2 := F_c2.keep K41 nin0
    replace V_t2 := V_t2.keep K41 nin0
    replace E_vo13 := E_vo13.keep K41
    replace E_str39 := E_str39.keep K41
    replace F_coder_str39 := F_coder_str39.keep K41 nin0
    replace F_value_str39 := F_value_str39.keep K41 nin0
    replace V_sb39 := V_sb39.keep K41 nin0
    replace E_vo40 := E_vo40.keep K41
    replace O := O.keep K41 all0
    replace hk0 := Nat.le_trans hk0 K41.1
    refine Goes.to (T' := T41) (mkF m 200 #[.val (.int p0), .val (.int p1), .val (.int p2), .val (.int p3), .val (.int p4), .val (.int p5), .val (.int la), .val (.int c0), .val (.int c1), .val (.int lb), .val (.int b0), .val (.int b1), .val (.int nu), .val (.ref fa), .val (.ref fb), .val (.ref s1), .val (.ref s2), .val (.ref vo13), .val (.ref str39), .val (.ref vo40), .unset, .unset, .unset, .unset, .unset] [(.ref vo41)]) (fun t k => st41 t k) ?_
    refine Goes.to (T' := T41) (mkF m 202 #[.val (.int p0), .val (.int p1), .val (.int p2), .val (.int p3), .val (.int p4), .val (.int p5), .val (.int la), .val (.int c0), .val (.int c1), .val (.int lb), .val (.int b0), .val (.int b1), .val (.int nu), .val (.ref fa), .val (.ref fb), .val (.ref s1), .val (.ref s2), .val (.ref vo13), .val (.ref str39), .val (.ref vo40), .val (.ref vo41), .unset, .unset, .unset, .unset] []) (fun t k => XS.astore X41.here hx rfl (hb hby at_200) rfl rfl (l' := #[.val (.int p0), .val (.int p1), .val (.int p2), .val (.int p3), .val (.int p4), .val (.int p5), .val (.int la), .val (.int c0), .val (.int c1), .val (.int lb), .val (.int b0), .val (.int b1), .val (.int nu), .val (.ref fa), .val (.ref fb), .val (.ref s1), .val (.ref s2), .val (.ref vo13), .val (.ref str39), .val (.ref vo40), .val (.ref vo41), .unset, .unset, .unset, .unset]) rfl k) ?_
    obtain ⟨T42, h42, X42, e42, E42, A42, D42, -, st42⟩ := newO X41 hx hZ hown (hw _ (List.mem_of_getElem? (i := 42) rfl)) (hw _ (List.mem_of_getElem? (i := 43) rfl)) (hw _ (List.mem_of_getElem? (i := 44) rfl)) rfl (g := (mkF m 202 #[.val (.int p0), .val (.int p1), .val (.int p2), .val (.int p3), .val (.int p4), .val (.int p5), .val (.int la), .val (.int c0), .val (.int c1), .val (.int lb), .val (.int b0), .val (.int b1), .val (.int nu), .val (.ref fa), .val (.ref fb), .val (.ref s1), .val (.ref s2), .val (.ref vo13), .val (.ref str39), .val (.ref vo40), .val (.ref vo41), .unset, .unset, .unset, .unset] [])) rfl (hb hby at_202) (by decide) (by decide)
    obtain ⟨b42, g42⟩ : ∃ z, z = T41.heap.size := ⟨_, rfl⟩
    rw [← g42] at A42 D42 st42
    have g_b42 : n0 ≤ b42 := Nat.le_trans (O.1 ▸ O.2.1) (Nat.le_of_eq g42.symm)
    have ne_s1_b42 : s1 ≠ b42 := Nat.ne_of_lt (Nat.lt_of_lt_of_le E_s1.lt (Nat.le_of_eq g42.symm))
    have ne_t1_b42 : t1 ≠ b42 := Nat.ne_of_lt (Nat.lt_of_lt_of_le V_t1.lt (Nat.le_of_eq g42.symm))
    have ne_s2_b42 : s2 ≠ b42 := Nat.ne_of_lt (Nat.lt_of_lt_of_le E_s2.lt (Nat.le_of_eq g42.symm))
    have ne_t2_b42 : t2 ≠ b42 := Nat.ne_of_lt (Nat.lt_of_lt_of_le V_t2.lt (Nat.le_of_eq g42.symm))
    have ne_vo13_b42 : vo13 ≠ b42 := Nat.ne_of_lt (Nat.lt_of_lt_of_le E_vo13.lt (Nat.le_of_eq g42.symm))
    have ne_str39_b42 : str39 ≠ b42 := Nat.ne_of_lt (Nat.lt_of_lt_of_le E_str39.lt (Nat.le_of_eq g42.symm))
    have ne_sb39_b42 : sb39 ≠ b42 := Nat.ne_of_lt (Nat.lt_of_lt_of_le V_sb39.lt (Nat.le_of_eq g42.symm))
    have ne_vo40_b42 : vo40 ≠ b42 := Nat.ne_of_lt (Nat.lt_of_lt_of_le E_vo40.lt (Nat.le_of_eq g42.symm))
    have ne_vo41_b42 : vo41 ≠ b42 := Nat.ne_of_lt (Nat.lt_of_lt_of_le E_vo41.lt (Nat.le_of_eq g42.symm))
    replace C := C.trans (CHr.ext E42 C.1)
    replace O := O.ext E42
    replace hk0 := Nat.le_trans hk0 E42.1
    replace E_s1 := E_s1.ext E42
    replace F_v1 := F_v1.ext E42
    replace F_c1 := F_c1.ext E42
    replace V_t1 := V_t1.ext E42
    replace E_s2 := E_s2.ext E42
    replace F_v2 := F_v2.ext E42
    replace F_c2 := F_c2.ext E42
    replace V_t2 := V_t2.ext E42
    replace E_vo13 := E_vo13.ext E42
    replace E_str39 := E_str39.ext E42
    replace F_coder_str39 := F_coder_str39.ext E42
    replace F_value_str39 := F_value_str39.ext E42
    replace V_sb39 := V_sb39.ext E42
    replace E_vo40 := E_vo40.ext E42
    replace E_vo41 := E_vo41.ext E42
    have E_b42 : Exa Z h42 b42 "com/example/forest_in_rows/forestinrows/Installation$OwnColumnDefinition" := A42
    have F_name_b42 : Fld Z h42 b42 "com/example/forest_in_rows/forestinrows/Installation$OwnColumnDefinition" "name" "Ljava/lang/String;" .null := D42 (Or.inr (hw _ (List.mem_of_getElem? (i := 55) rfl))) (ty := (.object "java/lang/String")) (by decide)
    have F_type_b42 : Fld Z h42 b42 "com/example/forest_in_rows/forestinrows/Installation$OwnColumnDefinition" "type" "Ljava/lang/String;" .null := D42 (Or.inr (hw _ (List.mem_of_getElem? (i := 57) rfl))) (ty := (.object "java/lang/String")) (by decide)
    have F_filling_b42 : Fld Z h42 b42 "com/example/forest_in_rows/forestinrows/Installation$OwnColumnDefinition" "filling" "Lcom/example/forest_in_rows/forestinrows/CatalogColumn$Filling;" .null := D42 (Or.inr (hw _ (List.mem_of_getElem? (i := 59) rfl))) (ty := (.object "com/example/forest_in_rows/forestinrows/CatalogColumn$Filling")) (by decide)
    have F_constraints_b42 : Fld Z h42 b42 "com/example/forest_in_rows/forestinrows/Installation$OwnColumnDefinition" "constraints" "Ljava/lang/String;" .null := D42 (Or.inr (hw _ (List.mem_of_getElem? (i := 61) rfl))) (ty := (.object "java/lang/String")) (by decide)
    refine Goes.to (T' := T42) (mkF m 205 #[.val (.int p0), .val (.int p1), .val (.int p2), .val (.int p3), .val (.int p4), .val (.int p5), .val (.int la), .val (.int c0), .val (.int c1), .val (.int lb), .val (.int b0), .val (.int b1), .val (.int nu), .val (.ref fa), .val (.ref fb), .val (.ref s1), .val (.ref s2), .val (.ref vo13), .val (.ref str39), .val (.ref vo40), .val (.ref vo41), .unset, .unset, .unset, .unset] [(.ref b42)]) st42 ?_
    refine Goes.to (T' := T42) (mkF m 206 #[.val (.int p0), .val (.int p1), .val (.int p2), .val (.int p3), .val (.int p4), .val (.int p5), .val (.int la), .val (.int c0), .val (.int c1), .val (.int lb), .val (.int b0), .val (.int b1), .val (.int nu), .val (.ref fa), .val (.ref fb), .val (.ref s1), .val (.ref s2), .val (.ref vo13), .val (.ref str39), .val (.ref vo40), .val (.ref vo41), .unset, .unset, .unset, .unset] [(.ref b42), (.ref b42)]) (fun t k => XS.dup X42.here hx rfl (hb hby at_205) rfl rfl k) ?_
    refine Goes.to (T' := T42) (mkF m 208 #[.val (.int p0), .val (.int p1), .val (.int p2), .val (.int p3), .val (.int p4), .val (.int p5), .val (.int la), .val (.int c0), .val (.int c1), .val (.int lb), .val (.int b0), .val (.int b1), .val (.int nu), .val (.ref fa), .val (.ref fb), .val (.ref s1), .val (.ref s2), .val (.ref vo13), .val (.ref str39), .val (.ref vo40), .val (.ref vo41), .unset, .unset, .unset, .unset] [(.ref vo13), (.ref b42), (.ref b42)]) (fun t k => XS.aload X42.here hx rfl (hb hby at_206) rfl rfl k) ?_
    refine Goes.to (T' := T42) (mkF m 210 #[.val (.int p0), .val (.int p1), .val (.int p2), .val (.int p3), .val (.int p4), .val (.int p5), .val (.int la), .val (.int c0), .val (.int c1), .val (.int lb), .val (.int b0), .val (.int b1), .val (.int nu), .val (.ref fa), .val (.ref fb), .val (.ref s1), .val (.ref s2), .val (.ref vo13), .val (.ref str39), .val (.ref vo40), .val (.ref vo41), .unset, .unset, .unset, .unset] [(.ref s1), (.ref vo13), (.ref b42), (.ref b42)]) (fun t k => XS.aload X42.here hx rfl (hb hby at_208) rfl rfl k) ?_
    refine Goes.to (T' := T42) (mkF m 212 #[.val (.int p0), .val (.int p1), .val (.int p2), .val (.int p3), .val (.int p4), .val (.int p5), .val (.int la), .val (.int c0), .val (.int c1), .val (.int lb), .val (.int b0), .val (.int b1), .val (.int nu), .val (.ref fa), .val (.ref fb), .val (.ref s1), .val (.ref s2), .val (.ref vo13), .val (.ref str39), .val (.ref vo40), .val (.ref vo41), .unset, .unset, .unset, .unset] [(.ref fa), (.ref s1), (.ref vo13), (.ref b42), (.ref b42)]) (fun t k => XS.aload X42.here hx rfl (hb hby at_210) rfl rfl k) ?_
    refine Goes.to (T' := T42) (mkF m 214 #[.val (.int p0), .val (.int p1), .val (.int p2), .val (.int p3), .val (.int p4), .val (.int p5), .val (.int la), .val (.int c0), .val (.int c1), .val (.int lb), .val (.int b0), .val (.int b1), .val (.int nu), .val (.ref fa), .val (.ref fb), .val (.ref s1), .val (.ref s2), .val (.ref vo13), .val (.ref str39), .val (.ref vo40), .val (.ref vo41), .unset, .unset, .unset, .unset] [(.ref str39), (.ref fa), (.ref s1), (.ref vo13), (.ref b42), (.ref b42)]) (fun t k => XS.aload X42.here hx rfl (hb hby at_212) rfl rfl k) ?_
    obtain ⟨_, _, ⟨T43, L43, k43, n43⟩, -, X43, ⟨Lc43, hQ43, l43, y43, z43⟩, st43⟩ := X42.specialBack hx (y := (⟨"com/example/forest_in_rows/forestinrows/Installation$OwnColumnDefinition", "<init>", "(Ljava/lang/String;Ljava/lang/String;Lcom/example/forest_in_rows/forestinrows/CatalogColumn$Filling;Ljava/lang/String;)V"⟩ : MethodName)) rfl hown (mvT hZ (hw _ (List.mem_of_getElem? (i := 45) rfl))) (mvT hZ (hw _ (List.mem_of_getElem? (i := 46) rfl))) (mvT hZ (hw _ (List.mem_of_getElem? (i := 47) rfl))) (by decide) (backOf (W := 1) (rm_ocd l Z a0 hw [] b42 vo13 s1 fa str39 _ _ _ _ h42 n0 O F_name_b42 F_type_b42 F_filling_b42 F_constraints_b42 E_b42 g_b42) hZ (hw _ (List.mem_of_getElem? (i := 47) rfl)) (hw _ (List.mem_of_getElem? (i := 44) rfl)) (by decide) (by decide)) (g := (mkF m 214 #[.val (.int p0), .val (.int p1), .val (.int p2), .val (.int p3), .val (.int p4), .val (.int p5), .val (.int la), .val (.int c0), .val (.int c1), .val (.int lb), .val (.int b0), .val (.int b1), .val (.int nu), .val (.ref fa), .val (.ref fb), .val (.ref s1), .val (.ref s2), .val (.ref vo13), .val (.ref str39), .val (.ref vo40), .val (.ref vo41), .unset, .unset, .unset, .unset] [(.ref str39), (.ref fa), (.ref s1), (.ref vo13), (.ref b42), (.ref b42)])) rfl (by rw [hml]; rfl) (Steps.refl _) (a := b42) (argsL := [(.ref vo13), (.ref s1), (.ref fa), (.ref str39)]) (rest := [(.ref b42)]) (lenOf pd_11 rfl) rfl (by show 2 * 0 + _ ≤ _; exact Nat.le_of_eq rfl) (hb hby at_214) (fun _ _ => ⟨rfl, e42, (by decide : 17 + 0 ≤ _), (by decide : 87 + 0 ≤ _)⟩)
    dsimp only [Pt.U, Pt.locs, Pt.cells, Pt.slots] at X43 l43 y43 z43 st43 hQ43
    subst l43 y43 z43
    obtain ⟨rfl, N43, K43, F_type_b42, F_filling_b42⟩ := hQ43
    have N43' := Fr.app N41' N43
    have C' := C.trans (CHr.keep K43 (sfS (Safe.exa hZ.alike E_b42 (by decide) (by decide)) sf0) C.1)
    replace C := C'
    replace E_s1 := E_s1.keep K43
    replace F_v1 := F_v1.keep K43 (ninS ne_s1_b42 (nin0))
    replace F_c1 := F_c1.keep K43 (ninS ne_s1_b42 (nin0))
    replace V_t1 := V_t1.keep K43 (ninS ne_t1_b42 (nin0))
    replace E_s2 := E_s2.keep K43
    replace F_v2 := F_v2.keep K43 (ninS ne_s2_b42 (nin0))
    replace F_c2 := F_c2.keep K43 (ninS ne_s2_b42 (nin0))
    replace V_t2 := V_t2.keep K43 (ninS ne_t2_b42 (nin0))
    replace E_vo13 := E_vo13.keep K43
    replace E_str39 := E_str39.keep K43
    replace F_coder_str39 := F_coder_str39.keep K43 (ninS ne_str39_b42 (nin0))
    replace F_value_str39 := F_value_str39.keep K43 (ninS ne_str39_b42 (nin0))
    replace V_sb39 := V_sb39.keep K43 (ninS ne_sb39_b42 (nin0))
    replace E_vo40 := E_vo40.keep K43
    replace E_vo41 := E_vo41.keep K43
    replace E_b42 := E_b42.keep K43
    replace O := O.keep K43 (allS g_b42 all0)
    replace hk0 := Nat.le_trans hk0 K43.1
    refine Goes.to (T' := T43) (mkF m 217 #[.val (.int p0), .val (.int p1), .val (.int p2), .val (.int p3), .val (.int p4), .val (.int p5), .val (.int la), .val (.int c0), .val (.int c1), .val (.int lb), .val (.int b0), .val (.int b1), .val (.int nu), .val (.ref fa), .val (.ref fb), .val (.ref s1), .val (.ref s2), .val (.ref vo13), .val (.ref str39), .val (.ref vo40), .val (.ref vo41), .unset, .unset, .unset, .unset] [(.ref b42)]) (fun t k => st43.trans k) ?_
    refine Goes.to (T' := T43) (mkF m 219 #[.val (.int p0), .val (.int p1), .val (.int p2), .val (.int p3), .val (.int p4), .val (.int p5), .val (.int la), .val (.int c0), .val (.int c1), .val (.int lb), .val (.int b0), .val (.int b1), .val (.int nu), .val (.ref fa), .val (.ref fb), .val (.ref s1), .val (.ref s2), .val (.ref vo13), .val (.ref str39), .val (.ref vo40), .val (.ref vo41), .val (.ref b42), .unset, .unset, .unset] []) (fun t k => XS.astore X43.here hx rfl (hb hby at_217) rfl rfl (l' := #[.val (.int p0), .val (.int p1), .val (.int p2), .val (.int p3), .val (.int p4), .val (.int p5), .val (.int la), .val (.int c0), .val (.int c1), .val (.int lb), .val (.int b0), .val (.int b1), .val (.int nu), .val (.ref fa), .val (.ref fb), .val (.ref s1), .val (.ref s2), .val (.ref vo13), .val (.ref str39), .val (.ref vo40), .val (.ref vo41), .val (.ref b42), .unset, .unset, .unset]) rfl k) ?_
    refine Goes.to (T' := T43) (mkF m 221 #[.val (.int p0), .val (.int p1), .val (.int p2), .val (.int p3), .val (.int p4), .val (.int p5), .val (.int la), .val (.int c0), .val (.int c1), .val (.int lb), .val (.int b0), .val (.int b1), .val (.int nu), .val (.ref fa), .val (.ref fb), .val (.ref s1), .val (.ref s2), .val (.ref vo13), .val (.ref str39), .val (.ref vo40), .val (.ref vo41), .val (.ref b42), .unset, .unset, .unset] [(.int nu)]) (fun t k => XS.iload X43.here hx rfl (hb hby at_219) rfl k) ?_
    by_cases hc221_44 : nu = (0 : Int32)
    · refine Goes.to (T' := T43) (mkF m 228 #[.val (.int p0), .val (.int p1), .val (.int p2), .val (.int p3), .val (.int p4), .val (.int p5), .val (.int la), .val (.int c0), .val (.int c1), .val (.int lb), .val (.int b0), .val (.int b1), .val (.int nu), .val (.ref fa), .val (.ref fb), .val (.ref s1), .val (.ref s2), .val (.ref vo13), .val (.ref str39), .val (.ref vo40), .val (.ref vo41), .val (.ref b42), .unset, .unset, .unset] []) (fun t k => XS.ifYes X43.here hx rfl (pc0 := 221) (pc' := 228) rfl (hb hby at_221) rfl ((if0 _ _).trans (teq hc221_44).1) (by decide) (by decide) k) ?_
      obtain ⟨T45, h45, X45, e45, E45, A45, D45, -, st45⟩ := newO X43 hx hZ hown (hw _ (List.mem_of_getElem? (i := 69) rfl)) (hw _ (List.mem_of_getElem? (i := 70) rfl)) (hw _ (List.mem_of_getElem? (i := 71) rfl)) rfl (g := (mkF m 228 #[.val (.int p0), .val (.int p1), .val (.int p2), .val (.int p3), .val (.int p4), .val (.int p5), .val (.int la), .val (.int c0), .val (.int c1), .val (.int lb), .val (.int b0), .val (.int b1), .val (.int nu), .val (.ref fa), .val (.ref fb), .val (.ref s1), .val (.ref s2), .val (.ref vo13), .val (.ref str39), .val (.ref vo40), .val (.ref vo41), .val (.ref b42), .unset, .unset, .unset] [])) rfl (hb hby at_228) (by decide) (by decide)
      obtain ⟨b45, g45⟩ : ∃ z, z = T43.heap.size := ⟨_, rfl⟩
      rw [← g45] at A45 D45 st45
      have g_b45 : n0 ≤ b45 := Nat.le_trans (O.1 ▸ O.2.1) (Nat.le_of_eq g45.symm)
      have ne_s1_b45 : s1 ≠ b45 := Nat.ne_of_lt (Nat.lt_of_lt_of_le E_s1.lt (Nat.le_of_eq g45.symm))
      have ne_t1_b45 : t1 ≠ b45 := Nat.ne_of_lt (Nat.lt_of_lt_of_le V_t1.lt (Nat.le_of_eq g45.symm))
      have ne_s2_b45 : s2 ≠ b45 := Nat.ne_of_lt (Nat.lt_of_lt_of_le E_s2.lt (Nat.le_of_eq g45.symm))
      have ne_t2_b45 : t2 ≠ b45 := Nat.ne_of_lt (Nat.lt_of_lt_of_le V_t2.lt (Nat.le_of_eq g45.symm))
      have ne_vo13_b45 : vo13 ≠ b45 := Nat.ne_of_lt (Nat.lt_of_lt_of_le E_vo13.lt (Nat.le_of_eq g45.symm))
      have ne_str39_b45 : str39 ≠ b45 := Nat.ne_of_lt (Nat.lt_of_lt_of_le E_str39.lt (Nat.le_of_eq g45.symm))
      have ne_sb39_b45 : sb39 ≠ b45 := Nat.ne_of_lt (Nat.lt_of_lt_of_le V_sb39.lt (Nat.le_of_eq g45.symm))
      have ne_vo40_b45 : vo40 ≠ b45 := Nat.ne_of_lt (Nat.lt_of_lt_of_le E_vo40.lt (Nat.le_of_eq g45.symm))
      have ne_vo41_b45 : vo41 ≠ b45 := Nat.ne_of_lt (Nat.lt_of_lt_of_le E_vo41.lt (Nat.le_of_eq g45.symm))
      have ne_b42_b45 : b42 ≠ b45 := Nat.ne_of_lt (Nat.lt_of_lt_of_le E_b42.lt (Nat.le_of_eq g45.symm))
      replace C := C.trans (CHr.ext E45 C.1)
      replace O := O.ext E45
      replace hk0 := Nat.le_trans hk0 E45.1
      replace E_s1 := E_s1.ext E45
      replace F_v1 := F_v1.ext E45
      replace F_c1 := F_c1.ext E45
      replace V_t1 := V_t1.ext E45
      replace E_s2 := E_s2.ext E45
      replace F_v2 := F_v2.ext E45
      replace F_c2 := F_c2.ext E45
      replace V_t2 := V_t2.ext E45
      replace E_vo13 := E_vo13.ext E45
      replace E_str39 := E_str39.ext E45
      replace F_coder_str39 := F_coder_str39.ext E45
      replace F_value_str39 := F_value_str39.ext E45
      replace V_sb39 := V_sb39.ext E45
      replace E_vo40 := E_vo40.ext E45
      replace E_vo41 := E_vo41.ext E45
      replace E_b42 := E_b42.ext E45
      replace F_type_b42 := F_type_b42.ext E45
      replace F_filling_b42 := F_filling_b42.ext E45
      have E_b45 : Exa Z h45 b45 "com/example/forest_in_rows/forestinrows/CatalogColumn" := A45
      have F_type_b45 : Fld Z h45 b45 "com/example/forest_in_rows/forestinrows/CatalogColumn" "type" "Ljava/lang/String;" .null := D45 (Or.inr (hw _ (List.mem_of_getElem? (i := 77) rfl))) (ty := (.object "java/lang/String")) (by decide)
      have F_filling_b45 : Fld Z h45 b45 "com/example/forest_in_rows/forestinrows/CatalogColumn" "filling" "Lcom/example/forest_in_rows/forestinrows/CatalogColumn$Filling;" .null := D45 (Or.inr (hw _ (List.mem_of_getElem? (i := 79) rfl))) (ty := (.object "com/example/forest_in_rows/forestinrows/CatalogColumn$Filling")) (by decide)
      have F_collatable_b45 : Fld Z h45 b45 "com/example/forest_in_rows/forestinrows/CatalogColumn" "collatable" "Z" (.int (0 : Int32)) := D45 (Or.inr (hw _ (List.mem_of_getElem? (i := 81) rfl))) (ty := .boolean) (by decide)
      have F_sortable_b45 : Fld Z h45 b45 "com/example/forest_in_rows/forestinrows/CatalogColumn" "sortable" "Z" (.int (0 : Int32)) := D45 (Or.inr (hw _ (List.mem_of_getElem? (i := 83) rfl))) (ty := .boolean) (by decide)
      have F_declaredType_b45 : Fld Z h45 b45 "com/example/forest_in_rows/forestinrows/CatalogColumn" "declaredType" "Ljava/lang/String;" .null := D45 (Or.inr (hw _ (List.mem_of_getElem? (i := 85) rfl))) (ty := (.object "java/lang/String")) (by decide)
      have F_baseType_b45 : Fld Z h45 b45 "com/example/forest_in_rows/forestinrows/CatalogColumn" "baseType" "Ljava/lang/String;" .null := D45 (Or.inr (hw _ (List.mem_of_getElem? (i := 87) rfl))) (ty := (.object "java/lang/String")) (by decide)
      have F_baseTypeKeepsModifiers_b45 : Fld Z h45 b45 "com/example/forest_in_rows/forestinrows/CatalogColumn" "baseTypeKeepsModifiers" "Z" (.int (0 : Int32)) := D45 (Or.inr (hw _ (List.mem_of_getElem? (i := 89) rfl))) (ty := .boolean) (by decide)
      refine Goes.to (T' := T45) (mkF m 231 #[.val (.int p0), .val (.int p1), .val (.int p2), .val (.int p3), .val (.int p4), .val (.int p5), .val (.int la), .val (.int c0), .val (.int c1), .val (.int lb), .val (.int b0), .val (.int b1), .val (.int nu), .val (.ref fa), .val (.ref fb), .val (.ref s1), .val (.ref s2), .val (.ref vo13), .val (.ref str39), .val (.ref vo40), .val (.ref vo41), .val (.ref b42), .unset, .unset, .unset] [(.ref b45)]) st45 ?_
      refine Goes.to (T' := T45) (mkF m 232 #[.val (.int p0), .val (.int p1), .val (.int p2), .val (.int p3), .val (.int p4), .val (.int p5), .val (.int la), .val (.int c0), .val (.int c1), .val (.int lb), .val (.int b0), .val (.int b1), .val (.int nu), .val (.ref fa), .val (.ref fb), .val (.ref s1), .val (.ref s2), .val (.ref vo13), .val (.ref str39), .val (.ref vo40), .val (.ref vo41), .val (.ref b42), .unset, .unset, .unset] [(.ref b45), (.ref b45)]) (fun t k => XS.dup X45.here hx rfl (hb hby at_231) rfl rfl k) ?_
      refine Goes.to (T' := T45) (mkF m 234 #[.val (.int p0), .val (.int p1), .val (.int p2), .val (.int p3), .val (.int p4), .val (.int p5), .val (.int la), .val (.int c0), .val (.int c1), .val (.int lb), .val (.int b0), .val (.int b1), .val (.int nu), .val (.ref fa), .val (.ref fb), .val (.ref s1), .val (.ref s2), .val (.ref vo13), .val (.ref str39), .val (.ref vo40), .val (.ref vo41), .val (.ref b42), .unset, .unset, .unset] [(.ref s2), (.ref b45), (.ref b45)]) (fun t k => XS.aload X45.here hx rfl (hb hby at_232) rfl rfl k) ?_
      refine Goes.to (T' := T45) (mkF m 236 #[.val (.int p0), .val (.int p1), .val (.int p2), .val (.int p3), .val (.int p4), .val (.int p5), .val (.int la), .val (.int c0), .val (.int c1), .val (.int lb), .val (.int b0), .val (.int b1), .val (.int nu), .val (.ref fa), .val (.ref fb), .val (.ref s1), .val (.ref s2), .val (.ref vo13), .val (.ref str39), .val (.ref vo40), .val (.ref vo41), .val (.ref b42), .unset, .unset, .unset] [(.ref fb), (.ref s2), (.ref b45), (.ref b45)]) (fun t k => XS.aload X45.here hx rfl (hb hby at_234) rfl rfl k) ?_
      refine Goes.to (T' := T45) (mkF m 238 #[.val (.int p0), .val (.int p1), .val (.int p2), .val (.int p3), .val (.int p4), .val (.int p5), .val (.int la), .val (.int c0), .val (.int c1), .val (.int lb), .val (.int b0), .val (.int b1), .val (.int nu), .val (.ref fa), .val (.ref fb), .val (.ref s1), .val (.ref s2), .val (.ref vo13), .val (.ref str39), .val (.ref vo40), .val (.ref vo41), .val (.ref b42), .unset, .unset, .unset] [(.int p5), (.ref fb), (.ref s2), (.ref b45), (.ref b45)]) (fun t k => XS.iload X45.here hx rfl (hb hby at_236) rfl k) ?_
      refine Goes.to (T' := T45) (mkF m 240 #[.val (.int p0), .val (.int p1), .val (.int p2), .val (.int p3), .val (.int p4), .val (.int p5), .val (.int la), .val (.int c0), .val (.int c1), .val (.int lb), .val (.int b0), .val (.int b1), .val (.int nu), .val (.ref fa), .val (.ref fb), .val (.ref s1), .val (.ref s2), .val (.ref vo13), .val (.ref str39), .val (.ref vo40), .val (.ref vo41), .val (.ref b42), .unset, .unset, .unset] [(.int (25 : Int32)), (.int p5), (.ref fb), (.ref s2), (.ref b45), (.ref b45)]) (fun t k => XS.bipush X45.here hx rfl (hb hby at_238) k) ?_
      refine Goes.to (T' := T45) (mkF m 241 #[.val (.int p0), .val (.int p1), .val (.int p2), .val (.int p3), .val (.int p4), .val (.int p5), .val (.int la), .val (.int c0), .val (.int c1), .val (.int lb), .val (.int b0), .val (.int b1), .val (.int nu), .val (.ref fa), .val (.ref fb), .val (.ref s1), .val (.ref s2), .val (.ref vo13), .val (.ref str39), .val (.ref vo40), .val (.ref vo41), .val (.ref b42), .unset, .unset, .unset] [(.int ((p5.toUInt32 >>> ((25 : Int32) &&& 31).toUInt32).toInt32)), (.ref fb), (.ref s2), (.ref b45), (.ref b45)]) (fun t k => XS.iushr X45.here hx rfl (hb hby at_240) rfl k) ?_
      refine Goes.to (T' := T45) (mkF m 242 #[.val (.int p0), .val (.int p1), .val (.int p2), .val (.int p3), .val (.int p4), .val (.int p5), .val (.int la), .val (.int c0), .val (.int c1), .val (.int lb), .val (.int b0), .val (.int b1), .val (.int nu), .val (.ref fa), .val (.ref fb), .val (.ref s1), .val (.ref s2), .val (.ref vo13), .val (.ref str39), .val (.ref vo40), .val (.ref vo41), .val (.ref b42), .unset, .unset, .unset] [(.int (1 : Int32)), (.int ((p5.toUInt32 >>> ((25 : Int32) &&& 31).toUInt32).toInt32)), (.ref fb), (.ref s2), (.ref b45), (.ref b45)]) (fun t k => XS.iconst X45.here hx rfl (hb hby at_241) k) ?_
      refine Goes.to (T' := T45) (mkF m 243 #[.val (.int p0), .val (.int p1), .val (.int p2), .val (.int p3), .val (.int p4), .val (.int p5), .val (.int la), .val (.int c0), .val (.int c1), .val (.int lb), .val (.int b0), .val (.int b1), .val (.int nu), .val (.ref fa), .val (.ref fb), .val (.ref s1), .val (.ref s2), .val (.ref vo13), .val (.ref str39), .val (.ref vo40), .val (.ref vo41), .val (.ref b42), .unset, .unset, .unset] [(.int (((p5.toUInt32 >>> ((25 : Int32) &&& 31).toUInt32).toInt32) &&& (1 : Int32))), (.ref fb), (.ref s2), (.ref b45), (.ref b45)]) (fun t k => XS.iand X45.here hx rfl (hb hby at_242) rfl k) ?_
      have D243_46 : ∀ t, Steps p.tables e below (T45.setTop (mkF m 251 #[.val (.int p0), .val (.int p1), .val (.int p2), .val (.int p3), .val (.int p4), .val (.int p5), .val (.int la), .val (.int c0), .val (.int c1), .val (.int lb), .val (.int b0), .val (.int b1), .val (.int nu), .val (.ref fa), .val (.ref fb), .val (.ref s1), .val (.ref s2), .val (.ref vo13), .val (.ref str39), .val (.ref vo40), .val (.ref vo41), .val (.ref b42), .unset, .unset, .unset] [(.int (if (((p5.toUInt32 >>> ((25 : Int32) &&& 31).toUInt32).toInt32) &&& (1 : Int32)) = (0 : Int32) then (0 : Int32) else (1 : Int32))), (.ref fb), (.ref s2), (.ref b45), (.ref b45)])) t → Steps p.tables e below (T45.setTop (mkF m 243 #[.val (.int p0), .val (.int p1), .val (.int p2), .val (.int p3), .val (.int p4), .val (.int p5), .val (.int la), .val (.int c0), .val (.int c1), .val (.int lb), .val (.int b0), .val (.int b1), .val (.int nu), .val (.ref fa), .val (.ref fb), .val (.ref s1), .val (.ref s2), .val (.ref vo13), .val (.ref str39), .val (.ref vo40), .val (.ref vo41), .val (.ref b42), .unset, .unset, .unset] [(.int (((p5.toUInt32 >>> ((25 : Int32) &&& 31).toUInt32).toInt32) &&& (1 : Int32))), (.ref fb), (.ref s2), (.ref b45), (.ref b45)])) t := by
        intro t k
        by_cases hq : (((p5.toUInt32 >>> ((25 : Int32) &&& 31).toUInt32).toInt32) &&& (1 : Int32)) = (0 : Int32)
        · simp only [if_pos hq] at k
          refine XS.ifYes X45.here hx rfl (pc0 := 243) (pc' := 250) rfl (hb hby at_243) rfl ((if0 _ _).trans (teq hq).1) (by decide) (by decide) ?_
          show Steps p.tables e below (T45.setTop (mkF m 250 #[.val (.int p0), .val (.int p1), .val (.int p2), .val (.int p3), .val (.int p4), .val (.int p5), .val (.int la), .val (.int c0), .val (.int c1), .val (.int lb), .val (.int b0), .val (.int b1), .val (.int nu), .val (.ref fa), .val (.ref fb), .val (.ref s1), .val (.ref s2), .val (.ref vo13), .val (.ref str39), .val (.ref vo40), .val (.ref vo41), .val (.ref b42), .unset, .unset, .unset] [(.ref fb), (.ref s2), (.ref b45), (.ref b45)])) _
          refine XS.iconst X45.here hx rfl (hb hby at_250) ?_
          show Steps p.tables e below (T45.setTop (mkF m 251 #[.val (.int p0), .val (.int p1), .val (.int p2), .val (.int p3), .val (.int p4), .val (.int p5), .val (.int la), .val (.int c0), .val (.int c1), .val (.int lb), .val (.int b0), .val (.int b1), .val (.int nu), .val (.ref fa), .val (.ref fb), .val (.ref s1), .val (.ref s2), .val (.ref vo13), .val (.ref str39), .val (.ref vo40), .val (.ref vo41), .val (.ref b42), .unset, .unset, .unset] [(.int (0 : Int32)), (.ref fb), (.ref s2), (.ref b45), (.ref b45)])) _
          exact k
        · simp only [if_neg hq] at k
          refine XS.ifNo X45.here hx rfl (hb hby at_243) rfl ((if0 _ _).trans (feq hq).1) ?_
          show Steps p.tables e below (T45.setTop (mkF m 246 #[.val (.int p0), .val (.int p1), .val (.int p2), .val (.int p3), .val (.int p4), .val (.int p5), .val (.int la), .val (.int c0), .val (.int c1), .val (.int lb), .val (.int b0), .val (.int b1), .val (.int nu), .val (.ref fa), .val (.ref fb), .val (.ref s1), .val (.ref s2), .val (.ref vo13), .val (.ref str39), .val (.ref vo40), .val (.ref vo41), .val (.ref b42), .unset, .unset, .unset] [(.ref fb), (.ref s2), (.ref b45), (.ref b45)])) _
          refine XS.iconst X45.here hx rfl (hb hby at_246) ?_
          show Steps p.tables e below (T45.setTop (mkF m 247 #[.val (.int p0), .val (.int p1), .val (.int p2), .val (.int p3), .val (.int p4), .val (.int p5), .val (.int la), .val (.int c0), .val (.int c1), .val (.int lb), .val (.int b0), .val (.int b1), .val (.int nu), .val (.ref fa), .val (.ref fb), .val (.ref s1), .val (.ref s2), .val (.ref vo13), .val (.ref str39), .val (.ref vo40), .val (.ref vo41), .val (.ref b42), .unset, .unset, .unset] [(.int (1 : Int32)), (.ref fb), (.ref s2), (.ref b45), (.ref b45)])) _
          refine XS.goto X45.here hx rfl (pc0 := 247) (pc' := 251) rfl (hb hby at_247) (by decide) (by decide) ?_
          show Steps p.tables e below (T45.setTop (mkF m 251 #[.val (.int p0), .val (.int p1), .val (.int p2), .val (.int p3), .val (.int p4), .val (.int p5), .val (.int la), .val (.int c0), .val (.int c1), .val (.int lb), .val (.int b0), .val (.int b1), .val (.int nu), .val (.ref fa), .val (.ref fb), .val (.ref s1), .val (.ref s2), .val (.ref vo13), .val (.ref str39), .val (.ref vo40), .val (.ref vo41), .val (.ref b42), .unset, .unset, .unset] [(.int (1 : Int32)), (.ref fb), (.ref s2), (.ref b45), (.ref b45)])) _
          exact k
      refine Goes.to (T' := T45) (mkF m 251 #[.val (.int p0), .val (.int p1), .val (.int p2), .val (.int p3), .val (.int p4), .val (.int p5), .val (.int la), .val (.int c0), .val (.int c1), .val (.int lb), .val (.int b0), .val (.int b1), .val (.int nu), .val (.ref fa), .val (.ref fb), .val (.ref s1), .val (.ref s2), .val (.ref vo13), .val (.ref str39), .val (.ref vo40), .val (.ref vo41), .val (.ref b42), .unset, .unset, .unset] [(.int (if (((p5.toUInt32 >>> ((25 : Int32) &&& 31).toUInt32).toInt32) &&& (1 : Int32)) = (0 : Int32) then (0 : Int32) else (1 : Int32))), (.ref fb), (.ref s2), (.ref b45), (.ref b45)]) D243_46 ?_
      obtain ⟨q1, q1_eq⟩ : ∃ z, z = (if (((p5.toUInt32 >>> ((25 : Int32) &&& 31).toUInt32).toInt32) &&& (1 : Int32)) = (0 : Int32) then (0 : Int32) else (1 : Int32)) := ⟨_, rfl⟩
      rw [← q1_eq]
      refine Goes.to (T' := T45) (mkF m 253 #[.val (.int p0), .val (.int p1), .val (.int p2), .val (.int p3), .val (.int p4), .val (.int p5), .val (.int la), .val (.int c0), .val (.int c1), .val (.int lb), .val (.int b0), .val (.int b1), .val (.int nu), .val (.ref fa), .val (.ref fb), .val (.ref s1), .val (.ref s2), .val (.ref vo13), .val (.ref str39), .val (.ref vo40), .val (.ref vo41), .val (.ref b42), .unset, .unset, .unset] [(.int p5), (.int q1), (.ref fb), (.ref s2), (.ref b45), (.ref b45)]) (fun t k => XS.iload X45.here hx rfl (hb hby at_251) rfl k) ?_
      refine Goes.to (T' := T45) (mkF m 255 #[.val (.int p0), .val (.int p1), .val (.int p2), .val (.int p3), .val (.int p4), .val (.int p5), .val (.int la), .val (.int c0), .val (.int c1), .val (.int lb), .val (.int b0), .val (.int b1), .val (.int nu), .val (.ref fa), .val (.ref fb), .val (.ref s1), .val (.ref s2), .val (.ref vo13), .val (.ref str39), .val (.ref vo40), .val (.ref vo41), .val (.ref b42), .unset, .unset, .unset] [(.int (26 : Int32)), (.int p5), (.int q1), (.ref fb), (.ref s2), (.ref b45), (.ref b45)]) (fun t k => XS.bipush X45.here hx rfl (hb hby at_253) k) ?_
      refine Goes.to (T' := T45) (mkF m 256 #[.val (.int p0), .val (.int p1), .val (.int p2), .val (.int p3), .val (.int p4), .val (.int p5), .val (.int la), .val (.int c0), .val (.int c1), .val (.int lb), .val (.int b0), .val (.int b1), .val (.int nu), .val (.ref fa), .val (.ref fb), .val (.ref s1), .val (.ref s2), .val (.ref vo13), .val (.ref str39), .val (.ref vo40), .val (.ref vo41), .val (.ref b42), .unset, .unset, .unset] [(.int ((p5.toUInt32 >>> ((26 : Int32) &&& 31).toUInt32).toInt32)), (.int q1), (.ref fb), (.ref s2), (.ref b45), (.ref b45)]) (fun t k => XS.iushr X45.here hx rfl (hb hby at_255) rfl k) ?_
      refine Goes.to (T' := T45) (mkF m 257 #[.val (.int p0), .val (.int p1), .val (.int p2), .val (.int p3), .val (.int p4), .val (.int p5), .val (.int la), .val (.int c0), .val (.int c1), .val (.int lb), .val (.int b0), .val (.int b1), .val (.int nu), .val (.ref fa), .val (.ref fb), .val (.ref s1), .val (.ref s2), .val (.ref vo13), .val (.ref str39), .val (.ref vo40), .val (.ref vo41), .val (.ref b42), .unset, .unset, .unset] [(.int (1 : Int32)), (.int ((p5.toUInt32 >>> ((26 : Int32) &&& 31).toUInt32).toInt32)), (.int q1), (.ref fb), (.ref s2), (.ref b45), (.ref b45)]) (fun t k => XS.iconst X45.here hx rfl (hb hby at_256) k) ?_
      refine Goes.to (T' := T45) (mkF m 258 #[.val (.int p0), .val (.int p1), .val (.int p2), .val (.int p3), .val (.int p4), .val (.int p5), .val (.int la), .val (.int c0), .val (.int c1), .val (.int lb), .val (.int b0), .val (.int b1), .val (.int nu), .val (.ref fa), .val (.ref fb), .val (.ref s1), .val (.ref s2), .val (.ref vo13), .val (.ref str39), .val (.ref vo40), .val (.ref vo41), .val (.ref b42), .unset, .unset, .unset] [(.int (((p5.toUInt32 >>> ((26 : Int32) &&& 31).toUInt32).toInt32) &&& (1 : Int32))), (.int q1), (.ref fb), (.ref s2), (.ref b45), (.ref b45)]) (fun t k => XS.iand X45.here hx rfl (hb hby at_257) rfl k) ?_
      have D258_48 : ∀ t, Steps p.tables e below (T45.setTop (mkF m 266 #[.val (.int p0), .val (.int p1), .val (.int p2), .val (.int p3), .val (.int p4), .val (.int p5), .val (.int la), .val (.int c0), .val (.int c1), .val (.int lb), .val (.int b0), .val (.int b1), .val (.int nu), .val (.ref fa), .val (.ref fb), .val (.ref s1), .val (.ref s2), .val (.ref vo13), .val (.ref str39), .val (.ref vo40), .val (.ref vo41), .val (.ref b42), .unset, .unset, .unset] [(.int (if (((p5.toUInt32 >>> ((26 : Int32) &&& 31).toUInt32).toInt32) &&& (1 : Int32)) = (0 : Int32) then (0 : Int32) else (1 : Int32))), (.int q1), (.ref fb), (.ref s2), (.ref b45), (.ref b45)])) t → Steps p.tables e below (T45.setTop (mkF m 258 #[.val (.int p0), .val (.int p1), .val (.int p2), .val (.int p3), .val (.int p4), .val (.int p5), .val (.int la), .val (.int c0), .val (.int c1), .val (.int lb), .val (.int b0), .val (.int b1), .val (.int nu), .val (.ref fa), .val (.ref fb), .val (.ref s1), .val (.ref s2), .val (.ref vo13), .val (.ref str39), .val (.ref vo40), .val (.ref vo41), .val (.ref b42), .unset, .unset, .unset] [(.int (((p5.toUInt32 >>> ((26 : Int32) &&& 31).toUInt32).toInt32) &&& (1 : Int32))), (.int q1), (.ref fb), (.ref s2), (.ref b45), (.ref b45)])) t := by
        intro t k
        by_cases hq : (((p5.toUInt32 >>> ((26 : Int32) &&& 31).toUInt32).toInt32) &&& (1 : Int32)) = (0 : Int32)
        · simp only [if_pos hq] at k
          refine XS.ifYes X45.here hx rfl (pc0 := 258) (pc' := 265) rfl (hb hby at_258) rfl ((if0 _ _).trans (teq hq).1) (by decide) (by decide) ?_
          show Steps p.tables e below (T45.setTop (mkF m 265 #[.val (.int p0), .val (.int p1), .val (.int p2), .val (.int p3), .val (.int p4), .val (.int p5), .val (.int la), .val (.int c0), .val (.int c1), .val (.int lb), .val (.int b0), .val (.int b1), .val (.int nu), .val (.ref fa), .val (.ref fb), .val (.ref s1), .val (.ref s2), .val (.ref vo13), .val (.ref str39), .val (.ref vo40), .val (.ref vo41), .val (.ref b42), .unset, .unset, .unset] [(.int q1), (.ref fb), (.ref s2), (.ref b45), (.ref b45)])) _
          refine XS.iconst X45.here hx rfl (hb hby at_265) ?_
          show Steps p.tables e below (T45.setTop (mkF m 266 #[.val (.int p0), .val (.int p1), .val (.int p2), .val (.int p3), .val (.int p4), .val (.int p5), .val (.int la), .val (.int c0), .val (.int c1), .val (.int lb), .val (.int b0), .val (.int b1), .val (.int nu), .val (.ref fa), .val (.ref fb), .val (.ref s1), .val (.ref s2), .val (.ref vo13), .val (.ref str39), .val (.ref vo40), .val (.ref vo41), .val (.ref b42), .unset, .unset, .unset] [(.int (0 : Int32)), (.int q1), (.ref fb), (.ref s2), (.ref b45), (.ref b45)])) _
          exact k
        · simp only [if_neg hq] at k
          refine XS.ifNo X45.here hx rfl (hb hby at_258) rfl ((if0 _ _).trans (feq hq).1) ?_
          show Steps p.tables e below (T45.setTop (mkF m 261 #[.val (.int p0), .val (.int p1), .val (.int p2), .val (.int p3), .val (.int p4), .val (.int p5), .val (.int la), .val (.int c0), .val (.int c1), .val (.int lb), .val (.int b0), .val (.int b1), .val (.int nu), .val (.ref fa), .val (.ref fb), .val (.ref s1), .val (.ref s2), .val (.ref vo13), .val (.ref str39), .val (.ref vo40), .val (.ref vo41), .val (.ref b42), .unset, .unset, .unset] [(.int q1), (.ref fb), (.ref s2), (.ref b45), (.ref b45)])) _
          refine XS.iconst X45.here hx rfl (hb hby at_261) ?_
          show Steps p.tables e below (T45.setTop (mkF m 262 #[.val (.int p0), .val (.int p1), .val (.int p2), .val (.int p3), .val (.int p4), .val (.int p5), .val (.int la), .val (.int c0), .val (.int c1), .val (.int lb), .val (.int b0), .val (.int b1), .val (.int nu), .val (.ref fa), .val (.ref fb), .val (.ref s1), .val (.ref s2), .val (.ref vo13), .val (.ref str39), .val (.ref vo40), .val (.ref vo41), .val (.ref b42), .unset, .unset, .unset] [(.int (1 : Int32)), (.int q1), (.ref fb), (.ref s2), (.ref b45), (.ref b45)])) _
          refine XS.goto X45.here hx rfl (pc0 := 262) (pc' := 266) rfl (hb hby at_262) (by decide) (by decide) ?_
          show Steps p.tables e below (T45.setTop (mkF m 266 #[.val (.int p0), .val (.int p1), .val (.int p2), .val (.int p3), .val (.int p4), .val (.int p5), .val (.int la), .val (.int c0), .val (.int c1), .val (.int lb), .val (.int b0), .val (.int b1), .val (.int nu), .val (.ref fa), .val (.ref fb), .val (.ref s1), .val (.ref s2), .val (.ref vo13), .val (.ref str39), .val (.ref vo40), .val (.ref vo41), .val (.ref b42), .unset, .unset, .unset] [(.int (1 : Int32)), (.int q1), (.ref fb), (.ref s2), (.ref b45), (.ref b45)])) _
          exact k
      refine Goes.to (T' := T45) (mkF m 266 #[.val (.int p0), .val (.int p1), .val (.int p2), .val (.int p3), .val (.int p4), .val (.int p5), .val (.int la), .val (.int c0), .val (.int c1), .val (.int lb), .val (.int b0), .val (.int b1), .val (.int nu), .val (.ref fa), .val (.ref fb), .val (.ref s1), .val (.ref s2), .val (.ref vo13), .val (.ref str39), .val (.ref vo40), .val (.ref vo41), .val (.ref b42), .unset, .unset, .unset] [(.int (if (((p5.toUInt32 >>> ((26 : Int32) &&& 31).toUInt32).toInt32) &&& (1 : Int32)) = (0 : Int32) then (0 : Int32) else (1 : Int32))), (.int q1), (.ref fb), (.ref s2), (.ref b45), (.ref b45)]) D258_48 ?_
      obtain ⟨q2, q2_eq⟩ : ∃ z, z = (if (((p5.toUInt32 >>> ((26 : Int32) &&& 31).toUInt32).toInt32) &&& (1 : Int32)) = (0 : Int32) then (0 : Int32) else (1 : Int32)) := ⟨_, rfl⟩
      rw [← q2_eq]
      refine Goes.to (T' := T45) (mkF m 268 #[.val (.int p0), .val (.int p1), .val (.int p2), .val (.int p3), .val (.int p4), .val (.int p5), .val (.int la), .val (.int c0), .val (.int c1), .val (.int lb), .val (.int b0), .val (.int b1), .val (.int nu), .val (.ref fa), .val (.ref fb), .val (.ref s1), .val (.ref s2), .val (.ref vo13), .val (.ref str39), .val (.ref vo40), .val (.ref vo41), .val (.ref b42), .unset, .unset, .unset] [(.ref vo40), (.int q2), (.int q1), (.ref fb), (.ref s2), (.ref b45), (.ref b45)]) (fun t k => XS.aload X45.here hx rfl (hb hby at_266) rfl rfl k) ?_
      refine Goes.to (T' := T45) (mkF m 270 #[.val (.int p0), .val (.int p1), .val (.int p2), .val (.int p3), .val (.int p4), .val (.int p5), .val (.int la), .val (.int c0), .val (.int c1), .val (.int lb), .val (.int b0), .val (.int b1), .val (.int nu), .val (.ref fa), .val (.ref fb), .val (.ref s1), .val (.ref s2), .val (.ref vo13), .val (.ref str39), .val (.ref vo40), .val (.ref vo41), .val (.ref b42), .unset, .unset, .unset] [(.ref vo41), (.ref vo40), (.int q2), (.int q1), (.ref fb), (.ref s2), (.ref b45), (.ref b45)]) (fun t k => XS.aload X45.here hx rfl (hb hby at_268) rfl rfl k) ?_
      refine Goes.to (T' := T45) (mkF m 272 #[.val (.int p0), .val (.int p1), .val (.int p2), .val (.int p3), .val (.int p4), .val (.int p5), .val (.int la), .val (.int c0), .val (.int c1), .val (.int lb), .val (.int b0), .val (.int b1), .val (.int nu), .val (.ref fa), .val (.ref fb), .val (.ref s1), .val (.ref s2), .val (.ref vo13), .val (.ref str39), .val (.ref vo40), .val (.ref vo41), .val (.ref b42), .unset, .unset, .unset] [(.int p5), (.ref vo41), (.ref vo40), (.int q2), (.int q1), (.ref fb), (.ref s2), (.ref b45), (.ref b45)]) (fun t k => XS.iload X45.here hx rfl (hb hby at_270) rfl k) ?_
      refine Goes.to (T' := T45) (mkF m 274 #[.val (.int p0), .val (.int p1), .val (.int p2), .val (.int p3), .val (.int p4), .val (.int p5), .val (.int la), .val (.int c0), .val (.int c1), .val (.int lb), .val (.int b0), .val (.int b1), .val (.int nu), .val (.ref fa), .val (.ref fb), .val (.ref s1), .val (.ref s2), .val (.ref vo13), .val (.ref str39), .val (.ref vo40), .val (.ref vo41), .val (.ref b42), .unset, .unset, .unset] [(.int (27 : Int32)), (.int p5), (.ref vo41), (.ref vo40), (.int q2), (.int q1), (.ref fb), (.ref s2), (.ref b45), (.ref b45)]) (fun t k => XS.bipush X45.here hx rfl (hb hby at_272) k) ?_
      refine Goes.to (T' := T45) (mkF m 275 #[.val (.int p0), .val (.int p1), .val (.int p2), .val (.int p3), .val (.int p4), .val (.int p5), .val (.int la), .val (.int c0), .val (.int c1), .val (.int lb), .val (.int b0), .val (.int b1), .val (.int nu), .val (.ref fa), .val (.ref fb), .val (.ref s1), .val (.ref s2), .val (.ref vo13), .val (.ref str39), .val (.ref vo40), .val (.ref vo41), .val (.ref b42), .unset, .unset, .unset] [(.int ((p5.toUInt32 >>> ((27 : Int32) &&& 31).toUInt32).toInt32)), (.ref vo41), (.ref vo40), (.int q2), (.int q1), (.ref fb), (.ref s2), (.ref b45), (.ref b45)]) (fun t k => XS.iushr X45.here hx rfl (hb hby at_274) rfl k) ?_
      refine Goes.to (T' := T45) (mkF m 276 #[.val (.int p0), .val (.int p1), .val (.int p2), .val (.int p3), .val (.int p4), .val (.int p5), .val (.int la), .val (.int c0), .val (.int c1), .val (.int lb), .val (.int b0), .val (.int b1), .val (.int nu), .val (.ref fa), .val (.ref fb), .val (.ref s1), .val (.ref s2), .val (.ref vo13), .val (.ref str39), .val (.ref vo40), .val (.ref vo41), .val (.ref b42), .unset, .unset, .unset] [(.int (1 : Int32)), (.int ((p5.toUInt32 >>> ((27 : Int32) &&& 31).toUInt32).toInt32)), (.ref vo41), (.ref vo40), (.int q2), (.int q1), (.ref fb), (.ref s2), (.ref b45), (.ref b45)]) (fun t k => XS.iconst X45.here hx rfl (hb hby at_275) k) ?_
      refine Goes.to (T' := T45) (mkF m 277 #[.val (.int p0), .val (.int p1), .val (.int p2), .val (.int p3), .val (.int p4), .val (.int p5), .val (.int la), .val (.int c0), .val (.int c1), .val (.int lb), .val (.int b0), .val (.int b1), .val (.int nu), .val (.ref fa), .val (.ref fb), .val (.ref s1), .val (.ref s2), .val (.ref vo13), .val (.ref str39), .val (.ref vo40), .val (.ref vo41), .val (.ref b42), .unset, .unset, .unset] [(.int (((p5.toUInt32 >>> ((27 : Int32) &&& 31).toUInt32).toInt32) &&& (1 : Int32))), (.ref vo41), (.ref vo40), (.int q2), (.int q1), (.ref fb), (.ref s2), (.ref b45), (.ref b45)]) (fun t k => XS.iand X45.here hx rfl (hb hby at_276) rfl k) ?_
      have D277_50 : ∀ t, Steps p.tables e below (T45.setTop (mkF m 285 #[.val (.int p0), .val (.int p1), .val (.int p2), .val (.int p3), .val (.int p4), .val (.int p5), .val (.int la), .val (.int c0), .val (.int c1), .val (.int lb), .val (.int b0), .val (.int b1), .val (.int nu), .val (.ref fa), .val (.ref fb), .val (.ref s1), .val (.ref s2), .val (.ref vo13), .val (.ref str39), .val (.ref vo40), .val (.ref vo41), .val (.ref b42), .unset, .unset, .unset] [(.int (if (((p5.toUInt32 >>> ((27 : Int32) &&& 31).toUInt32).toInt32) &&& (1 : Int32)) = (0 : Int32) then (0 : Int32) else (1 : Int32))), (.ref vo41), (.ref vo40), (.int q2), (.int q1), (.ref fb), (.ref s2), (.ref b45), (.ref b45)])) t → Steps p.tables e below (T45.setTop (mkF m 277 #[.val (.int p0), .val (.int p1), .val (.int p2), .val (.int p3), .val (.int p4), .val (.int p5), .val (.int la), .val (.int c0), .val (.int c1), .val (.int lb), .val (.int b0), .val (.int b1), .val (.int nu), .val (.ref fa), .val (.ref fb), .val (.ref s1), .val (.ref s2), .val (.ref vo13), .val (.ref str39), .val (.ref vo40), .val (.ref vo41), .val (.ref b42), .unset, .unset, .unset] [(.int (((p5.toUInt32 >>> ((27 : Int32) &&& 31).toUInt32).toInt32) &&& (1 : Int32))), (.ref vo41), (.ref vo40), (.int q2), (.int q1), (.ref fb), (.ref s2), (.ref b45), (.ref b45)])) t := by
        intro t k
        by_cases hq : (((p5.toUInt32 >>> ((27 : Int32) &&& 31).toUInt32).toInt32) &&& (1 : Int32)) = (0 : Int32)
        · simp only [if_pos hq] at k
          refine XS.ifYes X45.here hx rfl (pc0 := 277) (pc' := 284) rfl (hb hby at_277) rfl ((if0 _ _).trans (teq hq).1) (by decide) (by decide) ?_
          show Steps p.tables e below (T45.setTop (mkF m 284 #[.val (.int p0), .val (.int p1), .val (.int p2), .val (.int p3), .val (.int p4), .val (.int p5), .val (.int la), .val (.int c0), .val (.int c1), .val (.int lb), .val (.int b0), .val (.int b1), .val (.int nu), .val (.ref fa), .val (.ref fb), .val (.ref s1), .val (.ref s2), .val (.ref vo13), .val (.ref str39), .val (.ref vo40), .val (.ref vo41), .val (.ref b42), .unset, .unset, .unset] [(.ref vo41), (.ref vo40), (.int q2), (.int q1), (.ref fb), (.ref s2), (.ref b45), (.ref b45)])) _
          refine XS.iconst X45.here hx rfl (hb hby at_284) ?_
          show Steps p.tables e below (T45.setTop (mkF m 285 #[.val (.int p0), .val (.int p1), .val (.int p2), .val (.int p3), .val (.int p4), .val (.int p5), .val (.int la), .val (.int c0), .val (.int c1), .val (.int lb), .val (.int b0), .val (.int b1), .val (.int nu), .val (.ref fa), .val (.ref fb), .val (.ref s1), .val (.ref s2), .val (.ref vo13), .val (.ref str39), .val (.ref vo40), .val (.ref vo41), .val (.ref b42), .unset, .unset, .unset] [(.int (0 : Int32)), (.ref vo41), (.ref vo40), (.int q2), (.int q1), (.ref fb), (.ref s2), (.ref b45), (.ref b45)])) _
          exact k
        · simp only [if_neg hq] at k
          refine XS.ifNo X45.here hx rfl (hb hby at_277) rfl ((if0 _ _).trans (feq hq).1) ?_
          show Steps p.tables e below (T45.setTop (mkF m 280 #[.val (.int p0), .val (.int p1), .val (.int p2), .val (.int p3), .val (.int p4), .val (.int p5), .val (.int la), .val (.int c0), .val (.int c1), .val (.int lb), .val (.int b0), .val (.int b1), .val (.int nu), .val (.ref fa), .val (.ref fb), .val (.ref s1), .val (.ref s2), .val (.ref vo13), .val (.ref str39), .val (.ref vo40), .val (.ref vo41), .val (.ref b42), .unset, .unset, .unset] [(.ref vo41), (.ref vo40), (.int q2), (.int q1), (.ref fb), (.ref s2), (.ref b45), (.ref b45)])) _
          refine XS.iconst X45.here hx rfl (hb hby at_280) ?_
          show Steps p.tables e below (T45.setTop (mkF m 281 #[.val (.int p0), .val (.int p1), .val (.int p2), .val (.int p3), .val (.int p4), .val (.int p5), .val (.int la), .val (.int c0), .val (.int c1), .val (.int lb), .val (.int b0), .val (.int b1), .val (.int nu), .val (.ref fa), .val (.ref fb), .val (.ref s1), .val (.ref s2), .val (.ref vo13), .val (.ref str39), .val (.ref vo40), .val (.ref vo41), .val (.ref b42), .unset, .unset, .unset] [(.int (1 : Int32)), (.ref vo41), (.ref vo40), (.int q2), (.int q1), (.ref fb), (.ref s2), (.ref b45), (.ref b45)])) _
          refine XS.goto X45.here hx rfl (pc0 := 281) (pc' := 285) rfl (hb hby at_281) (by decide) (by decide) ?_
          show Steps p.tables e below (T45.setTop (mkF m 285 #[.val (.int p0), .val (.int p1), .val (.int p2), .val (.int p3), .val (.int p4), .val (.int p5), .val (.int la), .val (.int c0), .val (.int c1), .val (.int lb), .val (.int b0), .val (.int b1), .val (.int nu), .val (.ref fa), .val (.ref fb), .val (.ref s1), .val (.ref s2), .val (.ref vo13), .val (.ref str39), .val (.ref vo40), .val (.ref vo41), .val (.ref b42), .unset, .unset, .unset] [(.int (1 : Int32)), (.ref vo41), (.ref vo40), (.int q2), (.int q1), (.ref fb), (.ref s2), (.ref b45), (.ref b45)])) _
          exact k
      refine Goes.to (T' := T45) (mkF m 285 #[.val (.int p0), .val (.int p1), .val (.int p2), .val (.int p3), .val (.int p4), .val (.int p5), .val (.int la), .val (.int c0), .val (.int c1), .val (.int lb), .val (.int b0), .val (.int b1), .val (.int nu), .val (.ref fa), .val (.ref fb), .val (.ref s1), .val (.ref s2), .val (.ref vo13), .val (.ref str39), .val (.ref vo40), .val (.ref vo41), .val (.ref b42), .unset, .unset, .unset] [(.int (if (((p5.toUInt32 >>> ((27 : Int32) &&& 31).toUInt32).toInt32) &&& (1 : Int32)) = (0 : Int32) then (0 : Int32) else (1 : Int32))), (.ref vo41), (.ref vo40), (.int q2), (.int q1), (.ref fb), (.ref s2), (.ref b45), (.ref b45)]) D277_50 ?_
      obtain ⟨q3, q3_eq⟩ : ∃ z, z = (if (((p5.toUInt32 >>> ((27 : Int32) &&& 31).toUInt32).toInt32) &&& (1 : Int32)) = (0 : Int32) then (0 : Int32) else (1 : Int32)) := ⟨_, rfl⟩
      rw [← q3_eq]
      obtain ⟨_, _, ⟨T52, L52, k52, n52⟩, -, X52, ⟨Lc52, hQ52, l52, y52, z52⟩, st52⟩ := X45.specialBack hx (y := (⟨"com/example/forest_in_rows/forestinrows/CatalogColumn", "<init>", "(Ljava/lang/String;Lcom/example/forest_in_rows/forestinrows/CatalogColumn$Filling;ZZLjava/lang/String;Ljava/lang/String;Z)V"⟩ : MethodName)) rfl hown (mvT hZ (hw _ (List.mem_of_getElem? (i := 72) rfl))) (mvT hZ (hw _ (List.mem_of_getElem? (i := 73) rfl))) (mvT hZ (hw _ (List.mem_of_getElem? (i := 74) rfl))) (by decide) (backOf (W := 1) (rm_ccol l Z a0 hw [] b45 s2 fb vo40 vo41 q1 q2 q3 _ _ _ _ _ _ _ h45 n0 O F_type_b45 F_filling_b45 F_collatable_b45 F_sortable_b45 F_declaredType_b45 F_baseType_b45 F_baseTypeKeepsModifiers_b45 E_b45 g_b45) hZ (hw _ (List.mem_of_getElem? (i := 74) rfl)) (hw _ (List.mem_of_getElem? (i := 71) rfl)) (by decide) (by decide)) (g := (mkF m 285 #[.val (.int p0), .val (.int p1), .val (.int p2), .val (.int p3), .val (.int p4), .val (.int p5), .val (.int la), .val (.int c0), .val (.int c1), .val (.int lb), .val (.int b0), .val (.int b1), .val (.int nu), .val (.ref fa), .val (.ref fb), .val (.ref s1), .val (.ref s2), .val (.ref vo13), .val (.ref str39), .val (.ref vo40), .val (.ref vo41), .val (.ref b42), .unset, .unset, .unset] [(.int q3), (.ref vo41), (.ref vo40), (.int q2), (.int q1), (.ref fb), (.ref s2), (.ref b45), (.ref b45)])) rfl (by rw [hml]; rfl) (Steps.refl _) (a := b45) (argsL := [(.ref s2), (.ref fb), (.int q1), (.int q2), (.ref vo40), (.ref vo41), (.int q3)]) (rest := [(.ref b45)]) (lenOf pd_12 rfl) rfl (by show 2 * 0 + _ ≤ _; exact Nat.le_of_eq rfl) (hb hby at_285) (fun _ _ => ⟨rfl, e45, (by decide : 18 + 0 ≤ _), (by decide : 94 + 0 ≤ _)⟩)
      dsimp only [Pt.U, Pt.locs, Pt.cells, Pt.slots] at X52 l52 y52 z52 st52 hQ52
      subst l52 y52 z52
      obtain ⟨rfl, N52, K52, F_type_b45, F_filling_b45⟩ := hQ52
      have N52' := Fr.app N43' N52
      have C' := C.trans (CHr.keep K52 (sfS (Safe.exa hZ.alike E_b45 (by decide) (by decide)) sf0) C.1)
      replace C := C'
      replace E_s1 := E_s1.keep K52
      replace F_v1 := F_v1.keep K52 (ninS ne_s1_b45 (nin0))
      replace F_c1 := F_c1.keep K52 (ninS ne_s1_b45 (nin0))
      replace V_t1 := V_t1.keep K52 (ninS ne_t1_b45 (nin0))
      replace E_s2 := E_s2.keep K52
      replace F_v2 := F_v2.keep K52 (ninS ne_s2_b45 (nin0))
      replace F_c2 := F_c2.keep K52 (ninS ne_s2_b45 (nin0))
      replace V_t2 := V_t2.keep K52 (ninS ne_t2_b45 (nin0))
      replace E_vo13 := E_vo13.keep K52
      replace E_str39 := E_str39.keep K52
      replace F_coder_str39 := F_coder_str39.keep K52 (ninS ne_str39_b45 (nin0))
      replace F_value_str39 := F_value_str39.keep K52 (ninS ne_str39_b45 (nin0))
      replace V_sb39 := V_sb39.keep K52 (ninS ne_sb39_b45 (nin0))
      replace E_vo40 := E_vo40.keep K52
      replace E_vo41 := E_vo41.keep K52
      replace E_b42 := E_b42.keep K52
      replace F_type_b42 := F_type_b42.keep K52 (ninS ne_b42_b45 (nin0))
      replace F_filling_b42 := F_filling_b42.keep K52 (ninS ne_b42_b45 (nin0))
      replace E_b45 := E_b45.keep K52
      replace O := O.keep K52 (allS g_b45 all0)
      replace hk0 := Nat.le_trans hk0 K52.1
      refine Goes.to (T' := T52) (mkF m 288 #[.val (.int p0), .val (.int p1), .val (.int p2), .val (.int p3), .val (.int p4), .val (.int p5), .val (.int la), .val (.int c0), .val (.int c1), .val (.int lb), .val (.int b0), .val (.int b1), .val (.int nu), .val (.ref fa), .val (.ref fb), .val (.ref s1), .val (.ref s2), .val (.ref vo13), .val (.ref str39), .val (.ref vo40), .val (.ref vo41), .val (.ref b42), .unset, .unset, .unset] [(.ref b45)]) (fun t k => st52.trans k) ?_
      refine Goes.to (T' := T52) (mkF m 290 #[.val (.int p0), .val (.int p1), .val (.int p2), .val (.int p3), .val (.int p4), .val (.int p5), .val (.int la), .val (.int c0), .val (.int c1), .val (.int lb), .val (.int b0), .val (.int b1), .val (.int nu), .val (.ref fa), .val (.ref fb), .val (.ref s1), .val (.ref s2), .val (.ref vo13), .val (.ref str39), .val (.ref vo40), .val (.ref vo41), .val (.ref b42), .val (.ref b45), .unset, .unset] []) (fun t k => XS.astore X52.here hx rfl (hb hby at_288) rfl rfl (l' := #[.val (.int p0), .val (.int p1), .val (.int p2), .val (.int p3), .val (.int p4), .val (.int p5), .val (.int la), .val (.int c0), .val (.int c1), .val (.int lb), .val (.int b0), .val (.int b1), .val (.int nu), .val (.ref fa), .val (.ref fb), .val (.ref s1), .val (.ref s2), .val (.ref vo13), .val (.ref str39), .val (.ref vo40), .val (.ref vo41), .val (.ref b42), .val (.ref b45), .unset, .unset]) rfl k) ?_
      refine Goes.to (T' := T52) (mkF m 292 #[.val (.int p0), .val (.int p1), .val (.int p2), .val (.int p3), .val (.int p4), .val (.int p5), .val (.int la), .val (.int c0), .val (.int c1), .val (.int lb), .val (.int b0), .val (.int b1), .val (.int nu), .val (.ref fa), .val (.ref fb), .val (.ref s1), .val (.ref s2), .val (.ref vo13), .val (.ref str39), .val (.ref vo40), .val (.ref vo41), .val (.ref b42), .val (.ref b45), .unset, .unset] [(.int la)]) (fun t k => XS.iload X52.here hx rfl (hb hby at_290) rfl k) ?_
      refine Goes.to (T' := T52) (mkF m 294 #[.val (.int p0), .val (.int p1), .val (.int p2), .val (.int p3), .val (.int p4), .val (.int p5), .val (.int la), .val (.int c0), .val (.int c1), .val (.int lb), .val (.int b0), .val (.int b1), .val (.int nu), .val (.ref fa), .val (.ref fb), .val (.ref s1), .val (.ref s2), .val (.ref vo13), .val (.ref str39), .val (.ref vo40), .val (.ref vo41), .val (.ref b42), .val (.ref b45), .unset, .unset] [(.int lb), (.int la)]) (fun t k => XS.iload X52.here hx rfl (hb hby at_292) rfl k) ?_
      have D294_53 : ∀ t, Steps p.tables e below (T52.setTop (mkF m 328 #[.val (.int p0), .val (.int p1), .val (.int p2), .val (.int p3), .val (.int p4), .val (.int p5), .val (.int la), .val (.int c0), .val (.int c1), .val (.int lb), .val (.int b0), .val (.int b1), .val (.int nu), .val (.ref fa), .val (.ref fb), .val (.ref s1), .val (.ref s2), .val (.ref vo13), .val (.ref str39), .val (.ref vo40), .val (.ref vo41), .val (.ref b42), .val (.ref b45), .unset, .unset] [(.int (if la = lb then (if la < (1 : Int32) then (if la < (2 : Int32) then (1 : Int32) else (if c1 = b1 then (1 : Int32) else (0 : Int32))) else (if c0 = b0 then (if la < (2 : Int32) then (1 : Int32) else (if c1 = b1 then (1 : Int32) else (0 : Int32))) else (0 : Int32))) else (0 : Int32)))])) t → Steps p.tables e below (T52.setTop (mkF m 294 #[.val (.int p0), .val (.int p1), .val (.int p2), .val (.int p3), .val (.int p4), .val (.int p5), .val (.int la), .val (.int c0), .val (.int c1), .val (.int lb), .val (.int b0), .val (.int b1), .val (.int nu), .val (.ref fa), .val (.ref fb), .val (.ref s1), .val (.ref s2), .val (.ref vo13), .val (.ref str39), .val (.ref vo40), .val (.ref vo41), .val (.ref b42), .val (.ref b45), .unset, .unset] [(.int lb), (.int la)])) t := by
        intro t k
        by_cases hq : la = lb
        · simp only [if_pos hq] at k
          refine XS.icmpNo X52.here hx rfl (hb hby at_294) rfl (teq hq).2 ?_
          show Steps p.tables e below (T52.setTop (mkF m 297 #[.val (.int p0), .val (.int p1), .val (.int p2), .val (.int p3), .val (.int p4), .val (.int p5), .val (.int la), .val (.int c0), .val (.int c1), .val (.int lb), .val (.int b0), .val (.int b1), .val (.int nu), .val (.ref fa), .val (.ref fb), .val (.ref s1), .val (.ref s2), .val (.ref vo13), .val (.ref str39), .val (.ref vo40), .val (.ref vo41), .val (.ref b42), .val (.ref b45), .unset, .unset] [])) _
          refine XS.iload X52.here hx rfl (hb hby at_297) rfl ?_
          show Steps p.tables e below (T52.setTop (mkF m 299 #[.val (.int p0), .val (.int p1), .val (.int p2), .val (.int p3), .val (.int p4), .val (.int p5), .val (.int la), .val (.int c0), .val (.int c1), .val (.int lb), .val (.int b0), .val (.int b1), .val (.int nu), .val (.ref fa), .val (.ref fb), .val (.ref s1), .val (.ref s2), .val (.ref vo13), .val (.ref str39), .val (.ref vo40), .val (.ref vo41), .val (.ref b42), .val (.ref b45), .unset, .unset] [(.int la)])) _
          refine XS.iconst X52.here hx rfl (hb hby at_299) ?_
          show Steps p.tables e below (T52.setTop (mkF m 300 #[.val (.int p0), .val (.int p1), .val (.int p2), .val (.int p3), .val (.int p4), .val (.int p5), .val (.int la), .val (.int c0), .val (.int c1), .val (.int lb), .val (.int b0), .val (.int b1), .val (.int nu), .val (.ref fa), .val (.ref fb), .val (.ref s1), .val (.ref s2), .val (.ref vo13), .val (.ref str39), .val (.ref vo40), .val (.ref vo41), .val (.ref b42), .val (.ref b45), .unset, .unset] [(.int (1 : Int32)), (.int la)])) _
          by_cases hq : la < (1 : Int32)
          · simp only [if_pos hq] at k
            refine XS.icmpYes X52.here hx rfl (pc0 := 300) (pc' := 310) rfl (hb hby at_300) rfl (tlt hq).1 (by decide) (by decide) ?_
            show Steps p.tables e below (T52.setTop (mkF m 310 #[.val (.int p0), .val (.int p1), .val (.int p2), .val (.int p3), .val (.int p4), .val (.int p5), .val (.int la), .val (.int c0), .val (.int c1), .val (.int lb), .val (.int b0), .val (.int b1), .val (.int nu), .val (.ref fa), .val (.ref fb), .val (.ref s1), .val (.ref s2), .val (.ref vo13), .val (.ref str39), .val (.ref vo40), .val (.ref vo41), .val (.ref b42), .val (.ref b45), .unset, .unset] [])) _
            refine XS.iload X52.here hx rfl (hb hby at_310) rfl ?_
            show Steps p.tables e below (T52.setTop (mkF m 312 #[.val (.int p0), .val (.int p1), .val (.int p2), .val (.int p3), .val (.int p4), .val (.int p5), .val (.int la), .val (.int c0), .val (.int c1), .val (.int lb), .val (.int b0), .val (.int b1), .val (.int nu), .val (.ref fa), .val (.ref fb), .val (.ref s1), .val (.ref s2), .val (.ref vo13), .val (.ref str39), .val (.ref vo40), .val (.ref vo41), .val (.ref b42), .val (.ref b45), .unset, .unset] [(.int la)])) _
            refine XS.iconst X52.here hx rfl (hb hby at_312) ?_
            show Steps p.tables e below (T52.setTop (mkF m 313 #[.val (.int p0), .val (.int p1), .val (.int p2), .val (.int p3), .val (.int p4), .val (.int p5), .val (.int la), .val (.int c0), .val (.int c1), .val (.int lb), .val (.int b0), .val (.int b1), .val (.int nu), .val (.ref fa), .val (.ref fb), .val (.ref s1), .val (.ref s2), .val (.ref vo13), .val (.ref str39), .val (.ref vo40), .val (.ref vo41), .val (.ref b42), .val (.ref b45), .unset, .unset] [(.int (2 : Int32)), (.int la)])) _
            by_cases hq : la < (2 : Int32)
            · simp only [if_pos hq] at k
              refine XS.icmpYes X52.here hx rfl (pc0 := 313) (pc' := 323) rfl (hb hby at_313) rfl (tlt hq).1 (by decide) (by decide) ?_
              show Steps p.tables e below (T52.setTop (mkF m 323 #[.val (.int p0), .val (.int p1), .val (.int p2), .val (.int p3), .val (.int p4), .val (.int p5), .val (.int la), .val (.int c0), .val (.int c1), .val (.int lb), .val (.int b0), .val (.int b1), .val (.int nu), .val (.ref fa), .val (.ref fb), .val (.ref s1), .val (.ref s2), .val (.ref vo13), .val (.ref str39), .val (.ref vo40), .val (.ref vo41), .val (.ref b42), .val (.ref b45), .unset, .unset] [])) _
              refine XS.iconst X52.here hx rfl (hb hby at_323) ?_
              show Steps p.tables e below (T52.setTop (mkF m 324 #[.val (.int p0), .val (.int p1), .val (.int p2), .val (.int p3), .val (.int p4), .val (.int p5), .val (.int la), .val (.int c0), .val (.int c1), .val (.int lb), .val (.int b0), .val (.int b1), .val (.int nu), .val (.ref fa), .val (.ref fb), .val (.ref s1), .val (.ref s2), .val (.ref vo13), .val (.ref str39), .val (.ref vo40), .val (.ref vo41), .val (.ref b42), .val (.ref b45), .unset, .unset] [(.int (1 : Int32))])) _
              refine XS.goto X52.here hx rfl (pc0 := 324) (pc' := 328) rfl (hb hby at_324) (by decide) (by decide) ?_
              show Steps p.tables e below (T52.setTop (mkF m 328 #[.val (.int p0), .val (.int p1), .val (.int p2), .val (.int p3), .val (.int p4), .val (.int p5), .val (.int la), .val (.int c0), .val (.int c1), .val (.int lb), .val (.int b0), .val (.int b1), .val (.int nu), .val (.ref fa), .val (.ref fb), .val (.ref s1), .val (.ref s2), .val (.ref vo13), .val (.ref str39), .val (.ref vo40), .val (.ref vo41), .val (.ref b42), .val (.ref b45), .unset, .unset] [(.int (1 : Int32))])) _
              exact k
            · simp only [if_neg hq] at k
              refine XS.icmpNo X52.here hx rfl (hb hby at_313) rfl (flt hq).1 ?_
              show Steps p.tables e below (T52.setTop (mkF m 316 #[.val (.int p0), .val (.int p1), .val (.int p2), .val (.int p3), .val (.int p4), .val (.int p5), .val (.int la), .val (.int c0), .val (.int c1), .val (.int lb), .val (.int b0), .val (.int b1), .val (.int nu), .val (.ref fa), .val (.ref fb), .val (.ref s1), .val (.ref s2), .val (.ref vo13), .val (.ref str39), .val (.ref vo40), .val (.ref vo41), .val (.ref b42), .val (.ref b45), .unset, .unset] [])) _
              refine XS.iload X52.here hx rfl (hb hby at_316) rfl ?_
              show Steps p.tables e below (T52.setTop (mkF m 318 #[.val (.int p0), .val (.int p1), .val (.int p2), .val (.int p3), .val (.int p4), .val (.int p5), .val (.int la), .val (.int c0), .val (.int c1), .val (.int lb), .val (.int b0), .val (.int b1), .val (.int nu), .val (.ref fa), .val (.ref fb), .val (.ref s1), .val (.ref s2), .val (.ref vo13), .val (.ref str39), .val (.ref vo40), .val (.ref vo41), .val (.ref b42), .val (.ref b45), .unset, .unset] [(.int c1)])) _
              refine XS.iload X52.here hx rfl (hb hby at_318) rfl ?_
              show Steps p.tables e below (T52.setTop (mkF m 320 #[.val (.int p0), .val (.int p1), .val (.int p2), .val (.int p3), .val (.int p4), .val (.int p5), .val (.int la), .val (.int c0), .val (.int c1), .val (.int lb), .val (.int b0), .val (.int b1), .val (.int nu), .val (.ref fa), .val (.ref fb), .val (.ref s1), .val (.ref s2), .val (.ref vo13), .val (.ref str39), .val (.ref vo40), .val (.ref vo41), .val (.ref b42), .val (.ref b45), .unset, .unset] [(.int b1), (.int c1)])) _
              by_cases hq : c1 = b1
              · simp only [if_pos hq] at k
                refine XS.icmpNo X52.here hx rfl (hb hby at_320) rfl (teq hq).2 ?_
                show Steps p.tables e below (T52.setTop (mkF m 323 #[.val (.int p0), .val (.int p1), .val (.int p2), .val (.int p3), .val (.int p4), .val (.int p5), .val (.int la), .val (.int c0), .val (.int c1), .val (.int lb), .val (.int b0), .val (.int b1), .val (.int nu), .val (.ref fa), .val (.ref fb), .val (.ref s1), .val (.ref s2), .val (.ref vo13), .val (.ref str39), .val (.ref vo40), .val (.ref vo41), .val (.ref b42), .val (.ref b45), .unset, .unset] [])) _
                refine XS.iconst X52.here hx rfl (hb hby at_323) ?_
                show Steps p.tables e below (T52.setTop (mkF m 324 #[.val (.int p0), .val (.int p1), .val (.int p2), .val (.int p3), .val (.int p4), .val (.int p5), .val (.int la), .val (.int c0), .val (.int c1), .val (.int lb), .val (.int b0), .val (.int b1), .val (.int nu), .val (.ref fa), .val (.ref fb), .val (.ref s1), .val (.ref s2), .val (.ref vo13), .val (.ref str39), .val (.ref vo40), .val (.ref vo41), .val (.ref b42), .val (.ref b45), .unset, .unset] [(.int (1 : Int32))])) _
                refine XS.goto X52.here hx rfl (pc0 := 324) (pc' := 328) rfl (hb hby at_324) (by decide) (by decide) ?_
                show Steps p.tables e below (T52.setTop (mkF m 328 #[.val (.int p0), .val (.int p1), .val (.int p2), .val (.int p3), .val (.int p4), .val (.int p5), .val (.int la), .val (.int c0), .val (.int c1), .val (.int lb), .val (.int b0), .val (.int b1), .val (.int nu), .val (.ref fa), .val (.ref fb), .val (.ref s1), .val (.ref s2), .val (.ref vo13), .val (.ref str39), .val (.ref vo40), .val (.ref vo41), .val (.ref b42), .val (.ref b45), .unset, .unset] [(.int (1 : Int32))])) _
                exact k
              · simp only [if_neg hq] at k
                refine XS.icmpYes X52.here hx rfl (pc0 := 320) (pc' := 327) rfl (hb hby at_320) rfl (feq hq).2 (by decide) (by decide) ?_
                show Steps p.tables e below (T52.setTop (mkF m 327 #[.val (.int p0), .val (.int p1), .val (.int p2), .val (.int p3), .val (.int p4), .val (.int p5), .val (.int la), .val (.int c0), .val (.int c1), .val (.int lb), .val (.int b0), .val (.int b1), .val (.int nu), .val (.ref fa), .val (.ref fb), .val (.ref s1), .val (.ref s2), .val (.ref vo13), .val (.ref str39), .val (.ref vo40), .val (.ref vo41), .val (.ref b42), .val (.ref b45), .unset, .unset] [])) _
                refine XS.iconst X52.here hx rfl (hb hby at_327) ?_
                show Steps p.tables e below (T52.setTop (mkF m 328 #[.val (.int p0), .val (.int p1), .val (.int p2), .val (.int p3), .val (.int p4), .val (.int p5), .val (.int la), .val (.int c0), .val (.int c1), .val (.int lb), .val (.int b0), .val (.int b1), .val (.int nu), .val (.ref fa), .val (.ref fb), .val (.ref s1), .val (.ref s2), .val (.ref vo13), .val (.ref str39), .val (.ref vo40), .val (.ref vo41), .val (.ref b42), .val (.ref b45), .unset, .unset] [(.int (0 : Int32))])) _
                exact k
          · simp only [if_neg hq] at k
            refine XS.icmpNo X52.here hx rfl (hb hby at_300) rfl (flt hq).1 ?_
            show Steps p.tables e below (T52.setTop (mkF m 303 #[.val (.int p0), .val (.int p1), .val (.int p2), .val (.int p3), .val (.int p4), .val (.int p5), .val (.int la), .val (.int c0), .val (.int c1), .val (.int lb), .val (.int b0), .val (.int b1), .val (.int nu), .val (.ref fa), .val (.ref fb), .val (.ref s1), .val (.ref s2), .val (.ref vo13), .val (.ref str39), .val (.ref vo40), .val (.ref vo41), .val (.ref b42), .val (.ref b45), .unset, .unset] [])) _
            refine XS.iload X52.here hx rfl (hb hby at_303) rfl ?_
            show Steps p.tables e below (T52.setTop (mkF m 305 #[.val (.int p0), .val (.int p1), .val (.int p2), .val (.int p3), .val (.int p4), .val (.int p5), .val (.int la), .val (.int c0), .val (.int c1), .val (.int lb), .val (.int b0), .val (.int b1), .val (.int nu), .val (.ref fa), .val (.ref fb), .val (.ref s1), .val (.ref s2), .val (.ref vo13), .val (.ref str39), .val (.ref vo40), .val (.ref vo41), .val (.ref b42), .val (.ref b45), .unset, .unset] [(.int c0)])) _
            refine XS.iload X52.here hx rfl (hb hby at_305) rfl ?_
            show Steps p.tables e below (T52.setTop (mkF m 307 #[.val (.int p0), .val (.int p1), .val (.int p2), .val (.int p3), .val (.int p4), .val (.int p5), .val (.int la), .val (.int c0), .val (.int c1), .val (.int lb), .val (.int b0), .val (.int b1), .val (.int nu), .val (.ref fa), .val (.ref fb), .val (.ref s1), .val (.ref s2), .val (.ref vo13), .val (.ref str39), .val (.ref vo40), .val (.ref vo41), .val (.ref b42), .val (.ref b45), .unset, .unset] [(.int b0), (.int c0)])) _
            by_cases hq : c0 = b0
            · simp only [if_pos hq] at k
              refine XS.icmpNo X52.here hx rfl (hb hby at_307) rfl (teq hq).2 ?_
              show Steps p.tables e below (T52.setTop (mkF m 310 #[.val (.int p0), .val (.int p1), .val (.int p2), .val (.int p3), .val (.int p4), .val (.int p5), .val (.int la), .val (.int c0), .val (.int c1), .val (.int lb), .val (.int b0), .val (.int b1), .val (.int nu), .val (.ref fa), .val (.ref fb), .val (.ref s1), .val (.ref s2), .val (.ref vo13), .val (.ref str39), .val (.ref vo40), .val (.ref vo41), .val (.ref b42), .val (.ref b45), .unset, .unset] [])) _
              refine XS.iload X52.here hx rfl (hb hby at_310) rfl ?_
              show Steps p.tables e below (T52.setTop (mkF m 312 #[.val (.int p0), .val (.int p1), .val (.int p2), .val (.int p3), .val (.int p4), .val (.int p5), .val (.int la), .val (.int c0), .val (.int c1), .val (.int lb), .val (.int b0), .val (.int b1), .val (.int nu), .val (.ref fa), .val (.ref fb), .val (.ref s1), .val (.ref s2), .val (.ref vo13), .val (.ref str39), .val (.ref vo40), .val (.ref vo41), .val (.ref b42), .val (.ref b45), .unset, .unset] [(.int la)])) _
              refine XS.iconst X52.here hx rfl (hb hby at_312) ?_
              show Steps p.tables e below (T52.setTop (mkF m 313 #[.val (.int p0), .val (.int p1), .val (.int p2), .val (.int p3), .val (.int p4), .val (.int p5), .val (.int la), .val (.int c0), .val (.int c1), .val (.int lb), .val (.int b0), .val (.int b1), .val (.int nu), .val (.ref fa), .val (.ref fb), .val (.ref s1), .val (.ref s2), .val (.ref vo13), .val (.ref str39), .val (.ref vo40), .val (.ref vo41), .val (.ref b42), .val (.ref b45), .unset, .unset] [(.int (2 : Int32)), (.int la)])) _
              by_cases hq : la < (2 : Int32)
              · simp only [if_pos hq] at k
                refine XS.icmpYes X52.here hx rfl (pc0 := 313) (pc' := 323) rfl (hb hby at_313) rfl (tlt hq).1 (by decide) (by decide) ?_
                show Steps p.tables e below (T52.setTop (mkF m 323 #[.val (.int p0), .val (.int p1), .val (.int p2), .val (.int p3), .val (.int p4), .val (.int p5), .val (.int la), .val (.int c0), .val (.int c1), .val (.int lb), .val (.int b0), .val (.int b1), .val (.int nu), .val (.ref fa), .val (.ref fb), .val (.ref s1), .val (.ref s2), .val (.ref vo13), .val (.ref str39), .val (.ref vo40), .val (.ref vo41), .val (.ref b42), .val (.ref b45), .unset, .unset] [])) _
                refine XS.iconst X52.here hx rfl (hb hby at_323) ?_
                show Steps p.tables e below (T52.setTop (mkF m 324 #[.val (.int p0), .val (.int p1), .val (.int p2), .val (.int p3), .val (.int p4), .val (.int p5), .val (.int la), .val (.int c0), .val (.int c1), .val (.int lb), .val (.int b0), .val (.int b1), .val (.int nu), .val (.ref fa), .val (.ref fb), .val (.ref s1), .val (.ref s2), .val (.ref vo13), .val (.ref str39), .val (.ref vo40), .val (.ref vo41), .val (.ref b42), .val (.ref b45), .unset, .unset] [(.int (1 : Int32))])) _
                refine XS.goto X52.here hx rfl (pc0 := 324) (pc' := 328) rfl (hb hby at_324) (by decide) (by decide) ?_
                show Steps p.tables e below (T52.setTop (mkF m 328 #[.val (.int p0), .val (.int p1), .val (.int p2), .val (.int p3), .val (.int p4), .val (.int p5), .val (.int la), .val (.int c0), .val (.int c1), .val (.int lb), .val (.int b0), .val (.int b1), .val (.int nu), .val (.ref fa), .val (.ref fb), .val (.ref s1), .val (.ref s2), .val (.ref vo13), .val (.ref str39), .val (.ref vo40), .val (.ref vo41), .val (.ref b42), .val (.ref b45), .unset, .unset] [(.int (1 : Int32))])) _
                exact k
              · simp only [if_neg hq] at k
                refine XS.icmpNo X52.here hx rfl (hb hby at_313) rfl (flt hq).1 ?_
                show Steps p.tables e below (T52.setTop (mkF m 316 #[.val (.int p0), .val (.int p1), .val (.int p2), .val (.int p3), .val (.int p4), .val (.int p5), .val (.int la), .val (.int c0), .val (.int c1), .val (.int lb), .val (.int b0), .val (.int b1), .val (.int nu), .val (.ref fa), .val (.ref fb), .val (.ref s1), .val (.ref s2), .val (.ref vo13), .val (.ref str39), .val (.ref vo40), .val (.ref vo41), .val (.ref b42), .val (.ref b45), .unset, .unset] [])) _
                refine XS.iload X52.here hx rfl (hb hby at_316) rfl ?_
                show Steps p.tables e below (T52.setTop (mkF m 318 #[.val (.int p0), .val (.int p1), .val (.int p2), .val (.int p3), .val (.int p4), .val (.int p5), .val (.int la), .val (.int c0), .val (.int c1), .val (.int lb), .val (.int b0), .val (.int b1), .val (.int nu), .val (.ref fa), .val (.ref fb), .val (.ref s1), .val (.ref s2), .val (.ref vo13), .val (.ref str39), .val (.ref vo40), .val (.ref vo41), .val (.ref b42), .val (.ref b45), .unset, .unset] [(.int c1)])) _
                refine XS.iload X52.here hx rfl (hb hby at_318) rfl ?_
                show Steps p.tables e below (T52.setTop (mkF m 320 #[.val (.int p0), .val (.int p1), .val (.int p2), .val (.int p3), .val (.int p4), .val (.int p5), .val (.int la), .val (.int c0), .val (.int c1), .val (.int lb), .val (.int b0), .val (.int b1), .val (.int nu), .val (.ref fa), .val (.ref fb), .val (.ref s1), .val (.ref s2), .val (.ref vo13), .val (.ref str39), .val (.ref vo40), .val (.ref vo41), .val (.ref b42), .val (.ref b45), .unset, .unset] [(.int b1), (.int c1)])) _
                by_cases hq : c1 = b1
                · simp only [if_pos hq] at k
                  refine XS.icmpNo X52.here hx rfl (hb hby at_320) rfl (teq hq).2 ?_
                  show Steps p.tables e below (T52.setTop (mkF m 323 #[.val (.int p0), .val (.int p1), .val (.int p2), .val (.int p3), .val (.int p4), .val (.int p5), .val (.int la), .val (.int c0), .val (.int c1), .val (.int lb), .val (.int b0), .val (.int b1), .val (.int nu), .val (.ref fa), .val (.ref fb), .val (.ref s1), .val (.ref s2), .val (.ref vo13), .val (.ref str39), .val (.ref vo40), .val (.ref vo41), .val (.ref b42), .val (.ref b45), .unset, .unset] [])) _
                  refine XS.iconst X52.here hx rfl (hb hby at_323) ?_
                  show Steps p.tables e below (T52.setTop (mkF m 324 #[.val (.int p0), .val (.int p1), .val (.int p2), .val (.int p3), .val (.int p4), .val (.int p5), .val (.int la), .val (.int c0), .val (.int c1), .val (.int lb), .val (.int b0), .val (.int b1), .val (.int nu), .val (.ref fa), .val (.ref fb), .val (.ref s1), .val (.ref s2), .val (.ref vo13), .val (.ref str39), .val (.ref vo40), .val (.ref vo41), .val (.ref b42), .val (.ref b45), .unset, .unset] [(.int (1 : Int32))])) _
                  refine XS.goto X52.here hx rfl (pc0 := 324) (pc' := 328) rfl (hb hby at_324) (by decide) (by decide) ?_
                  show Steps p.tables e below (T52.setTop (mkF m 328 #[.val (.int p0), .val (.int p1), .val (.int p2), .val (.int p3), .val (.int p4), .val (.int p5), .val (.int la), .val (.int c0), .val (.int c1), .val (.int lb), .val (.int b0), .val (.int b1), .val (.int nu), .val (.ref fa), .val (.ref fb), .val (.ref s1), .val (.ref s2), .val (.ref vo13), .val (.ref str39), .val (.ref vo40), .val (.ref vo41), .val (.ref b42), .val (.ref b45), .unset, .unset] [(.int (1 : Int32))])) _
                  exact k
                · simp only [if_neg hq] at k
                  refine XS.icmpYes X52.here hx rfl (pc0 := 320) (pc' := 327) rfl (hb hby at_320) rfl (feq hq).2 (by decide) (by decide) ?_
                  show Steps p.tables e below (T52.setTop (mkF m 327 #[.val (.int p0), .val (.int p1), .val (.int p2), .val (.int p3), .val (.int p4), .val (.int p5), .val (.int la), .val (.int c0), .val (.int c1), .val (.int lb), .val (.int b0), .val (.int b1), .val (.int nu), .val (.ref fa), .val (.ref fb), .val (.ref s1), .val (.ref s2), .val (.ref vo13), .val (.ref str39), .val (.ref vo40), .val (.ref vo41), .val (.ref b42), .val (.ref b45), .unset, .unset] [])) _
                  refine XS.iconst X52.here hx rfl (hb hby at_327) ?_
                  show Steps p.tables e below (T52.setTop (mkF m 328 #[.val (.int p0), .val (.int p1), .val (.int p2), .val (.int p3), .val (.int p4), .val (.int p5), .val (.int la), .val (.int c0), .val (.int c1), .val (.int lb), .val (.int b0), .val (.int b1), .val (.int nu), .val (.ref fa), .val (.ref fb), .val (.ref s1), .val (.ref s2), .val (.ref vo13), .val (.ref str39), .val (.ref vo40), .val (.ref vo41), .val (.ref b42), .val (.ref b45), .unset, .unset] [(.int (0 : Int32))])) _
                  exact k
            · simp only [if_neg hq] at k
              refine XS.icmpYes X52.here hx rfl (pc0 := 307) (pc' := 327) rfl (hb hby at_307) rfl (feq hq).2 (by decide) (by decide) ?_
              show Steps p.tables e below (T52.setTop (mkF m 327 #[.val (.int p0), .val (.int p1), .val (.int p2), .val (.int p3), .val (.int p4), .val (.int p5), .val (.int la), .val (.int c0), .val (.int c1), .val (.int lb), .val (.int b0), .val (.int b1), .val (.int nu), .val (.ref fa), .val (.ref fb), .val (.ref s1), .val (.ref s2), .val (.ref vo13), .val (.ref str39), .val (.ref vo40), .val (.ref vo41), .val (.ref b42), .val (.ref b45), .unset, .unset] [])) _
              refine XS.iconst X52.here hx rfl (hb hby at_327) ?_
              show Steps p.tables e below (T52.setTop (mkF m 328 #[.val (.int p0), .val (.int p1), .val (.int p2), .val (.int p3), .val (.int p4), .val (.int p5), .val (.int la), .val (.int c0), .val (.int c1), .val (.int lb), .val (.int b0), .val (.int b1), .val (.int nu), .val (.ref fa), .val (.ref fb), .val (.ref s1), .val (.ref s2), .val (.ref vo13), .val (.ref str39), .val (.ref vo40), .val (.ref vo41), .val (.ref b42), .val (.ref b45), .unset, .unset] [(.int (0 : Int32))])) _
              exact k
        · simp only [if_neg hq] at k
          refine XS.icmpYes X52.here hx rfl (pc0 := 294) (pc' := 327) rfl (hb hby at_294) rfl (feq hq).2 (by decide) (by decide) ?_
          show Steps p.tables e below (T52.setTop (mkF m 327 #[.val (.int p0), .val (.int p1), .val (.int p2), .val (.int p3), .val (.int p4), .val (.int p5), .val (.int la), .val (.int c0), .val (.int c1), .val (.int lb), .val (.int b0), .val (.int b1), .val (.int nu), .val (.ref fa), .val (.ref fb), .val (.ref s1), .val (.ref s2), .val (.ref vo13), .val (.ref str39), .val (.ref vo40), .val (.ref vo41), .val (.ref b42), .val (.ref b45), .unset, .unset] [])) _
          refine XS.iconst X52.here hx rfl (hb hby at_327) ?_
          show Steps p.tables e below (T52.setTop (mkF m 328 #[.val (.int p0), .val (.int p1), .val (.int p2), .val (.int p3), .val (.int p4), .val (.int p5), .val (.int la), .val (.int c0), .val (.int c1), .val (.int lb), .val (.int b0), .val (.int b1), .val (.int nu), .val (.ref fa), .val (.ref fb), .val (.ref s1), .val (.ref s2), .val (.ref vo13), .val (.ref str39), .val (.ref vo40), .val (.ref vo41), .val (.ref b42), .val (.ref b45), .unset, .unset] [(.int (0 : Int32))])) _
          exact k
      refine Goes.to (T' := T52) (mkF m 328 #[.val (.int p0), .val (.int p1), .val (.int p2), .val (.int p3), .val (.int p4), .val (.int p5), .val (.int la), .val (.int c0), .val (.int c1), .val (.int lb), .val (.int b0), .val (.int b1), .val (.int nu), .val (.ref fa), .val (.ref fb), .val (.ref s1), .val (.ref s2), .val (.ref vo13), .val (.ref str39), .val (.ref vo40), .val (.ref vo41), .val (.ref b42), .val (.ref b45), .unset, .unset] [(.int (if la = lb then (if la < (1 : Int32) then (if la < (2 : Int32) then (1 : Int32) else (if c1 = b1 then (1 : Int32) else (0 : Int32))) else (if c0 = b0 then (if la < (2 : Int32) then (1 : Int32) else (if c1 = b1 then (1 : Int32) else (0 : Int32))) else (0 : Int32))) else (0 : Int32)))]) D294_53 ?_
      obtain ⟨sty, sty_eq⟩ : ∃ z, z = (if la = lb then (if la < (1 : Int32) then (if la < (2 : Int32) then (1 : Int32) else (if c1 = b1 then (1 : Int32) else (0 : Int32))) else (if c0 = b0 then (if la < (2 : Int32) then (1 : Int32) else (if c1 = b1 then (1 : Int32) else (0 : Int32))) else (0 : Int32))) else (0 : Int32)) := ⟨_, rfl⟩
      rw [← sty_eq]
      refine Goes.to (T' := T52) (mkF m 330 #[.val (.int p0), .val (.int p1), .val (.int p2), .val (.int p3), .val (.int p4), .val (.int p5), .val (.int la), .val (.int c0), .val (.int c1), .val (.int lb), .val (.int b0), .val (.int b1), .val (.int nu), .val (.ref fa), .val (.ref fb), .val (.ref s1), .val (.ref s2), .val (.ref vo13), .val (.ref str39), .val (.ref vo40), .val (.ref vo41), .val (.ref b42), .val (.ref b45), .val (.int sty), .unset] []) (fun t k => XS.istore X52.here hx rfl (hb hby at_328) rfl (l' := #[.val (.int p0), .val (.int p1), .val (.int p2), .val (.int p3), .val (.int p4), .val (.int p5), .val (.int la), .val (.int c0), .val (.int c1), .val (.int lb), .val (.int b0), .val (.int b1), .val (.int nu), .val (.ref fa), .val (.ref fb), .val (.ref s1), .val (.ref s2), .val (.ref vo13), .val (.ref str39), .val (.ref vo40), .val (.ref vo41), .val (.ref b42), .val (.ref b45), .val (.int sty), .unset]) rfl k) ?_
      refine Goes.to (T' := T52) (mkF m 332 #[.val (.int p0), .val (.int p1), .val (.int p2), .val (.int p3), .val (.int p4), .val (.int p5), .val (.int la), .val (.int c0), .val (.int c1), .val (.int lb), .val (.int b0), .val (.int b1), .val (.int nu), .val (.ref fa), .val (.ref fb), .val (.ref s1), .val (.ref s2), .val (.ref vo13), .val (.ref str39), .val (.ref vo40), .val (.ref vo41), .val (.ref b42), .val (.ref b45), .val (.int sty), .unset] [(.int nu)]) (fun t k => XS.iload X52.here hx rfl (hb hby at_330) rfl k) ?_
      refine Goes.to (T' := T52) (mkF m 335 #[.val (.int p0), .val (.int p1), .val (.int p2), .val (.int p3), .val (.int p4), .val (.int p5), .val (.int la), .val (.int c0), .val (.int c1), .val (.int lb), .val (.int b0), .val (.int b1), .val (.int nu), .val (.ref fa), .val (.ref fb), .val (.ref s1), .val (.ref s2), .val (.ref vo13), .val (.ref str39), .val (.ref vo40), .val (.ref vo41), .val (.ref b42), .val (.ref b45), .val (.int sty), .unset] []) (fun t k => XS.ifNo X52.here hx rfl (hb hby at_332) rfl ((if0 _ _).trans (teq (hc221_44 : nu = (0 : Int32))).2) k) ?_
      refine Goes.to (T' := T52) (mkF m 337 #[.val (.int p0), .val (.int p1), .val (.int p2), .val (.int p3), .val (.int p4), .val (.int p5), .val (.int la), .val (.int c0), .val (.int c1), .val (.int lb), .val (.int b0), .val (.int b1), .val (.int nu), .val (.ref fa), .val (.ref fb), .val (.ref s1), .val (.ref s2), .val (.ref vo13), .val (.ref str39), .val (.ref vo40), .val (.ref vo41), .val (.ref b42), .val (.ref b45), .val (.int sty), .unset] [(.int sty)]) (fun t k => XS.iload X52.here hx rfl (hb hby at_335) rfl k) ?_
      by_cases hc337_55 : sty = (0 : Int32)
      · refine Goes.to (T' := T52) (mkF m 351 #[.val (.int p0), .val (.int p1), .val (.int p2), .val (.int p3), .val (.int p4), .val (.int p5), .val (.int la), .val (.int c0), .val (.int c1), .val (.int lb), .val (.int b0), .val (.int b1), .val (.int nu), .val (.ref fa), .val (.ref fb), .val (.ref s1), .val (.ref s2), .val (.ref vo13), .val (.ref str39), .val (.ref vo40), .val (.ref vo41), .val (.ref b42), .val (.ref b45), .val (.int sty), .unset] []) (fun t k => XS.ifYes X52.here hx rfl (pc0 := 337) (pc' := 351) rfl (hb hby at_337) rfl ((if0 _ _).trans (teq hc337_55).1) (by decide) (by decide) k) ?_
        refine Goes.to (T' := T52) (mkF m 352 #[.val (.int p0), .val (.int p1), .val (.int p2), .val (.int p3), .val (.int p4), .val (.int p5), .val (.int la), .val (.int c0), .val (.int c1), .val (.int lb), .val (.int b0), .val (.int b1), .val (.int nu), .val (.ref fa), .val (.ref fb), .val (.ref s1), .val (.ref s2), .val (.ref vo13), .val (.ref str39), .val (.ref vo40), .val (.ref vo41), .val (.ref b42), .val (.ref b45), .val (.int sty), .unset] [(.int (0 : Int32))]) (fun t k => XS.iconst X52.here hx rfl (hb hby at_351) k) ?_
        refine Goes.to (T' := T52) (mkF m 354 #[.val (.int p0), .val (.int p1), .val (.int p2), .val (.int p3), .val (.int p4), .val (.int p5), .val (.int la), .val (.int c0), .val (.int c1), .val (.int lb), .val (.int b0), .val (.int b1), .val (.int nu), .val (.ref fa), .val (.ref fb), .val (.ref s1), .val (.ref s2), .val (.ref vo13), .val (.ref str39), .val (.ref vo40), .val (.ref vo41), .val (.ref b42), .val (.ref b45), .val (.int sty), .val (.int (0 : Int32))] []) (fun t k => XS.istore X52.here hx rfl (hb hby at_352) rfl (l' := #[.val (.int p0), .val (.int p1), .val (.int p2), .val (.int p3), .val (.int p4), .val (.int p5), .val (.int la), .val (.int c0), .val (.int c1), .val (.int lb), .val (.int b0), .val (.int b1), .val (.int nu), .val (.ref fa), .val (.ref fb), .val (.ref s1), .val (.ref s2), .val (.ref vo13), .val (.ref str39), .val (.ref vo40), .val (.ref vo41), .val (.ref b42), .val (.ref b45), .val (.int sty), .val (.int (0 : Int32))]) rfl k) ?_
        refine Goes.to (T' := T52) (mkF m 356 #[.val (.int p0), .val (.int p1), .val (.int p2), .val (.int p3), .val (.int p4), .val (.int p5), .val (.int la), .val (.int c0), .val (.int c1), .val (.int lb), .val (.int b0), .val (.int b1), .val (.int nu), .val (.ref fa), .val (.ref fb), .val (.ref s1), .val (.ref s2), .val (.ref vo13), .val (.ref str39), .val (.ref vo40), .val (.ref vo41), .val (.ref b42), .val (.ref b45), .val (.int sty), .val (.int (0 : Int32))] [(.ref b42)]) (fun t k => XS.aload X52.here hx rfl (hb hby at_354) rfl rfl k) ?_
        refine Goes.to (T' := T52) (mkF m 358 #[.val (.int p0), .val (.int p1), .val (.int p2), .val (.int p3), .val (.int p4), .val (.int p5), .val (.int la), .val (.int c0), .val (.int c1), .val (.int lb), .val (.int b0), .val (.int b1), .val (.int nu), .val (.ref fa), .val (.ref fb), .val (.ref s1), .val (.ref s2), .val (.ref vo13), .val (.ref str39), .val (.ref vo40), .val (.ref vo41), .val (.ref b42), .val (.ref b45), .val (.int sty), .val (.int (0 : Int32))] [(.ref b45), (.ref b42)]) (fun t k => XS.aload X52.here hx rfl (hb hby at_356) rfl rfl k) ?_
        obtain ⟨cq56, kq56, q56a, q56b, q56c⟩ := isOf hZ rfl E_b42
        obtain ⟨_, _, ⟨T56, L56, k56, n56⟩, -, X56, ⟨Lc56, hQ56, l56, y56, z56⟩, st56⟩ := X52.virtualBack hx (y := (⟨"com/example/forest_in_rows/forestinrows/Installation$OwnColumnDefinition", "standsAs", "(Lcom/example/forest_in_rows/forestinrows/CatalogColumn;)Z"⟩ : MethodName)) (z := (⟨"com/example/forest_in_rows/forestinrows/Installation$OwnColumnDefinition", "standsAs", "(Lcom/example/forest_in_rows/forestinrows/CatalogColumn;)Z"⟩ : MethodName)) hown (mvT hZ (hw _ (List.mem_of_getElem? (i := 62) rfl))) (mvT hZ (hw _ (List.mem_of_getElem? (i := 63) rfl))) (notFace_of_selects (args := #[]) (mvT hZ (hw _ (List.mem_of_getElem? (i := 65) rfl)))) (mvT hZ (hw _ (List.mem_of_getElem? (i := 65) rfl))) (mvT hZ (hw _ (List.mem_of_getElem? (i := 64) rfl))) (by decide) (backOf (W := 0) (rm_saS l Z a0 hw [] b42 b45 s1 t1 s2 t2 fa fb k1 k2 m1 m2 cz vs1 vs2 _ _ T52.heap n0 O F_type_b42 F_filling_b42 F_type_b45 F_filling_b45 E_b42 E_b45 E_s1 F_v1 F_c1 V_t1 hcd1 (own_csb ha0 ha1) (own_csl _ _ _) E_s2 F_v2 F_c2 V_t2 hcd2 (own_csb hb0 hb1) (own_csl _ _ _) S_CS hcz) hZ (hw _ (List.mem_of_getElem? (i := 66) rfl)) (hw _ (List.mem_of_getElem? (i := 44) rfl)) (by decide) (by decide)) q56a q56c (g := (mkF m 358 #[.val (.int p0), .val (.int p1), .val (.int p2), .val (.int p3), .val (.int p4), .val (.int p5), .val (.int la), .val (.int c0), .val (.int c1), .val (.int lb), .val (.int b0), .val (.int b1), .val (.int nu), .val (.ref fa), .val (.ref fb), .val (.ref s1), .val (.ref s2), .val (.ref vo13), .val (.ref str39), .val (.ref vo40), .val (.ref vo41), .val (.ref b42), .val (.ref b45), .val (.int sty), .val (.int (0 : Int32))] [(.ref b45), (.ref b42)])) rfl (by rw [hml]; rfl) (Steps.refl _) (argsL := [(.ref b45)]) (rest := []) (lenOf pd_13 rfl) rfl (by show 2 * 0 + _ ≤ _; exact Nat.le_of_eq rfl) (hb hby at_358) (fun _ _ => ⟨rfl, rfl, (by decide : 18 + 0 ≤ _), (by decide : 94 + 0 ≤ _)⟩)
        dsimp only [Pt.U, Pt.locs, Pt.cells, Pt.slots] at X56 l56 y56 z56 st56 hQ56
        subst l56 y56 z56
        obtain ⟨rfl, N56, hs56⟩ := hQ56
        have N56' := Fr.app N52' N56
        refine Goes.to (T' := T56) (mkF m 361 #[.val (.int p0), .val (.int p1), .val (.int p2), .val (.int p3), .val (.int p4), .val (.int p5), .val (.int la), .val (.int c0), .val (.int c1), .val (.int lb), .val (.int b0), .val (.int b1), .val (.int nu), .val (.ref fa), .val (.ref fb), .val (.ref s1), .val (.ref s2), .val (.ref vo13), .val (.ref str39), .val (.ref vo40), .val (.ref vo41), .val (.ref b42), .val (.ref b45), .val (.int sty), .val (.int (0 : Int32))] [(.int (bit (own_cs lb b0 b1 = own_cs la c0 c1 ∧ fb = fa)))]) (fun t k => st56.trans k) ?_
        refine Goes.to (T' := T56) (mkF m 363 #[.val (.int p0), .val (.int p1), .val (.int p2), .val (.int p3), .val (.int p4), .val (.int p5), .val (.int la), .val (.int c0), .val (.int c1), .val (.int lb), .val (.int b0), .val (.int b1), .val (.int nu), .val (.ref fa), .val (.ref fb), .val (.ref s1), .val (.ref s2), .val (.ref vo13), .val (.ref str39), .val (.ref vo40), .val (.ref vo41), .val (.ref b42), .val (.ref b45), .val (.int sty), .val (.int (0 : Int32))] [(.int (0 : Int32)), (.int (bit (own_cs lb b0 b1 = own_cs la c0 c1 ∧ fb = fa)))]) (fun t k => XS.iload X56.here hx rfl (hb hby at_361) rfl k) ?_
        refine Goes.to (T' := T56) (mkF m 366 #[.val (.int p0), .val (.int p1), .val (.int p2), .val (.int p3), .val (.int p4), .val (.int p5), .val (.int la), .val (.int c0), .val (.int c1), .val (.int lb), .val (.int b0), .val (.int b1), .val (.int nu), .val (.ref fa), .val (.ref fb), .val (.ref s1), .val (.ref s2), .val (.ref vo13), .val (.ref str39), .val (.ref vo40), .val (.ref vo41), .val (.ref b42), .val (.ref b45), .val (.int sty), .val (.int (0 : Int32))] []) (fun t k => XS.icmpNo X56.here hx rfl (hb hby at_363) rfl (teq (bit_f (fun q => own_st0 (own_same hla hlb sty_eq) hc337_55 q.1) : (bit (own_cs lb b0 b1 = own_cs la c0 c1 ∧ fb = fa)) = (0 : Int32))).2 k) ?_
        refine Goes.to (T' := T56) (mkF m 367 #[.val (.int p0), .val (.int p1), .val (.int p2), .val (.int p3), .val (.int p4), .val (.int p5), .val (.int la), .val (.int c0), .val (.int c1), .val (.int lb), .val (.int b0), .val (.int b1), .val (.int nu), .val (.ref fa), .val (.ref fb), .val (.ref s1), .val (.ref s2), .val (.ref vo13), .val (.ref str39), .val (.ref vo40), .val (.ref vo41), .val (.ref b42), .val (.ref b45), .val (.int sty), .val (.int (0 : Int32))] [(.int (1 : Int32))]) (fun t k => XS.iconst X56.here hx rfl (hb hby at_366) k) ?_
        refine Goes.to (T' := T56) (mkF m 371 #[.val (.int p0), .val (.int p1), .val (.int p2), .val (.int p3), .val (.int p4), .val (.int p5), .val (.int la), .val (.int c0), .val (.int c1), .val (.int lb), .val (.int b0), .val (.int b1), .val (.int nu), .val (.ref fa), .val (.ref fb), .val (.ref s1), .val (.ref s2), .val (.ref vo13), .val (.ref str39), .val (.ref vo40), .val (.ref vo41), .val (.ref b42), .val (.ref b45), .val (.int sty), .val (.int (0 : Int32))] [(.int (1 : Int32))]) (fun t k => XS.goto X56.here hx rfl (pc0 := 367) (pc' := 371) rfl (hb hby at_367) (by decide) (by decide) k) ?_
        refine Goes.retNW X56 hx Bd.notSynchronized hS0 (by rw [hs56]; exact hk0) (t := .boolean) Bd.returns (by simp) (hb hby at_371) (by decide) (by decide) ?_
        rw [hs56]
        exact ⟨rfl, N56'⟩
      · refine Goes.to (T' := T52) (mkF m 340 #[.val (.int p0), .val (.int p1), .val (.int p2), .val (.int p3), .val (.int p4), .val (.int p5), .val (.int la), .val (.int c0), .val (.int c1), .val (.int lb), .val (.int b0), .val (.int b1), .val (.int nu), .val (.ref fa), .val (.ref fb), .val (.ref s1), .val (.ref s2), .val (.ref vo13), .val (.ref str39), .val (.ref vo40), .val (.ref vo41), .val (.ref b42), .val (.ref b45), .val (.int sty), .unset] []) (fun t k => XS.ifNo X52.here hx rfl (hb hby at_337) rfl ((if0 _ _).trans (feq hc337_55).1) k) ?_
        refine Goes.to (T' := T52) (mkF m 342 #[.val (.int p0), .val (.int p1), .val (.int p2), .val (.int p3), .val (.int p4), .val (.int p5), .val (.int la), .val (.int c0), .val (.int c1), .val (.int lb), .val (.int b0), .val (.int b1), .val (.int nu), .val (.ref fa), .val (.ref fb), .val (.ref s1), .val (.ref s2), .val (.ref vo13), .val (.ref str39), .val (.ref vo40), .val (.ref vo41), .val (.ref b42), .val (.ref b45), .val (.int sty), .unset] [(.ref fa)]) (fun t k => XS.aload X52.here hx rfl (hb hby at_340) rfl rfl k) ?_
        refine Goes.to (T' := T52) (mkF m 344 #[.val (.int p0), .val (.int p1), .val (.int p2), .val (.int p3), .val (.int p4), .val (.int p5), .val (.int la), .val (.int c0), .val (.int c1), .val (.int lb), .val (.int b0), .val (.int b1), .val (.int nu), .val (.ref fa), .val (.ref fb), .val (.ref s1), .val (.ref s2), .val (.ref vo13), .val (.ref str39), .val (.ref vo40), .val (.ref vo41), .val (.ref b42), .val (.ref b45), .val (.int sty), .unset] [(.ref fb), (.ref fa)]) (fun t k => XS.aload X52.here hx rfl (hb hby at_342) rfl rfl k) ?_
        by_cases ha344_57 : fa = fb
        · refine Goes.to (T' := T52) (mkF m 347 #[.val (.int p0), .val (.int p1), .val (.int p2), .val (.int p3), .val (.int p4), .val (.int p5), .val (.int la), .val (.int c0), .val (.int c1), .val (.int lb), .val (.int b0), .val (.int b1), .val (.int nu), .val (.ref fa), .val (.ref fb), .val (.ref s1), .val (.ref s2), .val (.ref vo13), .val (.ref str39), .val (.ref vo40), .val (.ref vo41), .val (.ref b42), .val (.ref b45), .val (.int sty), .unset] []) (fun t k => Jvm.RoadKit.acmp (g := (mkF m 344 #[.val (.int p0), .val (.int p1), .val (.int p2), .val (.int p3), .val (.int p4), .val (.int p5), .val (.int la), .val (.int c0), .val (.int c1), .val (.int lb), .val (.int b0), .val (.int b1), .val (.int nu), .val (.ref fa), .val (.ref fb), .val (.ref s1), .val (.ref s2), .val (.ref vo13), .val (.ref str39), .val (.ref vo40), .val (.ref vo41), .val (.ref b42), .val (.ref b45), .val (.int sty), .unset] [(.ref fb), (.ref fa)])) X52 hx rfl rfl rfl (pc0 := 344) (pc' := 347) (same := true) rfl (hb hby at_344) rfl (decide_eq_true (congrArg Value.ref ha344_57)) (by decide) (by decide) k) ?_
          refine Goes.to (T' := T52) (mkF m 348 #[.val (.int p0), .val (.int p1), .val (.int p2), .val (.int p3), .val (.int p4), .val (.int p5), .val (.int la), .val (.int c0), .val (.int c1), .val (.int lb), .val (.int b0), .val (.int b1), .val (.int nu), .val (.ref fa), .val (.ref fb), .val (.ref s1), .val (.ref s2), .val (.ref vo13), .val (.ref str39), .val (.ref vo40), .val (.ref vo41), .val (.ref b42), .val (.ref b45), .val (.int sty), .unset] [(.int (1 : Int32))]) (fun t k => XS.iconst X52.here hx rfl (hb hby at_347) k) ?_
          refine Goes.to (T' := T52) (mkF m 352 #[.val (.int p0), .val (.int p1), .val (.int p2), .val (.int p3), .val (.int p4), .val (.int p5), .val (.int la), .val (.int c0), .val (.int c1), .val (.int lb), .val (.int b0), .val (.int b1), .val (.int nu), .val (.ref fa), .val (.ref fb), .val (.ref s1), .val (.ref s2), .val (.ref vo13), .val (.ref str39), .val (.ref vo40), .val (.ref vo41), .val (.ref b42), .val (.ref b45), .val (.int sty), .unset] [(.int (1 : Int32))]) (fun t k => XS.goto X52.here hx rfl (pc0 := 348) (pc' := 352) rfl (hb hby at_348) (by decide) (by decide) k) ?_
          refine Goes.to (T' := T52) (mkF m 354 #[.val (.int p0), .val (.int p1), .val (.int p2), .val (.int p3), .val (.int p4), .val (.int p5), .val (.int la), .val (.int c0), .val (.int c1), .val (.int lb), .val (.int b0), .val (.int b1), .val (.int nu), .val (.ref fa), .val (.ref fb), .val (.ref s1), .val (.ref s2), .val (.ref vo13), .val (.ref str39), .val (.ref vo40), .val (.ref vo41), .val (.ref b42), .val (.ref b45), .val (.int sty), .val (.int (1 : Int32))] []) (fun t k => XS.istore X52.here hx rfl (hb hby at_352) rfl (l' := #[.val (.int p0), .val (.int p1), .val (.int p2), .val (.int p3), .val (.int p4), .val (.int p5), .val (.int la), .val (.int c0), .val (.int c1), .val (.int lb), .val (.int b0), .val (.int b1), .val (.int nu), .val (.ref fa), .val (.ref fb), .val (.ref s1), .val (.ref s2), .val (.ref vo13), .val (.ref str39), .val (.ref vo40), .val (.ref vo41), .val (.ref b42), .val (.ref b45), .val (.int sty), .val (.int (1 : Int32))]) rfl k) ?_
          refine Goes.to (T' := T52) (mkF m 356 #[.val (.int p0), .val (.int p1), .val (.int p2), .val (.int p3), .val (.int p4), .val (.int p5), .val (.int la), .val (.int c0), .val (.int c1), .val (.int lb), .val (.int b0), .val (.int b1), .val (.int nu), .val (.ref fa), .val (.ref fb), .val (.ref s1), .val (.ref s2), .val (.ref vo13), .val (.ref str39), .val (.ref vo40), .val (.ref vo41), .val (.ref b42), .val (.ref b45), .val (.int sty), .val (.int (1 : Int32))] [(.ref b42)]) (fun t k => XS.aload X52.here hx rfl (hb hby at_354) rfl rfl k) ?_
          refine Goes.to (T' := T52) (mkF m 358 #[.val (.int p0), .val (.int p1), .val (.int p2), .val (.int p3), .val (.int p4), .val (.int p5), .val (.int la), .val (.int c0), .val (.int c1), .val (.int lb), .val (.int b0), .val (.int b1), .val (.int nu), .val (.ref fa), .val (.ref fb), .val (.ref s1), .val (.ref s2), .val (.ref vo13), .val (.ref str39), .val (.ref vo40), .val (.ref vo41), .val (.ref b42), .val (.ref b45), .val (.int sty), .val (.int (1 : Int32))] [(.ref b45), (.ref b42)]) (fun t k => XS.aload X52.here hx rfl (hb hby at_356) rfl rfl k) ?_
          obtain ⟨cq58, kq58, q58a, q58b, q58c⟩ := isOf hZ rfl E_b42
          obtain ⟨_, _, ⟨T58, L58, k58, n58⟩, -, X58, ⟨Lc58, hQ58, l58, y58, z58⟩, st58⟩ := X52.virtualBack hx (y := (⟨"com/example/forest_in_rows/forestinrows/Installation$OwnColumnDefinition", "standsAs", "(Lcom/example/forest_in_rows/forestinrows/CatalogColumn;)Z"⟩ : MethodName)) (z := (⟨"com/example/forest_in_rows/forestinrows/Installation$OwnColumnDefinition", "standsAs", "(Lcom/example/forest_in_rows/forestinrows/CatalogColumn;)Z"⟩ : MethodName)) hown (mvT hZ (hw _ (List.mem_of_getElem? (i := 62) rfl))) (mvT hZ (hw _ (List.mem_of_getElem? (i := 63) rfl))) (notFace_of_selects (args := #[]) (mvT hZ (hw _ (List.mem_of_getElem? (i := 65) rfl)))) (mvT hZ (hw _ (List.mem_of_getElem? (i := 65) rfl))) (mvT hZ (hw _ (List.mem_of_getElem? (i := 64) rfl))) (by decide) (backOf (W := 0) (rm_saS l Z a0 hw [] b42 b45 s1 t1 s2 t2 fa fb k1 k2 m1 m2 cz vs1 vs2 _ _ T52.heap n0 O F_type_b42 F_filling_b42 F_type_b45 F_filling_b45 E_b42 E_b45 E_s1 F_v1 F_c1 V_t1 hcd1 (own_csb ha0 ha1) (own_csl _ _ _) E_s2 F_v2 F_c2 V_t2 hcd2 (own_csb hb0 hb1) (own_csl _ _ _) S_CS hcz) hZ (hw _ (List.mem_of_getElem? (i := 66) rfl)) (hw _ (List.mem_of_getElem? (i := 44) rfl)) (by decide) (by decide)) q58a q58c (g := (mkF m 358 #[.val (.int p0), .val (.int p1), .val (.int p2), .val (.int p3), .val (.int p4), .val (.int p5), .val (.int la), .val (.int c0), .val (.int c1), .val (.int lb), .val (.int b0), .val (.int b1), .val (.int nu), .val (.ref fa), .val (.ref fb), .val (.ref s1), .val (.ref s2), .val (.ref vo13), .val (.ref str39), .val (.ref vo40), .val (.ref vo41), .val (.ref b42), .val (.ref b45), .val (.int sty), .val (.int (1 : Int32))] [(.ref b45), (.ref b42)])) rfl (by rw [hml]; rfl) (Steps.refl _) (argsL := [(.ref b45)]) (rest := []) (lenOf pd_13 rfl) rfl (by show 2 * 0 + _ ≤ _; exact Nat.le_of_eq rfl) (hb hby at_358) (fun _ _ => ⟨rfl, rfl, (by decide : 18 + 0 ≤ _), (by decide : 94 + 0 ≤ _)⟩)
          dsimp only [Pt.U, Pt.locs, Pt.cells, Pt.slots] at X58 l58 y58 z58 st58 hQ58
          subst l58 y58 z58
          obtain ⟨rfl, N58, hs58⟩ := hQ58
          have N58' := Fr.app N52' N58
          refine Goes.to (T' := T58) (mkF m 361 #[.val (.int p0), .val (.int p1), .val (.int p2), .val (.int p3), .val (.int p4), .val (.int p5), .val (.int la), .val (.int c0), .val (.int c1), .val (.int lb), .val (.int b0), .val (.int b1), .val (.int nu), .val (.ref fa), .val (.ref fb), .val (.ref s1), .val (.ref s2), .val (.ref vo13), .val (.ref str39), .val (.ref vo40), .val (.ref vo41), .val (.ref b42), .val (.ref b45), .val (.int sty), .val (.int (1 : Int32))] [(.int (bit (own_cs lb b0 b1 = own_cs la c0 c1 ∧ fb = fa)))]) (fun t k => st58.trans k) ?_
          refine Goes.to (T' := T58) (mkF m 363 #[.val (.int p0), .val (.int p1), .val (.int p2), .val (.int p3), .val (.int p4), .val (.int p5), .val (.int la), .val (.int c0), .val (.int c1), .val (.int lb), .val (.int b0), .val (.int b1), .val (.int nu), .val (.ref fa), .val (.ref fb), .val (.ref s1), .val (.ref s2), .val (.ref vo13), .val (.ref str39), .val (.ref vo40), .val (.ref vo41), .val (.ref b42), .val (.ref b45), .val (.int sty), .val (.int (1 : Int32))] [(.int (1 : Int32)), (.int (bit (own_cs lb b0 b1 = own_cs la c0 c1 ∧ fb = fa)))]) (fun t k => XS.iload X58.here hx rfl (hb hby at_361) rfl k) ?_
          refine Goes.to (T' := T58) (mkF m 366 #[.val (.int p0), .val (.int p1), .val (.int p2), .val (.int p3), .val (.int p4), .val (.int p5), .val (.int la), .val (.int c0), .val (.int c1), .val (.int lb), .val (.int b0), .val (.int b1), .val (.int nu), .val (.ref fa), .val (.ref fb), .val (.ref s1), .val (.ref s2), .val (.ref vo13), .val (.ref str39), .val (.ref vo40), .val (.ref vo41), .val (.ref b42), .val (.ref b45), .val (.int sty), .val (.int (1 : Int32))] []) (fun t k => XS.icmpNo X58.here hx rfl (hb hby at_363) rfl (teq (bit_t ⟨own_st1 (own_same hla hlb sty_eq) hc337_55, ha344_57.symm⟩ : (bit (own_cs lb b0 b1 = own_cs la c0 c1 ∧ fb = fa)) = (1 : Int32))).2 k) ?_
          refine Goes.to (T' := T58) (mkF m 367 #[.val (.int p0), .val (.int p1), .val (.int p2), .val (.int p3), .val (.int p4), .val (.int p5), .val (.int la), .val (.int c0), .val (.int c1), .val (.int lb), .val (.int b0), .val (.int b1), .val (.int nu), .val (.ref fa), .val (.ref fb), .val (.ref s1), .val (.ref s2), .val (.ref vo13), .val (.ref str39), .val (.ref vo40), .val (.ref vo41), .val (.ref b42), .val (.ref b45), .val (.int sty), .val (.int (1 : Int32))] [(.int (1 : Int32))]) (fun t k => XS.iconst X58.here hx rfl (hb hby at_366) k) ?_
          refine Goes.to (T' := T58) (mkF m 371 #[.val (.int p0), .val (.int p1), .val (.int p2), .val (.int p3), .val (.int p4), .val (.int p5), .val (.int la), .val (.int c0), .val (.int c1), .val (.int lb), .val (.int b0), .val (.int b1), .val (.int nu), .val (.ref fa), .val (.ref fb), .val (.ref s1), .val (.ref s2), .val (.ref vo13), .val (.ref str39), .val (.ref vo40), .val (.ref vo41), .val (.ref b42), .val (.ref b45), .val (.int sty), .val (.int (1 : Int32))] [(.int (1 : Int32))]) (fun t k => XS.goto X58.here hx rfl (pc0 := 367) (pc' := 371) rfl (hb hby at_367) (by decide) (by decide) k) ?_
          refine Goes.retNW X58 hx Bd.notSynchronized hS0 (by rw [hs58]; exact hk0) (t := .boolean) Bd.returns (by simp) (hb hby at_371) (by decide) (by decide) ?_
          rw [hs58]
          exact ⟨rfl, N58'⟩
        · refine Goes.to (T' := T52) (mkF m 351 #[.val (.int p0), .val (.int p1), .val (.int p2), .val (.int p3), .val (.int p4), .val (.int p5), .val (.int la), .val (.int c0), .val (.int c1), .val (.int lb), .val (.int b0), .val (.int b1), .val (.int nu), .val (.ref fa), .val (.ref fb), .val (.ref s1), .val (.ref s2), .val (.ref vo13), .val (.ref str39), .val (.ref vo40), .val (.ref vo41), .val (.ref b42), .val (.ref b45), .val (.int sty), .unset] []) (fun t k => Jvm.RoadKit.acmp (g := (mkF m 344 #[.val (.int p0), .val (.int p1), .val (.int p2), .val (.int p3), .val (.int p4), .val (.int p5), .val (.int la), .val (.int c0), .val (.int c1), .val (.int lb), .val (.int b0), .val (.int b1), .val (.int nu), .val (.ref fa), .val (.ref fb), .val (.ref s1), .val (.ref s2), .val (.ref vo13), .val (.ref str39), .val (.ref vo40), .val (.ref vo41), .val (.ref b42), .val (.ref b45), .val (.int sty), .unset] [(.ref fb), (.ref fa)])) X52 hx rfl rfl rfl (pc0 := 344) (pc' := 351) (same := false) rfl (hb hby at_344) rfl (decide_eq_false fun q => ha344_57 (Value.ref.inj q)) (by decide) (by decide) k) ?_
          refine Goes.to (T' := T52) (mkF m 352 #[.val (.int p0), .val (.int p1), .val (.int p2), .val (.int p3), .val (.int p4), .val (.int p5), .val (.int la), .val (.int c0), .val (.int c1), .val (.int lb), .val (.int b0), .val (.int b1), .val (.int nu), .val (.ref fa), .val (.ref fb), .val (.ref s1), .val (.ref s2), .val (.ref vo13), .val (.ref str39), .val (.ref vo40), .val (.ref vo41), .val (.ref b42), .val (.ref b45), .val (.int sty), .unset] [(.int (0 : Int32))]) (fun t k => XS.iconst X52.here hx rfl (hb hby at_351) k) ?_
          refine Goes.to (T' := T52) (mkF m 354 #[.val (.int p0), .val (.int p1), .val (.int p2), .val (.int p3), .val (.int p4), .val (.int p5), .val (.int la), .val (.int c0), .val (.int c1), .val (.int lb), .val (.int b0), .val (.int b1), .val (.int nu), .val (.ref fa), .val (.ref fb), .val (.ref s1), .val (.ref s2), .val (.ref vo13), .val (.ref str39), .val (.ref vo40), .val (.ref vo41), .val (.ref b42), .val (.ref b45), .val (.int sty), .val (.int (0 : Int32))] []) (fun t k => XS.istore X52.here hx rfl (hb hby at_352) rfl (l' := #[.val (.int p0), .val (.int p1), .val (.int p2), .val (.int p3), .val (.int p4), .val (.int p5), .val (.int la), .val (.int c0), .val (.int c1), .val (.int lb), .val (.int b0), .val (.int b1), .val (.int nu), .val (.ref fa), .val (.ref fb), .val (.ref s1), .val (.ref s2), .val (.ref vo13), .val (.ref str39), .val (.ref vo40), .val (.ref vo41), .val (.ref b42), .val (.ref b45), .val (.int sty), .val (.int (0 : Int32))]) rfl k) ?_
          refine Goes.to (T' := T52) (mkF m 356 #[.val (.int p0), .val (.int p1), .val (.int p2), .val (.int p3), .val (.int p4), .val (.int p5), .val (.int la), .val (.int c0), .val (.int c1), .val (.int lb), .val (.int b0), .val (.int b1), .val (.int nu), .val (.ref fa), .val (.ref fb), .val (.ref s1), .val (.ref s2), .val (.ref vo13), .val (.ref str39), .val (.ref vo40), .val (.ref vo41), .val (.ref b42), .val (.ref b45), .val (.int sty), .val (.int (0 : Int32))] [(.ref b42)]) (fun t k => XS.aload X52.here hx rfl (hb hby at_354) rfl rfl k) ?_
          refine Goes.to (T' := T52) (mkF m 358 #[.val (.int p0), .val (.int p1), .val (.int p2), .val (.int p3), .val (.int p4), .val (.int p5), .val (.int la), .val (.int c0), .val (.int c1), .val (.int lb), .val (.int b0), .val (.int b1), .val (.int nu), .val (.ref fa), .val (.ref fb), .val (.ref s1), .val (.ref s2), .val (.ref vo13), .val (.ref str39), .val (.ref vo40), .val (.ref vo41), .val (.ref b42), .val (.ref b45), .val (.int sty), .val (.int (0 : Int32))] [(.ref b45), (.ref b42)]) (fun t k => XS.aload X52.here hx rfl (hb hby at_356) rfl rfl k) ?_
          obtain ⟨cq59, kq59, q59a, q59b, q59c⟩ := isOf hZ rfl E_b42
          obtain ⟨_, _, ⟨T59, L59, k59, n59⟩, -, X59, ⟨Lc59, hQ59, l59, y59, z59⟩, st59⟩ := X52.virtualBack hx (y := (⟨"com/example/forest_in_rows/forestinrows/Installation$OwnColumnDefinition", "standsAs", "(Lcom/example/forest_in_rows/forestinrows/CatalogColumn;)Z"⟩ : MethodName)) (z := (⟨"com/example/forest_in_rows/forestinrows/Installation$OwnColumnDefinition", "standsAs", "(Lcom/example/forest_in_rows/forestinrows/CatalogColumn;)Z"⟩ : MethodName)) hown (mvT hZ (hw _ (List.mem_of_getElem? (i := 62) rfl))) (mvT hZ (hw _ (List.mem_of_getElem? (i := 63) rfl))) (notFace_of_selects (args := #[]) (mvT hZ (hw _ (List.mem_of_getElem? (i := 65) rfl)))) (mvT hZ (hw _ (List.mem_of_getElem? (i := 65) rfl))) (mvT hZ (hw _ (List.mem_of_getElem? (i := 64) rfl))) (by decide) (backOf (W := 0) (rm_saS l Z a0 hw [] b42 b45 s1 t1 s2 t2 fa fb k1 k2 m1 m2 cz vs1 vs2 _ _ T52.heap n0 O F_type_b42 F_filling_b42 F_type_b45 F_filling_b45 E_b42 E_b45 E_s1 F_v1 F_c1 V_t1 hcd1 (own_csb ha0 ha1) (own_csl _ _ _) E_s2 F_v2 F_c2 V_t2 hcd2 (own_csb hb0 hb1) (own_csl _ _ _) S_CS hcz) hZ (hw _ (List.mem_of_getElem? (i := 66) rfl)) (hw _ (List.mem_of_getElem? (i := 44) rfl)) (by decide) (by decide)) q59a q59c (g := (mkF m 358 #[.val (.int p0), .val (.int p1), .val (.int p2), .val (.int p3), .val (.int p4), .val (.int p5), .val (.int la), .val (.int c0), .val (.int c1), .val (.int lb), .val (.int b0), .val (.int b1), .val (.int nu), .val (.ref fa), .val (.ref fb), .val (.ref s1), .val (.ref s2), .val (.ref vo13), .val (.ref str39), .val (.ref vo40), .val (.ref vo41), .val (.ref b42), .val (.ref b45), .val (.int sty), .val (.int (0 : Int32))] [(.ref b45), (.ref b42)])) rfl (by rw [hml]; rfl) (Steps.refl _) (argsL := [(.ref b45)]) (rest := []) (lenOf pd_13 rfl) rfl (by show 2 * 0 + _ ≤ _; exact Nat.le_of_eq rfl) (hb hby at_358) (fun _ _ => ⟨rfl, rfl, (by decide : 18 + 0 ≤ _), (by decide : 94 + 0 ≤ _)⟩)
          dsimp only [Pt.U, Pt.locs, Pt.cells, Pt.slots] at X59 l59 y59 z59 st59 hQ59
          subst l59 y59 z59
          obtain ⟨rfl, N59, hs59⟩ := hQ59
          have N59' := Fr.app N52' N59
          refine Goes.to (T' := T59) (mkF m 361 #[.val (.int p0), .val (.int p1), .val (.int p2), .val (.int p3), .val (.int p4), .val (.int p5), .val (.int la), .val (.int c0), .val (.int c1), .val (.int lb), .val (.int b0), .val (.int b1), .val (.int nu), .val (.ref fa), .val (.ref fb), .val (.ref s1), .val (.ref s2), .val (.ref vo13), .val (.ref str39), .val (.ref vo40), .val (.ref vo41), .val (.ref b42), .val (.ref b45), .val (.int sty), .val (.int (0 : Int32))] [(.int (bit (own_cs lb b0 b1 = own_cs la c0 c1 ∧ fb = fa)))]) (fun t k => st59.trans k) ?_
          refine Goes.to (T' := T59) (mkF m 363 #[.val (.int p0), .val (.int p1), .val (.int p2), .val (.int p3), .val (.int p4), .val (.int p5), .val (.int la), .val (.int c0), .val (.int c1), .val (.int lb), .val (.int b0), .val (.int b1), .val (.int nu), .val (.ref fa), .val (.ref fb), .val (.ref s1), .val (.ref s2), .val (.ref vo13), .val (.ref str39), .val (.ref vo40), .val (.ref vo41), .val (.ref b42), .val (.ref b45), .val (.int sty), .val (.int (0 : Int32))] [(.int (0 : Int32)), (.int (bit (own_cs lb b0 b1 = own_cs la c0 c1 ∧ fb = fa)))]) (fun t k => XS.iload X59.here hx rfl (hb hby at_361) rfl k) ?_
          refine Goes.to (T' := T59) (mkF m 366 #[.val (.int p0), .val (.int p1), .val (.int p2), .val (.int p3), .val (.int p4), .val (.int p5), .val (.int la), .val (.int c0), .val (.int c1), .val (.int lb), .val (.int b0), .val (.int b1), .val (.int nu), .val (.ref fa), .val (.ref fb), .val (.ref s1), .val (.ref s2), .val (.ref vo13), .val (.ref str39), .val (.ref vo40), .val (.ref vo41), .val (.ref b42), .val (.ref b45), .val (.int sty), .val (.int (0 : Int32))] []) (fun t k => XS.icmpNo X59.here hx rfl (hb hby at_363) rfl (teq (bit_f (fun q => ha344_57 q.2.symm) : (bit (own_cs lb b0 b1 = own_cs la c0 c1 ∧ fb = fa)) = (0 : Int32))).2 k) ?_
          refine Goes.to (T' := T59) (mkF m 367 #[.val (.int p0), .val (.int p1), .val (.int p2), .val (.int p3), .val (.int p4), .val (.int p5), .val (.int la), .val (.int c0), .val (.int c1), .val (.int lb), .val (.int b0), .val (.int b1), .val (.int nu), .val (.ref fa), .val (.ref fb), .val (.ref s1), .val (.ref s2), .val (.ref vo13), .val (.ref str39), .val (.ref vo40), .val (.ref vo41), .val (.ref b42), .val (.ref b45), .val (.int sty), .val (.int (0 : Int32))] [(.int (1 : Int32))]) (fun t k => XS.iconst X59.here hx rfl (hb hby at_366) k) ?_
          refine Goes.to (T' := T59) (mkF m 371 #[.val (.int p0), .val (.int p1), .val (.int p2), .val (.int p3), .val (.int p4), .val (.int p5), .val (.int la), .val (.int c0), .val (.int c1), .val (.int lb), .val (.int b0), .val (.int b1), .val (.int nu), .val (.ref fa), .val (.ref fb), .val (.ref s1), .val (.ref s2), .val (.ref vo13), .val (.ref str39), .val (.ref vo40), .val (.ref vo41), .val (.ref b42), .val (.ref b45), .val (.int sty), .val (.int (0 : Int32))] [(.int (1 : Int32))]) (fun t k => XS.goto X59.here hx rfl (pc0 := 367) (pc' := 371) rfl (hb hby at_367) (by decide) (by decide) k) ?_
          refine Goes.retNW X59 hx Bd.notSynchronized hS0 (by rw [hs59]; exact hk0) (t := .boolean) Bd.returns (by simp) (hb hby at_371) (by decide) (by decide) ?_
          rw [hs59]
          exact ⟨rfl, N59'⟩
    · refine Goes.to (T' := T43) (mkF m 224 #[.val (.int p0), .val (.int p1), .val (.int p2), .val (.int p3), .val (.int p4), .val (.int p5), .val (.int la), .val (.int c0), .val (.int c1), .val (.int lb), .val (.int b0), .val (.int b1), .val (.int nu), .val (.ref fa), .val (.ref fb), .val (.ref s1), .val (.ref s2), .val (.ref vo13), .val (.ref str39), .val (.ref vo40), .val (.ref vo41), .val (.ref b42), .unset, .unset, .unset] []) (fun t k => XS.ifNo X43.here hx rfl (hb hby at_221) rfl ((if0 _ _).trans (feq hc221_44).1) k) ?_
      refine Goes.to (T' := T43) (mkF m 225 #[.val (.int p0), .val (.int p1), .val (.int p2), .val (.int p3), .val (.int p4), .val (.int p5), .val (.int la), .val (.int c0), .val (.int c1), .val (.int lb), .val (.int b0), .val (.int b1), .val (.int nu), .val (.ref fa), .val (.ref fb), .val (.ref s1), .val (.ref s2), .val (.ref vo13), .val (.ref str39), .val (.ref vo40), .val (.ref vo41), .val (.ref b42), .unset, .unset, .unset] [.null]) (fun t k => XS.aconstNull X43.here hx rfl (hb hby at_224) k) ?_
      refine Goes.to (T' := T43) (mkF m 288 #[.val (.int p0), .val (.int p1), .val (.int p2), .val (.int p3), .val (.int p4), .val (.int p5), .val (.int la), .val (.int c0), .val (.int c1), .val (.int lb), .val (.int b0), .val (.int b1), .val (.int nu), .val (.ref fa), .val (.ref fb), .val (.ref s1), .val (.ref s2), .val (.ref vo13), .val (.ref str39), .val (.ref vo40), .val (.ref vo41), .val (.ref b42), .unset, .unset, .unset] [.null]) (fun t k => XS.goto X43.here hx rfl (pc0 := 225) (pc' := 288) rfl (hb hby at_225) (by decide) (by decide) k) ?_
      refine Goes.to (T' := T43) (mkF m 290 #[.val (.int p0), .val (.int p1), .val (.int p2), .val (.int p3), .val (.int p4), .val (.int p5), .val (.int la), .val (.int c0), .val (.int c1), .val (.int lb), .val (.int b0), .val (.int b1), .val (.int nu), .val (.ref fa), .val (.ref fb), .val (.ref s1), .val (.ref s2), .val (.ref vo13), .val (.ref str39), .val (.ref vo40), .val (.ref vo41), .val (.ref b42), .val .null, .unset, .unset] []) (fun t k => XS.astore X43.here hx rfl (hb hby at_288) rfl rfl (l' := #[.val (.int p0), .val (.int p1), .val (.int p2), .val (.int p3), .val (.int p4), .val (.int p5), .val (.int la), .val (.int c0), .val (.int c1), .val (.int lb), .val (.int b0), .val (.int b1), .val (.int nu), .val (.ref fa), .val (.ref fb), .val (.ref s1), .val (.ref s2), .val (.ref vo13), .val (.ref str39), .val (.ref vo40), .val (.ref vo41), .val (.ref b42), .val .null, .unset, .unset]) rfl k) ?_
      refine Goes.to (T' := T43) (mkF m 292 #[.val (.int p0), .val (.int p1), .val (.int p2), .val (.int p3), .val (.int p4), .val (.int p5), .val (.int la), .val (.int c0), .val (.int c1), .val (.int lb), .val (.int b0), .val (.int b1), .val (.int nu), .val (.ref fa), .val (.ref fb), .val (.ref s1), .val (.ref s2), .val (.ref vo13), .val (.ref str39), .val (.ref vo40), .val (.ref vo41), .val (.ref b42), .val .null, .unset, .unset] [(.int la)]) (fun t k => XS.iload X43.here hx rfl (hb hby at_290) rfl k) ?_
      refine Goes.to (T' := T43) (mkF m 294 #[.val (.int p0), .val (.int p1), .val (.int p2), .val (.int p3), .val (.int p4), .val (.int p5), .val (.int la), .val (.int c0), .val (.int c1), .val (.int lb), .val (.int b0), .val (.int b1), .val (.int nu), .val (.ref fa), .val (.ref fb), .val (.ref s1), .val (.ref s2), .val (.ref vo13), .val (.ref str39), .val (.ref vo40), .val (.ref vo41), .val (.ref b42), .val .null, .unset, .unset] [(.int lb), (.int la)]) (fun t k => XS.iload X43.here hx rfl (hb hby at_292) rfl k) ?_
      have D294_60 : ∀ t, Steps p.tables e below (T43.setTop (mkF m 328 #[.val (.int p0), .val (.int p1), .val (.int p2), .val (.int p3), .val (.int p4), .val (.int p5), .val (.int la), .val (.int c0), .val (.int c1), .val (.int lb), .val (.int b0), .val (.int b1), .val (.int nu), .val (.ref fa), .val (.ref fb), .val (.ref s1), .val (.ref s2), .val (.ref vo13), .val (.ref str39), .val (.ref vo40), .val (.ref vo41), .val (.ref b42), .val .null, .unset, .unset] [(.int (if la = lb then (if la < (1 : Int32) then (if la < (2 : Int32) then (1 : Int32) else (if c1 = b1 then (1 : Int32) else (0 : Int32))) else (if c0 = b0 then (if la < (2 : Int32) then (1 : Int32) else (if c1 = b1 then (1 : Int32) else (0 : Int32))) else (0 : Int32))) else (0 : Int32)))])) t → Steps p.tables e below (T43.setTop (mkF m 294 #[.val (.int p0), .val (.int p1), .val (.int p2), .val (.int p3), .val (.int p4), .val (.int p5), .val (.int la), .val (.int c0), .val (.int c1), .val (.int lb), .val (.int b0), .val (.int b1), .val (.int nu), .val (.ref fa), .val (.ref fb), .val (.ref s1), .val (.ref s2), .val (.ref vo13), .val (.ref str39), .val (.ref vo40), .val (.ref vo41), .val (.ref b42), .val .null, .unset, .unset] [(.int lb), (.int la)])) t := by
        intro t k
        by_cases hq : la = lb
        · simp only [if_pos hq] at k
          refine XS.icmpNo X43.here hx rfl (hb hby at_294) rfl (teq hq).2 ?_
          show Steps p.tables e below (T43.setTop (mkF m 297 #[.val (.int p0), .val (.int p1), .val (.int p2), .val (.int p3), .val (.int p4), .val (.int p5), .val (.int la), .val (.int c0), .val (.int c1), .val (.int lb), .val (.int b0), .val (.int b1), .val (.int nu), .val (.ref fa), .val (.ref fb), .val (.ref s1), .val (.ref s2), .val (.ref vo13), .val (.ref str39), .val (.ref vo40), .val (.ref vo41), .val (.ref b42), .val .null, .unset, .unset] [])) _
          refine XS.iload X43.here hx rfl (hb hby at_297) rfl ?_
          show Steps p.tables e below (T43.setTop (mkF m 299 #[.val (.int p0), .val (.int p1), .val (.int p2), .val (.int p3), .val (.int p4), .val (.int p5), .val (.int la), .val (.int c0), .val (.int c1), .val (.int lb), .val (.int b0), .val (.int b1), .val (.int nu), .val (.ref fa), .val (.ref fb), .val (.ref s1), .val (.ref s2), .val (.ref vo13), .val (.ref str39), .val (.ref vo40), .val (.ref vo41), .val (.ref b42), .val .null, .unset, .unset] [(.int la)])) _
          refine XS.iconst X43.here hx rfl (hb hby at_299) ?_
          show Steps p.tables e below (T43.setTop (mkF m 300 #[.val (.int p0), .val (.int p1), .val (.int p2), .val (.int p3), .val (.int p4), .val (.int p5), .val (.int la), .val (.int c0), .val (.int c1), .val (.int lb), .val (.int b0), .val (.int b1), .val (.int nu), .val (.ref fa), .val (.ref fb), .val (.ref s1), .val (.ref s2), .val (.ref vo13), .val (.ref str39), .val (.ref vo40), .val (.ref vo41), .val (.ref b42), .val .null, .unset, .unset] [(.int (1 : Int32)), (.int la)])) _
          by_cases hq : la < (1 : Int32)
          · simp only [if_pos hq] at k
            refine XS.icmpYes X43.here hx rfl (pc0 := 300) (pc' := 310) rfl (hb hby at_300) rfl (tlt hq).1 (by decide) (by decide) ?_
            show Steps p.tables e below (T43.setTop (mkF m 310 #[.val (.int p0), .val (.int p1), .val (.int p2), .val (.int p3), .val (.int p4), .val (.int p5), .val (.int la), .val (.int c0), .val (.int c1), .val (.int lb), .val (.int b0), .val (.int b1), .val (.int nu), .val (.ref fa), .val (.ref fb), .val (.ref s1), .val (.ref s2), .val (.ref vo13), .val (.ref str39), .val (.ref vo40), .val (.ref vo41), .val (.ref b42), .val .null, .unset, .unset] [])) _
            refine XS.iload X43.here hx rfl (hb hby at_310) rfl ?_
            show Steps p.tables e below (T43.setTop (mkF m 312 #[.val (.int p0), .val (.int p1), .val (.int p2), .val (.int p3), .val (.int p4), .val (.int p5), .val (.int la), .val (.int c0), .val (.int c1), .val (.int lb), .val (.int b0), .val (.int b1), .val (.int nu), .val (.ref fa), .val (.ref fb), .val (.ref s1), .val (.ref s2), .val (.ref vo13), .val (.ref str39), .val (.ref vo40), .val (.ref vo41), .val (.ref b42), .val .null, .unset, .unset] [(.int la)])) _
            refine XS.iconst X43.here hx rfl (hb hby at_312) ?_
            show Steps p.tables e below (T43.setTop (mkF m 313 #[.val (.int p0), .val (.int p1), .val (.int p2), .val (.int p3), .val (.int p4), .val (.int p5), .val (.int la), .val (.int c0), .val (.int c1), .val (.int lb), .val (.int b0), .val (.int b1), .val (.int nu), .val (.ref fa), .val (.ref fb), .val (.ref s1), .val (.ref s2), .val (.ref vo13), .val (.ref str39), .val (.ref vo40), .val (.ref vo41), .val (.ref b42), .val .null, .unset, .unset] [(.int (2 : Int32)), (.int la)])) _
            by_cases hq : la < (2 : Int32)
            · simp only [if_pos hq] at k
              refine XS.icmpYes X43.here hx rfl (pc0 := 313) (pc' := 323) rfl (hb hby at_313) rfl (tlt hq).1 (by decide) (by decide) ?_
              show Steps p.tables e below (T43.setTop (mkF m 323 #[.val (.int p0), .val (.int p1), .val (.int p2), .val (.int p3), .val (.int p4), .val (.int p5), .val (.int la), .val (.int c0), .val (.int c1), .val (.int lb), .val (.int b0), .val (.int b1), .val (.int nu), .val (.ref fa), .val (.ref fb), .val (.ref s1), .val (.ref s2), .val (.ref vo13), .val (.ref str39), .val (.ref vo40), .val (.ref vo41), .val (.ref b42), .val .null, .unset, .unset] [])) _
              refine XS.iconst X43.here hx rfl (hb hby at_323) ?_
              show Steps p.tables e below (T43.setTop (mkF m 324 #[.val (.int p0), .val (.int p1), .val (.int p2), .val (.int p3), .val (.int p4), .val (.int p5), .val (.int la), .val (.int c0), .val (.int c1), .val (.int lb), .val (.int b0), .val (.int b1), .val (.int nu), .val (.ref fa), .val (.ref fb), .val (.ref s1), .val (.ref s2), .val (.ref vo13), .val (.ref str39), .val (.ref vo40), .val (.ref vo41), .val (.ref b42), .val .null, .unset, .unset] [(.int (1 : Int32))])) _
              refine XS.goto X43.here hx rfl (pc0 := 324) (pc' := 328) rfl (hb hby at_324) (by decide) (by decide) ?_
              show Steps p.tables e below (T43.setTop (mkF m 328 #[.val (.int p0), .val (.int p1), .val (.int p2), .val (.int p3), .val (.int p4), .val (.int p5), .val (.int la), .val (.int c0), .val (.int c1), .val (.int lb), .val (.int b0), .val (.int b1), .val (.int nu), .val (.ref fa), .val (.ref fb), .val (.ref s1), .val (.ref s2), .val (.ref vo13), .val (.ref str39), .val (.ref vo40), .val (.ref vo41), .val (.ref b42), .val .null, .unset, .unset] [(.int (1 : Int32))])) _
              exact k
            · simp only [if_neg hq] at k
              refine XS.icmpNo X43.here hx rfl (hb hby at_313) rfl (flt hq).1 ?_
              show Steps p.tables e below (T43.setTop (mkF m 316 #[.val (.int p0), .val (.int p1), .val (.int p2), .val (.int p3), .val (.int p4), .val (.int p5), .val (.int la), .val (.int c0), .val (.int c1), .val (.int lb), .val (.int b0), .val (.int b1), .val (.int nu), .val (.ref fa), .val (.ref fb), .val (.ref s1), .val (.ref s2), .val (.ref vo13), .val (.ref str39), .val (.ref vo40), .val (.ref vo41), .val (.ref b42), .val .null, .unset, .unset] [])) _
              refine XS.iload X43.here hx rfl (hb hby at_316) rfl ?_
              show Steps p.tables e below (T43.setTop (mkF m 318 #[.val (.int p0), .val (.int p1), .val (.int p2), .val (.int p3), .val (.int p4), .val (.int p5), .val (.int la), .val (.int c0), .val (.int c1), .val (.int lb), .val (.int b0), .val (.int b1), .val (.int nu), .val (.ref fa), .val (.ref fb), .val (.ref s1), .val (.ref s2), .val (.ref vo13), .val (.ref str39), .val (.ref vo40), .val (.ref vo41), .val (.ref b42), .val .null, .unset, .unset] [(.int c1)])) _
              refine XS.iload X43.here hx rfl (hb hby at_318) rfl ?_
              show Steps p.tables e below (T43.setTop (mkF m 320 #[.val (.int p0), .val (.int p1), .val (.int p2), .val (.int p3), .val (.int p4), .val (.int p5), .val (.int la), .val (.int c0), .val (.int c1), .val (.int lb), .val (.int b0), .val (.int b1), .val (.int nu), .val (.ref fa), .val (.ref fb), .val (.ref s1), .val (.ref s2), .val (.ref vo13), .val (.ref str39), .val (.ref vo40), .val (.ref vo41), .val (.ref b42), .val .null, .unset, .unset] [(.int b1), (.int c1)])) _
              by_cases hq : c1 = b1
              · simp only [if_pos hq] at k
                refine XS.icmpNo X43.here hx rfl (hb hby at_320) rfl (teq hq).2 ?_
                show Steps p.tables e below (T43.setTop (mkF m 323 #[.val (.int p0), .val (.int p1), .val (.int p2), .val (.int p3), .val (.int p4), .val (.int p5), .val (.int la), .val (.int c0), .val (.int c1), .val (.int lb), .val (.int b0), .val (.int b1), .val (.int nu), .val (.ref fa), .val (.ref fb), .val (.ref s1), .val (.ref s2), .val (.ref vo13), .val (.ref str39), .val (.ref vo40), .val (.ref vo41), .val (.ref b42), .val .null, .unset, .unset] [])) _
                refine XS.iconst X43.here hx rfl (hb hby at_323) ?_
                show Steps p.tables e below (T43.setTop (mkF m 324 #[.val (.int p0), .val (.int p1), .val (.int p2), .val (.int p3), .val (.int p4), .val (.int p5), .val (.int la), .val (.int c0), .val (.int c1), .val (.int lb), .val (.int b0), .val (.int b1), .val (.int nu), .val (.ref fa), .val (.ref fb), .val (.ref s1), .val (.ref s2), .val (.ref vo13), .val (.ref str39), .val (.ref vo40), .val (.ref vo41), .val (.ref b42), .val .null, .unset, .unset] [(.int (1 : Int32))])) _
                refine XS.goto X43.here hx rfl (pc0 := 324) (pc' := 328) rfl (hb hby at_324) (by decide) (by decide) ?_
                show Steps p.tables e below (T43.setTop (mkF m 328 #[.val (.int p0), .val (.int p1), .val (.int p2), .val (.int p3), .val (.int p4), .val (.int p5), .val (.int la), .val (.int c0), .val (.int c1), .val (.int lb), .val (.int b0), .val (.int b1), .val (.int nu), .val (.ref fa), .val (.ref fb), .val (.ref s1), .val (.ref s2), .val (.ref vo13), .val (.ref str39), .val (.ref vo40), .val (.ref vo41), .val (.ref b42), .val .null, .unset, .unset] [(.int (1 : Int32))])) _
                exact k
              · simp only [if_neg hq] at k
                refine XS.icmpYes X43.here hx rfl (pc0 := 320) (pc' := 327) rfl (hb hby at_320) rfl (feq hq).2 (by decide) (by decide) ?_
                show Steps p.tables e below (T43.setTop (mkF m 327 #[.val (.int p0), .val (.int p1), .val (.int p2), .val (.int p3), .val (.int p4), .val (.int p5), .val (.int la), .val (.int c0), .val (.int c1), .val (.int lb), .val (.int b0), .val (.int b1), .val (.int nu), .val (.ref fa), .val (.ref fb), .val (.ref s1), .val (.ref s2), .val (.ref vo13), .val (.ref str39), .val (.ref vo40), .val (.ref vo41), .val (.ref b42), .val .null, .unset, .unset] [])) _
                refine XS.iconst X43.here hx rfl (hb hby at_327) ?_
                show Steps p.tables e below (T43.setTop (mkF m 328 #[.val (.int p0), .val (.int p1), .val (.int p2), .val (.int p3), .val (.int p4), .val (.int p5), .val (.int la), .val (.int c0), .val (.int c1), .val (.int lb), .val (.int b0), .val (.int b1), .val (.int nu), .val (.ref fa), .val (.ref fb), .val (.ref s1), .val (.ref s2), .val (.ref vo13), .val (.ref str39), .val (.ref vo40), .val (.ref vo41), .val (.ref b42), .val .null, .unset, .unset] [(.int (0 : Int32))])) _
                exact k
          · simp only [if_neg hq] at k
            refine XS.icmpNo X43.here hx rfl (hb hby at_300) rfl (flt hq).1 ?_
            show Steps p.tables e below (T43.setTop (mkF m 303 #[.val (.int p0), .val (.int p1), .val (.int p2), .val (.int p3), .val (.int p4), .val (.int p5), .val (.int la), .val (.int c0), .val (.int c1), .val (.int lb), .val (.int b0), .val (.int b1), .val (.int nu), .val (.ref fa), .val (.ref fb), .val (.ref s1), .val (.ref s2), .val (.ref vo13), .val (.ref str39), .val (.ref vo40), .val (.ref vo41), .val (.ref b42), .val .null, .unset, .unset] [])) _
            refine XS.iload X43.here hx rfl (hb hby at_303) rfl ?_
            show Steps p.tables e below (T43.setTop (mkF m 305 #[.val (.int p0), .val (.int p1), .val (.int p2), .val (.int p3), .val (.int p4), .val (.int p5), .val (.int la), .val (.int c0), .val (.int c1), .val (.int lb), .val (.int b0), .val (.int b1), .val (.int nu), .val (.ref fa), .val (.ref fb), .val (.ref s1), .val (.ref s2), .val (.ref vo13), .val (.ref str39), .val (.ref vo40), .val (.ref vo41), .val (.ref b42), .val .null, .unset, .unset] [(.int c0)])) _
            refine XS.iload X43.here hx rfl (hb hby at_305) rfl ?_
            show Steps p.tables e below (T43.setTop (mkF m 307 #[.val (.int p0), .val (.int p1), .val (.int p2), .val (.int p3), .val (.int p4), .val (.int p5), .val (.int la), .val (.int c0), .val (.int c1), .val (.int lb), .val (.int b0), .val (.int b1), .val (.int nu), .val (.ref fa), .val (.ref fb), .val (.ref s1), .val (.ref s2), .val (.ref vo13), .val (.ref str39), .val (.ref vo40), .val (.ref vo41), .val (.ref b42), .val .null, .unset, .unset] [(.int b0), (.int c0)])) _
            by_cases hq : c0 = b0
            · simp only [if_pos hq] at k
              refine XS.icmpNo X43.here hx rfl (hb hby at_307) rfl (teq hq).2 ?_
              show Steps p.tables e below (T43.setTop (mkF m 310 #[.val (.int p0), .val (.int p1), .val (.int p2), .val (.int p3), .val (.int p4), .val (.int p5), .val (.int la), .val (.int c0), .val (.int c1), .val (.int lb), .val (.int b0), .val (.int b1), .val (.int nu), .val (.ref fa), .val (.ref fb), .val (.ref s1), .val (.ref s2), .val (.ref vo13), .val (.ref str39), .val (.ref vo40), .val (.ref vo41), .val (.ref b42), .val .null, .unset, .unset] [])) _
              refine XS.iload X43.here hx rfl (hb hby at_310) rfl ?_
              show Steps p.tables e below (T43.setTop (mkF m 312 #[.val (.int p0), .val (.int p1), .val (.int p2), .val (.int p3), .val (.int p4), .val (.int p5), .val (.int la), .val (.int c0), .val (.int c1), .val (.int lb), .val (.int b0), .val (.int b1), .val (.int nu), .val (.ref fa), .val (.ref fb), .val (.ref s1), .val (.ref s2), .val (.ref vo13), .val (.ref str39), .val (.ref vo40), .val (.ref vo41), .val (.ref b42), .val .null, .unset, .unset] [(.int la)])) _
              refine XS.iconst X43.here hx rfl (hb hby at_312) ?_
              show Steps p.tables e below (T43.setTop (mkF m 313 #[.val (.int p0), .val (.int p1), .val (.int p2), .val (.int p3), .val (.int p4), .val (.int p5), .val (.int la), .val (.int c0), .val (.int c1), .val (.int lb), .val (.int b0), .val (.int b1), .val (.int nu), .val (.ref fa), .val (.ref fb), .val (.ref s1), .val (.ref s2), .val (.ref vo13), .val (.ref str39), .val (.ref vo40), .val (.ref vo41), .val (.ref b42), .val .null, .unset, .unset] [(.int (2 : Int32)), (.int la)])) _
              by_cases hq : la < (2 : Int32)
              · simp only [if_pos hq] at k
                refine XS.icmpYes X43.here hx rfl (pc0 := 313) (pc' := 323) rfl (hb hby at_313) rfl (tlt hq).1 (by decide) (by decide) ?_
                show Steps p.tables e below (T43.setTop (mkF m 323 #[.val (.int p0), .val (.int p1), .val (.int p2), .val (.int p3), .val (.int p4), .val (.int p5), .val (.int la), .val (.int c0), .val (.int c1), .val (.int lb), .val (.int b0), .val (.int b1), .val (.int nu), .val (.ref fa), .val (.ref fb), .val (.ref s1), .val (.ref s2), .val (.ref vo13), .val (.ref str39), .val (.ref vo40), .val (.ref vo41), .val (.ref b42), .val .null, .unset, .unset] [])) _
                refine XS.iconst X43.here hx rfl (hb hby at_323) ?_
                show Steps p.tables e below (T43.setTop (mkF m 324 #[.val (.int p0), .val (.int p1), .val (.int p2), .val (.int p3), .val (.int p4), .val (.int p5), .val (.int la), .val (.int c0), .val (.int c1), .val (.int lb), .val (.int b0), .val (.int b1), .val (.int nu), .val (.ref fa), .val (.ref fb), .val (.ref s1), .val (.ref s2), .val (.ref vo13), .val (.ref str39), .val (.ref vo40), .val (.ref vo41), .val (.ref b42), .val .null, .unset, .unset] [(.int (1 : Int32))])) _
                refine XS.goto X43.here hx rfl (pc0 := 324) (pc' := 328) rfl (hb hby at_324) (by decide) (by decide) ?_
                show Steps p.tables e below (T43.setTop (mkF m 328 #[.val (.int p0), .val (.int p1), .val (.int p2), .val (.int p3), .val (.int p4), .val (.int p5), .val (.int la), .val (.int c0), .val (.int c1), .val (.int lb), .val (.int b0), .val (.int b1), .val (.int nu), .val (.ref fa), .val (.ref fb), .val (.ref s1), .val (.ref s2), .val (.ref vo13), .val (.ref str39), .val (.ref vo40), .val (.ref vo41), .val (.ref b42), .val .null, .unset, .unset] [(.int (1 : Int32))])) _
                exact k
              · simp only [if_neg hq] at k
                refine XS.icmpNo X43.here hx rfl (hb hby at_313) rfl (flt hq).1 ?_
                show Steps p.tables e below (T43.setTop (mkF m 316 #[.val (.int p0), .val (.int p1), .val (.int p2), .val (.int p3), .val (.int p4), .val (.int p5), .val (.int la), .val (.int c0), .val (.int c1), .val (.int lb), .val (.int b0), .val (.int b1), .val (.int nu), .val (.ref fa), .val (.ref fb), .val (.ref s1), .val (.ref s2), .val (.ref vo13), .val (.ref str39), .val (.ref vo40), .val (.ref vo41), .val (.ref b42), .val .null, .unset, .unset] [])) _
                refine XS.iload X43.here hx rfl (hb hby at_316) rfl ?_
                show Steps p.tables e below (T43.setTop (mkF m 318 #[.val (.int p0), .val (.int p1), .val (.int p2), .val (.int p3), .val (.int p4), .val (.int p5), .val (.int la), .val (.int c0), .val (.int c1), .val (.int lb), .val (.int b0), .val (.int b1), .val (.int nu), .val (.ref fa), .val (.ref fb), .val (.ref s1), .val (.ref s2), .val (.ref vo13), .val (.ref str39), .val (.ref vo40), .val (.ref vo41), .val (.ref b42), .val .null, .unset, .unset] [(.int c1)])) _
                refine XS.iload X43.here hx rfl (hb hby at_318) rfl ?_
                show Steps p.tables e below (T43.setTop (mkF m 320 #[.val (.int p0), .val (.int p1), .val (.int p2), .val (.int p3), .val (.int p4), .val (.int p5), .val (.int la), .val (.int c0), .val (.int c1), .val (.int lb), .val (.int b0), .val (.int b1), .val (.int nu), .val (.ref fa), .val (.ref fb), .val (.ref s1), .val (.ref s2), .val (.ref vo13), .val (.ref str39), .val (.ref vo40), .val (.ref vo41), .val (.ref b42), .val .null, .unset, .unset] [(.int b1), (.int c1)])) _
                by_cases hq : c1 = b1
                · simp only [if_pos hq] at k
                  refine XS.icmpNo X43.here hx rfl (hb hby at_320) rfl (teq hq).2 ?_
                  show Steps p.tables e below (T43.setTop (mkF m 323 #[.val (.int p0), .val (.int p1), .val (.int p2), .val (.int p3), .val (.int p4), .val (.int p5), .val (.int la), .val (.int c0), .val (.int c1), .val (.int lb), .val (.int b0), .val (.int b1), .val (.int nu), .val (.ref fa), .val (.ref fb), .val (.ref s1), .val (.ref s2), .val (.ref vo13), .val (.ref str39), .val (.ref vo40), .val (.ref vo41), .val (.ref b42), .val .null, .unset, .unset] [])) _
                  refine XS.iconst X43.here hx rfl (hb hby at_323) ?_
                  show Steps p.tables e below (T43.setTop (mkF m 324 #[.val (.int p0), .val (.int p1), .val (.int p2), .val (.int p3), .val (.int p4), .val (.int p5), .val (.int la), .val (.int c0), .val (.int c1), .val (.int lb), .val (.int b0), .val (.int b1), .val (.int nu), .val (.ref fa), .val (.ref fb), .val (.ref s1), .val (.ref s2), .val (.ref vo13), .val (.ref str39), .val (.ref vo40), .val (.ref vo41), .val (.ref b42), .val .null, .unset, .unset] [(.int (1 : Int32))])) _
                  refine XS.goto X43.here hx rfl (pc0 := 324) (pc' := 328) rfl (hb hby at_324) (by decide) (by decide) ?_
                  show Steps p.tables e below (T43.setTop (mkF m 328 #[.val (.int p0), .val (.int p1), .val (.int p2), .val (.int p3), .val (.int p4), .val (.int p5), .val (.int la), .val (.int c0), .val (.int c1), .val (.int lb), .val (.int b0), .val (.int b1), .val (.int nu), .val (.ref fa), .val (.ref fb), .val (.ref s1), .val (.ref s2), .val (.ref vo13), .val (.ref str39), .val (.ref vo40), .val (.ref vo41), .val (.ref b42), .val .null, .unset, .unset] [(.int (1 : Int32))])) _
                  exact k
                · simp only [if_neg hq] at k
                  refine XS.icmpYes X43.here hx rfl (pc0 := 320) (pc' := 327) rfl (hb hby at_320) rfl (feq hq).2 (by decide) (by decide) ?_
                  show Steps p.tables e below (T43.setTop (mkF m 327 #[.val (.int p0), .val (.int p1), .val (.int p2), .val (.int p3), .val (.int p4), .val (.int p5), .val (.int la), .val (.int c0), .val (.int c1), .val (.int lb), .val (.int b0), .val (.int b1), .val (.int nu), .val (.ref fa), .val (.ref fb), .val (.ref s1), .val (.ref s2), .val (.ref vo13), .val (.ref str39), .val (.ref vo40), .val (.ref vo41), .val (.ref b42), .val .null, .unset, .unset] [])) _
                  refine XS.iconst X43.here hx rfl (hb hby at_327) ?_
                  show Steps p.tables e below (T43.setTop (mkF m 328 #[.val (.int p0), .val (.int p1), .val (.int p2), .val (.int p3), .val (.int p4), .val (.int p5), .val (.int la), .val (.int c0), .val (.int c1), .val (.int lb), .val (.int b0), .val (.int b1), .val (.int nu), .val (.ref fa), .val (.ref fb), .val (.ref s1), .val (.ref s2), .val (.ref vo13), .val (.ref str39), .val (.ref vo40), .val (.ref vo41), .val (.ref b42), .val .null, .unset, .unset] [(.int (0 : Int32))])) _
                  exact k
            · simp only [if_neg hq] at k
              refine XS.icmpYes X43.here hx rfl (pc0 := 307) (pc' := 327) rfl (hb hby at_307) rfl (feq hq).2 (by decide) (by decide) ?_
              show Steps p.tables e below (T43.setTop (mkF m 327 #[.val (.int p0), .val (.int p1), .val (.int p2), .val (.int p3), .val (.int p4), .val (.int p5), .val (.int la), .val (.int c0), .val (.int c1), .val (.int lb), .val (.int b0), .val (.int b1), .val (.int nu), .val (.ref fa), .val (.ref fb), .val (.ref s1), .val (.ref s2), .val (.ref vo13), .val (.ref str39), .val (.ref vo40), .val (.ref vo41), .val (.ref b42), .val .null, .unset, .unset] [])) _
              refine XS.iconst X43.here hx rfl (hb hby at_327) ?_
              show Steps p.tables e below (T43.setTop (mkF m 328 #[.val (.int p0), .val (.int p1), .val (.int p2), .val (.int p3), .val (.int p4), .val (.int p5), .val (.int la), .val (.int c0), .val (.int c1), .val (.int lb), .val (.int b0), .val (.int b1), .val (.int nu), .val (.ref fa), .val (.ref fb), .val (.ref s1), .val (.ref s2), .val (.ref vo13), .val (.ref str39), .val (.ref vo40), .val (.ref vo41), .val (.ref b42), .val .null, .unset, .unset] [(.int (0 : Int32))])) _
              exact k
        · simp only [if_neg hq] at k
          refine XS.icmpYes X43.here hx rfl (pc0 := 294) (pc' := 327) rfl (hb hby at_294) rfl (feq hq).2 (by decide) (by decide) ?_
          show Steps p.tables e below (T43.setTop (mkF m 327 #[.val (.int p0), .val (.int p1), .val (.int p2), .val (.int p3), .val (.int p4), .val (.int p5), .val (.int la), .val (.int c0), .val (.int c1), .val (.int lb), .val (.int b0), .val (.int b1), .val (.int nu), .val (.ref fa), .val (.ref fb), .val (.ref s1), .val (.ref s2), .val (.ref vo13), .val (.ref str39), .val (.ref vo40), .val (.ref vo41), .val (.ref b42), .val .null, .unset, .unset] [])) _
          refine XS.iconst X43.here hx rfl (hb hby at_327) ?_
          show Steps p.tables e below (T43.setTop (mkF m 328 #[.val (.int p0), .val (.int p1), .val (.int p2), .val (.int p3), .val (.int p4), .val (.int p5), .val (.int la), .val (.int c0), .val (.int c1), .val (.int lb), .val (.int b0), .val (.int b1), .val (.int nu), .val (.ref fa), .val (.ref fb), .val (.ref s1), .val (.ref s2), .val (.ref vo13), .val (.ref str39), .val (.ref vo40), .val (.ref vo41), .val (.ref b42), .val .null, .unset, .unset] [(.int (0 : Int32))])) _
          exact k
      refine Goes.to (T' := T43) (mkF m 328 #[.val (.int p0), .val (.int p1), .val (.int p2), .val (.int p3), .val (.int p4), .val (.int p5), .val (.int la), .val (.int c0), .val (.int c1), .val (.int lb), .val (.int b0), .val (.int b1), .val (.int nu), .val (.ref fa), .val (.ref fb), .val (.ref s1), .val (.ref s2), .val (.ref vo13), .val (.ref str39), .val (.ref vo40), .val (.ref vo41), .val (.ref b42), .val .null, .unset, .unset] [(.int (if la = lb then (if la < (1 : Int32) then (if la < (2 : Int32) then (1 : Int32) else (if c1 = b1 then (1 : Int32) else (0 : Int32))) else (if c0 = b0 then (if la < (2 : Int32) then (1 : Int32) else (if c1 = b1 then (1 : Int32) else (0 : Int32))) else (0 : Int32))) else (0 : Int32)))]) D294_60 ?_
      obtain ⟨sty, sty_eq⟩ : ∃ z, z = (if la = lb then (if la < (1 : Int32) then (if la < (2 : Int32) then (1 : Int32) else (if c1 = b1 then (1 : Int32) else (0 : Int32))) else (if c0 = b0 then (if la < (2 : Int32) then (1 : Int32) else (if c1 = b1 then (1 : Int32) else (0 : Int32))) else (0 : Int32))) else (0 : Int32)) := ⟨_, rfl⟩
      rw [← sty_eq]
      refine Goes.to (T' := T43) (mkF m 330 #[.val (.int p0), .val (.int p1), .val (.int p2), .val (.int p3), .val (.int p4), .val (.int p5), .val (.int la), .val (.int c0), .val (.int c1), .val (.int lb), .val (.int b0), .val (.int b1), .val (.int nu), .val (.ref fa), .val (.ref fb), .val (.ref s1), .val (.ref s2), .val (.ref vo13), .val (.ref str39), .val (.ref vo40), .val (.ref vo41), .val (.ref b42), .val .null, .val (.int sty), .unset] []) (fun t k => XS.istore X43.here hx rfl (hb hby at_328) rfl (l' := #[.val (.int p0), .val (.int p1), .val (.int p2), .val (.int p3), .val (.int p4), .val (.int p5), .val (.int la), .val (.int c0), .val (.int c1), .val (.int lb), .val (.int b0), .val (.int b1), .val (.int nu), .val (.ref fa), .val (.ref fb), .val (.ref s1), .val (.ref s2), .val (.ref vo13), .val (.ref str39), .val (.ref vo40), .val (.ref vo41), .val (.ref b42), .val .null, .val (.int sty), .unset]) rfl k) ?_
      refine Goes.to (T' := T43) (mkF m 332 #[.val (.int p0), .val (.int p1), .val (.int p2), .val (.int p3), .val (.int p4), .val (.int p5), .val (.int la), .val (.int c0), .val (.int c1), .val (.int lb), .val (.int b0), .val (.int b1), .val (.int nu), .val (.ref fa), .val (.ref fb), .val (.ref s1), .val (.ref s2), .val (.ref vo13), .val (.ref str39), .val (.ref vo40), .val (.ref vo41), .val (.ref b42), .val .null, .val (.int sty), .unset] [(.int nu)]) (fun t k => XS.iload X43.here hx rfl (hb hby at_330) rfl k) ?_
      refine Goes.to (T' := T43) (mkF m 351 #[.val (.int p0), .val (.int p1), .val (.int p2), .val (.int p3), .val (.int p4), .val (.int p5), .val (.int la), .val (.int c0), .val (.int c1), .val (.int lb), .val (.int b0), .val (.int b1), .val (.int nu), .val (.ref fa), .val (.ref fb), .val (.ref s1), .val (.ref s2), .val (.ref vo13), .val (.ref str39), .val (.ref vo40), .val (.ref vo41), .val (.ref b42), .val .null, .val (.int sty), .unset] []) (fun t k => XS.ifYes X43.here hx rfl (pc0 := 332) (pc' := 351) rfl (hb hby at_332) rfl ((if0 _ _).trans (feq (hc221_44 : ¬ (nu = (0 : Int32)))).2) (by decide) (by decide) k) ?_
      refine Goes.to (T' := T43) (mkF m 352 #[.val (.int p0), .val (.int p1), .val (.int p2), .val (.int p3), .val (.int p4), .val (.int p5), .val (.int la), .val (.int c0), .val (.int c1), .val (.int lb), .val (.int b0), .val (.int b1), .val (.int nu), .val (.ref fa), .val (.ref fb), .val (.ref s1), .val (.ref s2), .val (.ref vo13), .val (.ref str39), .val (.ref vo40), .val (.ref vo41), .val (.ref b42), .val .null, .val (.int sty), .unset] [(.int (0 : Int32))]) (fun t k => XS.iconst X43.here hx rfl (hb hby at_351) k) ?_
      refine Goes.to (T' := T43) (mkF m 354 #[.val (.int p0), .val (.int p1), .val (.int p2), .val (.int p3), .val (.int p4), .val (.int p5), .val (.int la), .val (.int c0), .val (.int c1), .val (.int lb), .val (.int b0), .val (.int b1), .val (.int nu), .val (.ref fa), .val (.ref fb), .val (.ref s1), .val (.ref s2), .val (.ref vo13), .val (.ref str39), .val (.ref vo40), .val (.ref vo41), .val (.ref b42), .val .null, .val (.int sty), .val (.int (0 : Int32))] []) (fun t k => XS.istore X43.here hx rfl (hb hby at_352) rfl (l' := #[.val (.int p0), .val (.int p1), .val (.int p2), .val (.int p3), .val (.int p4), .val (.int p5), .val (.int la), .val (.int c0), .val (.int c1), .val (.int lb), .val (.int b0), .val (.int b1), .val (.int nu), .val (.ref fa), .val (.ref fb), .val (.ref s1), .val (.ref s2), .val (.ref vo13), .val (.ref str39), .val (.ref vo40), .val (.ref vo41), .val (.ref b42), .val .null, .val (.int sty), .val (.int (0 : Int32))]) rfl k) ?_
      refine Goes.to (T' := T43) (mkF m 356 #[.val (.int p0), .val (.int p1), .val (.int p2), .val (.int p3), .val (.int p4), .val (.int p5), .val (.int la), .val (.int c0), .val (.int c1), .val (.int lb), .val (.int b0), .val (.int b1), .val (.int nu), .val (.ref fa), .val (.ref fb), .val (.ref s1), .val (.ref s2), .val (.ref vo13), .val (.ref str39), .val (.ref vo40), .val (.ref vo41), .val (.ref b42), .val .null, .val (.int sty), .val (.int (0 : Int32))] [(.ref b42)]) (fun t k => XS.aload X43.here hx rfl (hb hby at_354) rfl rfl k) ?_
      refine Goes.to (T' := T43) (mkF m 358 #[.val (.int p0), .val (.int p1), .val (.int p2), .val (.int p3), .val (.int p4), .val (.int p5), .val (.int la), .val (.int c0), .val (.int c1), .val (.int lb), .val (.int b0), .val (.int b1), .val (.int nu), .val (.ref fa), .val (.ref fb), .val (.ref s1), .val (.ref s2), .val (.ref vo13), .val (.ref str39), .val (.ref vo40), .val (.ref vo41), .val (.ref b42), .val .null, .val (.int sty), .val (.int (0 : Int32))] [.null, (.ref b42)]) (fun t k => XS.aload X43.here hx rfl (hb hby at_356) rfl rfl k) ?_
      obtain ⟨cq62, kq62, q62a, q62b, q62c⟩ := isOf hZ rfl E_b42
      obtain ⟨_, _, ⟨T62, L62, k62, n62⟩, -, X62, ⟨Lc62, hQ62, l62, y62, z62⟩, st62⟩ := X43.virtualBack hx (y := (⟨"com/example/forest_in_rows/forestinrows/Installation$OwnColumnDefinition", "standsAs", "(Lcom/example/forest_in_rows/forestinrows/CatalogColumn;)Z"⟩ : MethodName)) (z := (⟨"com/example/forest_in_rows/forestinrows/Installation$OwnColumnDefinition", "standsAs", "(Lcom/example/forest_in_rows/forestinrows/CatalogColumn;)Z"⟩ : MethodName)) hown (mvT hZ (hw _ (List.mem_of_getElem? (i := 62) rfl))) (mvT hZ (hw _ (List.mem_of_getElem? (i := 63) rfl))) (notFace_of_selects (args := #[]) (mvT hZ (hw _ (List.mem_of_getElem? (i := 65) rfl)))) (mvT hZ (hw _ (List.mem_of_getElem? (i := 65) rfl))) (mvT hZ (hw _ (List.mem_of_getElem? (i := 64) rfl))) (by decide) (backOf (W := 0) (rm_saN l Z a0 hw [] b42 T43.heap n0 O) hZ (hw _ (List.mem_of_getElem? (i := 66) rfl)) (hw _ (List.mem_of_getElem? (i := 44) rfl)) (by decide) (by decide)) q62a q62c (g := (mkF m 358 #[.val (.int p0), .val (.int p1), .val (.int p2), .val (.int p3), .val (.int p4), .val (.int p5), .val (.int la), .val (.int c0), .val (.int c1), .val (.int lb), .val (.int b0), .val (.int b1), .val (.int nu), .val (.ref fa), .val (.ref fb), .val (.ref s1), .val (.ref s2), .val (.ref vo13), .val (.ref str39), .val (.ref vo40), .val (.ref vo41), .val (.ref b42), .val .null, .val (.int sty), .val (.int (0 : Int32))] [.null, (.ref b42)])) rfl (by rw [hml]; rfl) (Steps.refl _) (argsL := [.null]) (rest := []) (lenOf pd_13 rfl) rfl (by show 2 * 0 + _ ≤ _; exact Nat.le_of_eq rfl) (hb hby at_358) (fun _ _ => ⟨rfl, rfl, (by decide : 17 + 0 ≤ _), (by decide : 87 + 0 ≤ _)⟩)
      dsimp only [Pt.U, Pt.locs, Pt.cells, Pt.slots] at X62 l62 y62 z62 st62 hQ62
      subst l62 y62 z62
      obtain ⟨rfl, N62, hs62⟩ := hQ62
      have N62' := Fr.app N43' N62
      refine Goes.to (T' := T62) (mkF m 361 #[.val (.int p0), .val (.int p1), .val (.int p2), .val (.int p3), .val (.int p4), .val (.int p5), .val (.int la), .val (.int c0), .val (.int c1), .val (.int lb), .val (.int b0), .val (.int b1), .val (.int nu), .val (.ref fa), .val (.ref fb), .val (.ref s1), .val (.ref s2), .val (.ref vo13), .val (.ref str39), .val (.ref vo40), .val (.ref vo41), .val (.ref b42), .val .null, .val (.int sty), .val (.int (0 : Int32))] [(.int (0 : Int32))]) (fun t k => st62.trans k) ?_
      refine Goes.to (T' := T62) (mkF m 363 #[.val (.int p0), .val (.int p1), .val (.int p2), .val (.int p3), .val (.int p4), .val (.int p5), .val (.int la), .val (.int c0), .val (.int c1), .val (.int lb), .val (.int b0), .val (.int b1), .val (.int nu), .val (.ref fa), .val (.ref fb), .val (.ref s1), .val (.ref s2), .val (.ref vo13), .val (.ref str39), .val (.ref vo40), .val (.ref vo41), .val (.ref b42), .val .null, .val (.int sty), .val (.int (0 : Int32))] [(.int (0 : Int32)), (.int (0 : Int32))]) (fun t k => XS.iload X62.here hx rfl (hb hby at_361) rfl k) ?_
      refine Goes.to (T' := T62) (mkF m 366 #[.val (.int p0), .val (.int p1), .val (.int p2), .val (.int p3), .val (.int p4), .val (.int p5), .val (.int la), .val (.int c0), .val (.int c1), .val (.int lb), .val (.int b0), .val (.int b1), .val (.int nu), .val (.ref fa), .val (.ref fb), .val (.ref s1), .val (.ref s2), .val (.ref vo13), .val (.ref str39), .val (.ref vo40), .val (.ref vo41), .val (.ref b42), .val .null, .val (.int sty), .val (.int (0 : Int32))] []) (fun t k => XS.icmpNo X62.here hx rfl (hb hby at_363) rfl (teq (by rfl : (0 : Int32) = (0 : Int32))).2 k) ?_
      refine Goes.to (T' := T62) (mkF m 367 #[.val (.int p0), .val (.int p1), .val (.int p2), .val (.int p3), .val (.int p4), .val (.int p5), .val (.int la), .val (.int c0), .val (.int c1), .val (.int lb), .val (.int b0), .val (.int b1), .val (.int nu), .val (.ref fa), .val (.ref fb), .val (.ref s1), .val (.ref s2), .val (.ref vo13), .val (.ref str39), .val (.ref vo40), .val (.ref vo41), .val (.ref b42), .val .null, .val (.int sty), .val (.int (0 : Int32))] [(.int (1 : Int32))]) (fun t k => XS.iconst X62.here hx rfl (hb hby at_366) k) ?_
      refine Goes.to (T' := T62) (mkF m 371 #[.val (.int p0), .val (.int p1), .val (.int p2), .val (.int p3), .val (.int p4), .val (.int p5), .val (.int la), .val (.int c0), .val (.int c1), .val (.int lb), .val (.int b0), .val (.int b1), .val (.int nu), .val (.ref fa), .val (.ref fb), .val (.ref s1), .val (.ref s2), .val (.ref vo13), .val (.ref str39), .val (.ref vo40), .val (.ref vo41), .val (.ref b42), .val .null, .val (.int sty), .val (.int (0 : Int32))] [(.int (1 : Int32))]) (fun t k => XS.goto X62.here hx rfl (pc0 := 367) (pc' := 371) rfl (hb hby at_367) (by decide) (by decide) k) ?_
      refine Goes.retNW X62 hx Bd.notSynchronized hS0 (by rw [hs62]; exact hk0) (t := .boolean) Bd.returns (by simp) (hb hby at_371) (by decide) (by decide) ?_
      rw [hs62]
      exact ⟨rfl, N62'⟩
set_option maxRecDepth 65536 in
set_option maxHeartbeats 40000000 in
theorem comes_1 {Post : Tables → Env → Array Value → State → Outcome → State → Prop} (hpost : ∀ tb e args s v u, (limb_1_1.after args s (.returned v) u = true ∧ limb_1_2.after args s (.returned v) u = true ∧ True) → ReturnedEndW s (.returned v) u (Jvm.fieldLocs frame_1_writes args s ++ Jvm.arrayLocs frame_1_arrays args s ++ Jvm.staticLocs frame_1_statics s) 40 2240 → Post tb e args s (.returned v) u) :
    ArmFor flags0 classFile x code maxLocals ret World_1 tables_1 room_1 Calls_1 rest_1 Pre_1 Post := by
  intro l hfl _ _ p e ha hc hk s m args below hf hA hF happ hP
  obtain ⟨hcalls, hrest, hpre⟩ := hP
  obtain ⟨-, -, -, hnamed, -, -, -, hat⟩ := (Spec.applies_iff hf).mp happ
  obtain ⟨hg, hn⟩ := and_e (Cond.before_iff.mp (show (Jvm.Cond.and given_1 narrow_1).before args s = true from hpre))
  obtain ⟨gg0, gr0⟩ := and_e hg
  obtain ⟨gg1, gr1⟩ := and_e gr0
  obtain ⟨gg2, gr2⟩ := and_e gr1
  obtain ⟨gg3, gr3⟩ := and_e gr2
  obtain ⟨gg4, gr4⟩ := and_e gr3
  obtain ⟨gg5, gr5⟩ := and_e gr4
  have gg6 := gr5
  obtain ⟨w0, w1, w2, w3, w4, w5, rfl⟩ : ∃ w0 w1 w2 w3 w4 w5 : Value, args = #[w0, w1, w2, w3, w4, w5] := by
    have hs : args.size = 6 := by simpa [Cond.value, given_1] using gg0
    obtain ⟨L⟩ := args
    match L, hs with
    | [w0, w1, w2, w3, w4, w5], _ => exact ⟨w0, w1, w2, w3, w4, w5, rfl⟩
  have hw := fun d (hd : d ∈ tables_1) => atoms_spec (ws := Jvm.Cond.code x code maxLocals ret :: tables_1) hat d (List.mem_cons_of_mem _ hd)
  have hfit : Fit s := fun {y c} hc i hi => by
    obtain ⟨ha, rfl⟩ := Array.getElem?_eq_some_iff.mp hc
    have q := List.all_eq_true.mp ((Array.all_eq_true_iff_forall_mem.mp hF) _ (Array.getElem_mem ha)) i (List.mem_range.mpr hi)
    simpa [Array.getElem?_eq_getElem hi] using q
  obtain ⟨hsets, hown0⟩ := atoms_of _ (rest_1_c_eq ▸ (show rest_1_c.before _ s = true from hrest))
  have hr0 := Cond.before_iff.mp hown0
  obtain ⟨i0, ei0⟩ := is_v gg1
  obtain rfl : w0 = (.int i0) := Option.some.inj ei0
  obtain ⟨i1, ei1⟩ := is_v gg2
  obtain rfl : w1 = (.int i1) := Option.some.inj ei1
  obtain ⟨i2, ei2⟩ := is_v gg3
  obtain rfl : w2 = (.int i2) := Option.some.inj ei2
  obtain ⟨i3, ei3⟩ := is_v gg4
  obtain rfl : w3 = (.int i3) := Option.some.inj ei3
  obtain ⟨i4, ei4⟩ := is_v gg5
  obtain rfl : w4 = (.int i4) := Option.some.inj ei4
  obtain ⟨i5, ei5⟩ := is_v gg6
  obtain rfl : w5 = (.int i5) := Option.some.inj ei5
  obtain ⟨nn0, nr0⟩ := and_e hn
  obtain ⟨nn1, nr1⟩ := and_e nr0
  obtain ⟨nn2, nr2⟩ := and_e nr1
  obtain ⟨nn3, nr3⟩ := and_e nr2
  obtain ⟨nn4, nr4⟩ := and_e nr3
  have nn5 := nr4
  obtain ⟨a_IDENTITY, ev_IDENTITY⟩ := exa_v nn0
  have S_IDENTITY : Sta s s.heap "com/example/forest_in_rows/forestinrows/CatalogColumn$Filling" "IDENTITY" "Lcom/example/forest_in_rows/forestinrows/CatalogColumn$Filling;" (.ref a_IDENTITY) := Sta.start ev_IDENTITY (Or.inr ⟨(hw _ (List.mem_of_getElem? (i := 6) rfl)), (hw _ (List.mem_of_getElem? (i := 7) rfl))⟩)
  have E_IDENTITY : Exa s s.heap a_IDENTITY "com/example/forest_in_rows/forestinrows/CatalogColumn$Filling" := Exa.start ev_IDENTITY nn0
  obtain ⟨a_WRITTEN, ev_WRITTEN⟩ := exa_v nn1
  have S_WRITTEN : Sta s s.heap "com/example/forest_in_rows/forestinrows/CatalogColumn$Filling" "WRITTEN" "Lcom/example/forest_in_rows/forestinrows/CatalogColumn$Filling;" (.ref a_WRITTEN) := Sta.start ev_WRITTEN (Or.inr ⟨(hw _ (List.mem_of_getElem? (i := 6) rfl)), (hw _ (List.mem_of_getElem? (i := 9) rfl))⟩)
  have E_WRITTEN : Exa s s.heap a_WRITTEN "com/example/forest_in_rows/forestinrows/CatalogColumn$Filling" := Exa.start ev_WRITTEN nn1
  obtain ⟨a_GENERATED, ev_GENERATED⟩ := exa_v nn2
  have S_GENERATED : Sta s s.heap "com/example/forest_in_rows/forestinrows/CatalogColumn$Filling" "GENERATED" "Lcom/example/forest_in_rows/forestinrows/CatalogColumn$Filling;" (.ref a_GENERATED) := Sta.start ev_GENERATED (Or.inr ⟨(hw _ (List.mem_of_getElem? (i := 6) rfl)), (hw _ (List.mem_of_getElem? (i := 68) rfl))⟩)
  have E_GENERATED : Exa s s.heap a_GENERATED "com/example/forest_in_rows/forestinrows/CatalogColumn$Filling" := Exa.start ev_GENERATED nn2
  have F_ordinal_IDENTITY : Fld s s.heap a_IDENTITY "java/lang/Enum" "ordinal" "I" (.int 1) := own_fldI ev_IDENTITY nn3
  have F_ordinal_GENERATED : Fld s s.heap a_GENERATED "java/lang/Enum" "ordinal" "I" (.int 2) := own_fldI ev_GENERATED nn4
  have F_ordinal_WRITTEN : Fld s s.heap a_WRITTEN "java/lang/Enum" "ordinal" "I" (.int 0) := own_fldI ev_WRITTEN nn5
  obtain ⟨hcs, -⟩ := hcalls
  obtain ⟨cz, ecz⟩ := is_v (Cond.before_iff.mp (hsets _ (List.mem_of_getElem? (i := 1) rfl)))
  have S_CS : Sta s s.heap "java/lang/String" "COMPACT_STRINGS" "Z" (.int cz) := Sta.start ecz (Or.inl (hsets _ (List.mem_of_getElem? (i := 0) rfl)))
  have hcz : ¬ cz = 0 := fun q => by
    have h1 := not_v (Cond.before_iff.mp (hsets _ (List.mem_of_getElem? (i := 2) rfl)))
    simp only [Cond.value, ecz, Term.int_eval] at h1
    simp [q] at h1
  have hCH : CHv s consts_1 s.vm s.heap := CHv.start (own_EW hw) (fun p hp => hcs p hp) (hsets _ (List.mem_of_getElem? (i := 2) rfl)) (hw _ (List.mem_of_getElem? (i := 16) rfl)) (hw _ (List.mem_of_getElem? (i := 15) rfl))
  obtain ⟨n, o, h1, h2, h3, _, L, rfl, ⟨rfl, N⟩, hq⟩ := rm_law l s _ hw tables_1 i0 i1 i2 i3 i4 i5 cz a_WRITTEN a_IDENTITY a_GENERATED s.heap s.heap.size (Old.start s) S_CS hcz S_WRITTEN S_IDENTITY S_GENERATED p e ha hc hk s m _ below hf ((Spec.applies_iff_loose hf).mp happ).1 ⟨rfl, State.Warmed39.refl s, rfl, hCH⟩ trivial
  refine ⟨n, _, h1, h2, h3, hpost _ _ _ _ _ _ ⟨Cond.after_iff.mpr rfl, Cond.after_iff.mpr (eq_i res_at (Term.int_eval (1)) rfl), trivial⟩ ⟨hq.1, hq.2.1, hq.2.2.1, (hq.2.2.2.sift fun y hy => Or.inr (N y hy)).mono (by decide) (by decide)⟩⟩
theorem main_1_1 : Claimed_1_1 := comes_1 fun _ _ _ _ _ _ h hF => ⟨h.1, hF⟩
theorem main_1_2 : Claimed_1_2 := comes_1 fun _ _ _ _ _ _ h hF => ⟨h.2.1, hF⟩

end Jvm.Pilot.@@N@@
namespace Jvm.Pilot.@@N@@
open Jvm Jvm.ClassFile Sem Op Lib Jvm.Free Jvm.Stand Jvm.Pilot.@@N@@.Jvm.D
/-! MADE BY PROGRAM (witnessworld.py) out of the Statement's table words and the real class files: 24 classes; the members and pool entries that the words name. The judged class is class 1, her method 3. -/
namespace start1
open Jvm.ClassFile
def u (s : String) : CpInfo := .utf8 (stringToUtf16 s)
/-- a pool by its gaps: so many unusable entries, then the entry; so many at the end -/
def gap : Nat → List CpInfo → List CpInfo
  | 0, r => r
  | n + 1, r => .unusable :: gap n r
def poolList (es : List (Nat × CpInfo)) (last : Nat) : List CpInfo := es.foldr (fun e r => gap e.1 (e.2 :: r)) (gap last [])
def pool (es : List (Nat × CpInfo)) (last : Nat) : Array CpInfo := ⟨poolList es last⟩
def fileOf (pool : Array CpInfo) (this : Nat) (attrs : Array Attribute := #[]) (ms : Array MethodInfo := #[]) (fl : Nat := 33) (sup : Nat := 0) (ifs : Array Nat := #[]) (fds : Array FieldInfo := #[]) : ClassFile where
  minorVersion := 0
  majorVersion := 65
  constantPool := pool
  accessFlags := fl
  thisClass := this
  superClass := sup
  interfaces := ifs
  fields := fds
  methods := ms
  attributes := attrs
def plain (name : String) (sup : Option ClassId) : Class where
  name := name
  kind := .ordinary
  loader := none
  accessFlags := 33
  super := sup
  interfaces := #[]
  cf := none
  fields := #[]
  methods := #[]
  instanceTypes := #[]
  staticTypes := #[]
  resolved := #[]
  callSites := []
  init := .initialized
  statics := none
  mirror := none

def pool0 : Array CpInfo := pool [(5, u "<init>"), (0, u "()V"), (1, .class_ 10), (1, u "java/lang/Object")] 113

def k0c0 : Code := { maxStack := 0, maxLocals := 1, code := object_method_1_code, exceptionTable := #[], attributes := #[] }
def k0m0 : Method := { name := "<init>", desc := "()V", sig := { parameters := [], returnType := none }, accessFlags := 1, code := some k0c0 }
/-- java/lang/Object -/
def k0 : Class := { plain "java/lang/Object" none with
  accessFlags := 33
  interfaces := #[]
  cf := some (fileOf pool0 8 #[] #[{ accessFlags := 1, nameIndex := 5, descriptorIndex := 6, attributes := #[] }] 33 0 #[] #[])
  fields := #[]
  methods := #[k0m0]
  instanceTypes := #[]
  staticTypes := #[]
  resolved := Array.replicate 124 none
  statics := none }

def pool1 : Array CpInfo := pool [(2, .class_ 4), (1, u "java/lang/Object"), (0, u "<init>"), (0, u "()V"), (0, .string 8), (0, u ""), (0, .methodref 10 11), (0, .class_ 12), (0, .nameAndType 13 14), (0, u "java/lang/String"), (0, u "valueOf"), (0, u "(C)Ljava/lang/String;"), (0, .methodref 10 16), (0, .nameAndType 5 17), (0, u "([C)V"), (0, .integer 2147483647), (0, .fieldref 20 21), (0, .class_ 22), (0, .nameAndType 23 24), (0, u "com/example/forest_in_rows/forestinrows/CatalogColumn$Filling"), (0, u "WRITTEN"), (0, u "Lcom/example/forest_in_rows/forestinrows/CatalogColumn$Filling;"), (0, .fieldref 20 26), (0, .nameAndType 27 24), (0, u "IDENTITY"), (0, .fieldref 20 29), (0, .nameAndType 30 24), (0, u "GENERATED"), (0, .methodref 32 33), (0, .class_ 34), (0, .nameAndType 35 36), (0, u "com/example/forest_in_rows/forestinrows/OwnColumnDefinitionStandsAsPinLaw"), (0, u "filling"), (0, u "(I)Lcom/example/forest_in_rows/forestinrows/CatalogColumn$Filling;"), (0, .methodref 32 38), (0, .nameAndType 39 40), (0, u "str"), (0, u "(ICC)Ljava/lang/String;"), (0, .string 42), (0, u " NOT NULL"), (0, .class_ 44), (0, u "com/example/forest_in_rows/forestinrows/Installation$OwnColumnDefinition"), (0, .methodref 43 46), (0, .nameAndType 5 47), (0, u "(Ljava/lang/String;Ljava/lang/String;Lcom/example/forest_in_rows/forestinrows/CatalogColumn$Filling;Ljava/lang/String;)V"), (0, .class_ 49), (0, u "com/example/forest_in_rows/forestinrows/CatalogColumn"), (0, .methodref 48 51), (0, .nameAndType 5 52), (0, u "(Ljava/lang/String;Lcom/example/forest_in_rows/forestinrows/CatalogColumn$Filling;ZZLjava/lang/String;Ljava/lang/String;Z)V"), (0, .methodref 43 54), (0, .nameAndType 55 56), (0, u "standsAs"), (0, u "(Lcom/example/forest_in_rows/forestinrows/CatalogColumn;)Z"), (3, u "law"), (0, u "(IIIIII)Z")] 7

def k1m0 : Method := { name := "<init>", desc := "()V", sig := { parameters := [], returnType := none }, accessFlags := 2, code := none }
def k1c1 : Code := { maxStack := 3, maxLocals := 4, code := method_2_code, exceptionTable := #[], attributes := #[] }
def k1m1 : Method := { name := "str", desc := "(ICC)Ljava/lang/String;", sig := { parameters := [.int, .char, .char], returnType := some (.object "java/lang/String") }, accessFlags := 10, code := some k1c1 }
def k1c2 : Code := { maxStack := 2, maxLocals := 2, code := method_3_code, exceptionTable := #[], attributes := #[] }
def k1m2 : Method := { name := "filling", desc := "(I)Lcom/example/forest_in_rows/forestinrows/CatalogColumn$Filling;", sig := { parameters := [.int], returnType := some (.object "com/example/forest_in_rows/forestinrows/CatalogColumn$Filling") }, accessFlags := 10, code := some k1c2 }
def k1c3 : Code := { maxStack := 10, maxLocals := 25, code := code, exceptionTable := #[], attributes := #[] }
def k1m3 : Method := { name := "law", desc := "(IIIIII)Z", sig := { parameters := [.int, .int, .int, .int, .int, .int], returnType := some .boolean }, accessFlags := 9, code := some k1c3 }
/-- com/example/forest_in_rows/forestinrows/OwnColumnDefinitionStandsAsPinLaw -/
def k1 : Class := { plain "com/example/forest_in_rows/forestinrows/OwnColumnDefinitionStandsAsPinLaw" (some 0) with
  accessFlags := 49
  interfaces := #[]
  cf := some (fileOf pool1 32 #[] #[{ accessFlags := 2, nameIndex := 5, descriptorIndex := 6, attributes := #[] }, { accessFlags := 10, nameIndex := 39, descriptorIndex := 40, attributes := #[] }, { accessFlags := 10, nameIndex := 35, descriptorIndex := 36, attributes := #[] }, { accessFlags := 9, nameIndex := 60, descriptorIndex := 61, attributes := #[] }] 49 2 #[] #[])
  fields := #[]
  methods := #[k1m0, k1m1, k1m2, k1m3]
  instanceTypes := #[]
  staticTypes := #[]
  resolved := Array.replicate 69 none
  statics := none }

def pool2 : Array CpInfo := pool [(1, .class_ 2), (0, u "java/lang/constant/Constable"), (0, .class_ 4), (0, u "java/lang/Object")] 6

/-- java/lang/constant/Constable -/
def k2 : Class := { plain "java/lang/constant/Constable" (some 0) with
  accessFlags := 1537
  interfaces := #[]
  cf := some (fileOf pool2 1 #[] #[] 1537 3 #[] #[])
  fields := #[]
  methods := #[]
  instanceTypes := #[]
  staticTypes := #[]
  resolved := Array.replicate 11 none
  statics := none }

def pool3 : Array CpInfo := pool [(1, .class_ 2), (0, u "java/lang/Comparable"), (0, .class_ 4), (0, u "java/lang/Object")] 7

/-- java/lang/Comparable -/
def k3 : Class := { plain "java/lang/Comparable" (some 0) with
  accessFlags := 1537
  interfaces := #[]
  cf := some (fileOf pool3 1 #[] #[] 1537 3 #[] #[])
  fields := #[]
  methods := #[]
  instanceTypes := #[]
  staticTypes := #[]
  resolved := Array.replicate 12 none
  statics := none }

def pool4 : Array CpInfo := pool [(1, .class_ 2), (0, u "java/io/Serializable"), (0, .class_ 4), (0, u "java/lang/Object")] 2

/-- java/io/Serializable -/
def k4 : Class := { plain "java/io/Serializable" (some 0) with
  accessFlags := 1537
  interfaces := #[]
  cf := some (fileOf pool4 1 #[] #[] 1537 3 #[] #[])
  fields := #[]
  methods := #[]
  instanceTypes := #[]
  staticTypes := #[]
  resolved := Array.replicate 7 none
  statics := none }

def pool5 : Array CpInfo := pool [(2, .class_ 4), (1, u "java/lang/Enum"), (0, u "name"), (0, u "Ljava/lang/String;"), (2, u "ordinal"), (0, u "I"), (1, .class_ 14), (1, u "java/lang/Object"), (4, u "hash"), (86, .class_ 108), (1, u "java/lang/Enum$EnumDesc"), (2, .class_ 112), (0, u "java/lang/constant/Constable"), (0, .class_ 114), (0, u "java/lang/Comparable"), (0, .class_ 116), (0, u "java/io/Serializable")] 87

/-- java/lang/Enum -/
def k5 : Class := { plain "java/lang/Enum" (some 0) with
  accessFlags := 1057
  interfaces := #[2, 3, 4]
  cf := some (fileOf pool5 2 #[.nestMembers #[106]] #[] 1057 12 #[111, 113, 115] #[{ accessFlags := 18, nameIndex := 5, descriptorIndex := 6, attributes := #[] }, { accessFlags := 18, nameIndex := 9, descriptorIndex := 10, attributes := #[] }, { accessFlags := 2, nameIndex := 19, descriptorIndex := 10, attributes := #[] }])
  fields := #[{ name := "name", type := (.object "java/lang/String"), accessFlags := 18, slot := 0, constantValue := 0 }, { name := "ordinal", type := .int, accessFlags := 18, slot := 1, constantValue := 0 }, { name := "hash", type := .int, accessFlags := 2, slot := 2, constantValue := 0 }]
  methods := #[]
  instanceTypes := #[(.object "java/lang/String"), .int, .int]
  staticTypes := #[]
  resolved := Array.replicate 204 none
  statics := none }

def pool6 : Array CpInfo := pool [(1, .class_ 2), (0, u "com/example/forest_in_rows/forestinrows/CatalogColumn$Filling"), (2, u "WRITTEN"), (0, u "Lcom/example/forest_in_rows/forestinrows/CatalogColumn$Filling;"), (2, u "IDENTITY"), (2, u "GENERATED"), (2, u "$VALUES"), (0, u "[Lcom/example/forest_in_rows/forestinrows/CatalogColumn$Filling;"), (6, .class_ 25), (1, u "java/lang/Enum"), (26, .class_ 53), (0, u "com/example/forest_in_rows/forestinrows/CatalogColumn")] 2

/-- com/example/forest_in_rows/forestinrows/CatalogColumn$Filling -/
def k6 : Class := { plain "com/example/forest_in_rows/forestinrows/CatalogColumn$Filling" (some 5) with
  accessFlags := 16432
  interfaces := #[]
  cf := some (fileOf pool6 1 #[.nestHost 52] #[] 16432 23 #[] #[{ accessFlags := 16409, nameIndex := 5, descriptorIndex := 6, attributes := #[] }, { accessFlags := 16409, nameIndex := 9, descriptorIndex := 6, attributes := #[] }, { accessFlags := 16409, nameIndex := 12, descriptorIndex := 6, attributes := #[] }, { accessFlags := 4122, nameIndex := 15, descriptorIndex := 16, attributes := #[] }])
  fields := #[{ name := "WRITTEN", type := (.object "com/example/forest_in_rows/forestinrows/CatalogColumn$Filling"), accessFlags := 16409, slot := 0, constantValue := 0 }, { name := "IDENTITY", type := (.object "com/example/forest_in_rows/forestinrows/CatalogColumn$Filling"), accessFlags := 16409, slot := 1, constantValue := 0 }, { name := "GENERATED", type := (.object "com/example/forest_in_rows/forestinrows/CatalogColumn$Filling"), accessFlags := 16409, slot := 2, constantValue := 0 }, { name := "$VALUES", type := (.array (.object "com/example/forest_in_rows/forestinrows/CatalogColumn$Filling")), accessFlags := 4122, slot := 3, constantValue := 0 }]
  methods := #[]
  instanceTypes := #[(.object "java/lang/String"), .int, .int]
  staticTypes := #[(.object "com/example/forest_in_rows/forestinrows/CatalogColumn$Filling"), (.object "com/example/forest_in_rows/forestinrows/CatalogColumn$Filling"), (.object "com/example/forest_in_rows/forestinrows/CatalogColumn$Filling"), (.array (.object "com/example/forest_in_rows/forestinrows/CatalogColumn$Filling"))]
  resolved := Array.replicate 56 none
  statics := some 0 }

def pool7 : Array CpInfo := pool [(2, .class_ 4), (1, u "java/lang/CharSequence"), (42, .class_ 48), (0, u "java/lang/CharSequence$1CodePointIterator"), (10, .class_ 60), (0, u "java/lang/CharSequence$1CharIterator"), (5, .class_ 67), (0, u "java/lang/Object")] 63

/-- java/lang/CharSequence -/
def k7 : Class := { plain "java/lang/CharSequence" (some 0) with
  accessFlags := 1537
  interfaces := #[]
  cf := some (fileOf pool7 2 #[.nestMembers #[47, 59]] #[] 1537 66 #[] #[])
  fields := #[]
  methods := #[]
  instanceTypes := #[]
  staticTypes := #[]
  resolved := Array.replicate 131 none
  statics := none }

def pool8 : Array CpInfo := pool [(1, .class_ 2), (0, u "java/lang/constant/ConstantDesc"), (0, .class_ 4), (0, u "java/lang/Object")] 32

/-- java/lang/constant/ConstantDesc -/
def k8 : Class := { plain "java/lang/constant/ConstantDesc" (some 0) with
  accessFlags := 1537
  interfaces := #[]
  cf := some (fileOf pool8 1 #[] #[] 1537 3 #[] #[])
  fields := #[]
  methods := #[]
  instanceTypes := #[]
  staticTypes := #[]
  resolved := Array.replicate 37 none
  statics := none }

def pool9 : Array CpInfo := pool [(1, .methodref 2 3), (0, .class_ 4), (0, .nameAndType 5 6), (0, u "java/lang/Object"), (0, u "<init>"), (0, u "()V"), (2, .fieldref 10 11), (0, .class_ 12), (0, .nameAndType 13 14), (0, u "java/lang/String"), (0, u "value"), (0, u "[B"), (0, .fieldref 10 16), (0, .nameAndType 17 18), (0, u "coder"), (0, u "B"), (2, u "hash"), (0, u "I"), (2, u "hashIsZero"), (0, u "Z"), (0, .methodref 10 28), (0, .nameAndType 5 29), (0, u "([CIILjava/lang/Void;)V"), (8, .fieldref 10 39), (0, .nameAndType 40 26), (0, u "COMPACT_STRINGS"), (1, .class_ 44), (1, u "java/lang/StringUTF16"), (0, u "compress"), (1, .methodref 42 48), (0, .nameAndType 49 50), (0, u "coderFromArrayLen"), (0, u "([BI)B"), (2, u "toBytes"), (53, .class_ 109), (1, u "java/lang/StringLatin1"), (67, .methodref 42 178), (0, .nameAndType 45 179), (0, u "([CII)[B"), (29, .methodref 10 210), (0, .nameAndType 5 211), (0, u "([BB)V"), (157, u "(C)Z"), (171, .methodref 107 542), (0, .nameAndType 543 544), (0, u "equals"), (0, u "([B[B)Z"), (28, u "(Ljava/lang/Object;)Z"), (1, .class_ 576), (0, u "java/lang/CharSequence"), (22, u "CASE_INSENSITIVE_ORDER"), (0, u "Ljava/util/Comparator;"), (181, u "valueOf"), (0, u "(C)Ljava/lang/String;"), (226, u "([C)V"), (4, .methodref 107 1016), (0, .nameAndType 1017 369), (0, u "canEncode"), (0, .methodref 107 1019), (0, .nameAndType 53 1020), (0, u "(C)[B"), (80, u "serialPersistentFields"), (0, u "[Ljava/io/ObjectStreamField;"), (0, .class_ 1104), (0, u "java/lang/String$CaseInsensitiveComparator"), (1, .class_ 1107), (0, u "java/io/Serializable"), (0, .class_ 1109), (0, u "java/lang/Comparable"), (0, .class_ 1111), (0, u "java/lang/constant/Constable"), (0, .class_ 1113), (0, u "java/lang/constant/ConstantDesc"), (2, u "serialVersionUID"), (0, u "J"), (3, u "REPL"), (0, u "C"), (2, u "LATIN1"), (1, u "UTF16")] 323

def k9m0 : Method := { name := "<init>", desc := "()V", sig := { parameters := [], returnType := none }, accessFlags := 1, code := none }
def k9c1 : Code := { maxStack := 5, maxLocals := 2, code := jdk_42_method_3_code, exceptionTable := #[], attributes := #[] }
def k9m1 : Method := { name := "<init>", desc := "([C)V", sig := { parameters := [(.array .char)], returnType := none }, accessFlags := 1, code := some k9c1 }
def k9c2 : Code := { maxStack := 2, maxLocals := 3, code := jdk_42_method_66_code, exceptionTable := #[], attributes := #[] }
def k9m2 : Method := { name := "equals", desc := "(Ljava/lang/Object;)Z", sig := { parameters := [(.object "java/lang/Object")], returnType := some .boolean }, accessFlags := 1, code := some k9c2 }
def k9c3 : Code := { maxStack := 4, maxLocals := 1, code := jdk_42_method_139_code, exceptionTable := #[], attributes := #[] }
def k9m3 : Method := { name := "valueOf", desc := "(C)Ljava/lang/String;", sig := { parameters := [.char], returnType := some (.object "java/lang/String") }, accessFlags := 9, code := some k9c3 }
def k9c4 : Code := { maxStack := 4, maxLocals := 6, code := jdk_42_method_149_code, exceptionTable := #[], attributes := #[] }
def k9m4 : Method := { name := "<init>", desc := "([CIILjava/lang/Void;)V", sig := { parameters := [(.array .char), .int, .int, (.object "java/lang/Void")], returnType := none }, accessFlags := 2, code := some k9c4 }
def k9c5 : Code := { maxStack := 2, maxLocals := 3, code := jdk_42_method_151_code, exceptionTable := #[], attributes := #[] }
def k9m5 : Method := { name := "<init>", desc := "([BB)V", sig := { parameters := [(.array .byte), .byte], returnType := none }, accessFlags := 0, code := some k9c5 }
/-- java/lang/String -/
def k9 : Class := { plain "java/lang/String" (some 0) with
  accessFlags := 49
  interfaces := #[4, 3, 7, 2, 8]
  cf := some (fileOf pool9 10 #[.nestMembers #[1103]] #[{ accessFlags := 1, nameIndex := 5, descriptorIndex := 6, attributes := #[] }, { accessFlags := 1, nameIndex := 5, descriptorIndex := 1010, attributes := #[] }, { accessFlags := 1, nameIndex := 543, descriptorIndex := 573, attributes := #[] }, { accessFlags := 9, nameIndex := 782, descriptorIndex := 783, attributes := #[] }, { accessFlags := 2, nameIndex := 5, descriptorIndex := 29, attributes := #[] }, { accessFlags := 0, nameIndex := 5, descriptorIndex := 211, attributes := #[] }] 49 2 #[1106, 1108, 575, 1110, 1112] #[{ accessFlags := 18, nameIndex := 13, descriptorIndex := 14, attributes := #[] }, { accessFlags := 18, nameIndex := 17, descriptorIndex := 18, attributes := #[] }, { accessFlags := 2, nameIndex := 21, descriptorIndex := 22, attributes := #[] }, { accessFlags := 2, nameIndex := 25, descriptorIndex := 26, attributes := #[] }, { accessFlags := 26, nameIndex := 1116, descriptorIndex := 1117, attributes := #[] }, { accessFlags := 24, nameIndex := 40, descriptorIndex := 26, attributes := #[] }, { accessFlags := 26, nameIndex := 1101, descriptorIndex := 1102, attributes := #[] }, { accessFlags := 26, nameIndex := 1121, descriptorIndex := 1122, attributes := #[] }, { accessFlags := 25, nameIndex := 599, descriptorIndex := 600, attributes := #[] }, { accessFlags := 24, nameIndex := 1125, descriptorIndex := 18, attributes := #[] }, { accessFlags := 24, nameIndex := 1127, descriptorIndex := 18, attributes := #[] }])
  fields := #[{ name := "value", type := (.array .byte), accessFlags := 18, slot := 0, constantValue := 0 }, { name := "coder", type := .byte, accessFlags := 18, slot := 1, constantValue := 0 }, { name := "hash", type := .int, accessFlags := 2, slot := 2, constantValue := 0 }, { name := "hashIsZero", type := .boolean, accessFlags := 2, slot := 3, constantValue := 0 }, { name := "serialVersionUID", type := .long, accessFlags := 26, slot := 0, constantValue := 0 }, { name := "COMPACT_STRINGS", type := .boolean, accessFlags := 24, slot := 1, constantValue := 0 }, { name := "serialPersistentFields", type := (.array (.object "java/io/ObjectStreamField")), accessFlags := 26, slot := 2, constantValue := 0 }, { name := "REPL", type := .char, accessFlags := 26, slot := 3, constantValue := 0 }, { name := "CASE_INSENSITIVE_ORDER", type := (.object "java/util/Comparator"), accessFlags := 25, slot := 4, constantValue := 0 }, { name := "LATIN1", type := .byte, accessFlags := 24, slot := 5, constantValue := 0 }, { name := "UTF16", type := .byte, accessFlags := 24, slot := 6, constantValue := 0 }]
  methods := #[k9m0, k9m1, k9m2, k9m3, k9m4, k9m5]
  instanceTypes := #[(.array .byte), .byte, .int, .boolean]
  staticTypes := #[.long, .boolean, (.array (.object "java/io/ObjectStreamField")), .char, (.object "java/util/Comparator"), .byte, .byte]
  resolved := Array.replicate 1451 none
  statics := some 1 }

def pool10 : Array CpInfo := pool [(4, .class_ 6), (1, u "java/lang/Object"), (0, u "<init>"), (0, u "()V"), (5, .class_ 16), (1, u "java/lang/StringLatin1"), (73, u "canEncode"), (14, u "(C)Z"), (15, u "$assertionsDisabled"), (0, u "Z"), (98, .class_ 223), (1, u "java/lang/StringLatin1$LinesSpliterator"), (57, u "equals"), (0, u "([B[B)Z"), (97, u "toBytes"), (1, u "(C)[B"), (7, .class_ 391), (0, u "java/lang/StringLatin1$CharsSpliterator")] 3

def k10m0 : Method := { name := "<init>", desc := "()V", sig := { parameters := [], returnType := none }, accessFlags := 0, code := none }
def k10c1 : Code := { maxStack := 2, maxLocals := 1, code := jdk_43_method_3_code, exceptionTable := #[], attributes := #[] }
def k10m1 : Method := { name := "canEncode", desc := "(C)Z", sig := { parameters := [.char], returnType := some .boolean }, accessFlags := 9, code := some k10c1 }
def k10c2 : Code := { maxStack := 3, maxLocals := 3, code := jdk_43_method_13_code, exceptionTable := #[], attributes := #[] }
def k10m2 : Method := { name := "equals", desc := "([B[B)Z", sig := { parameters := [(.array .byte), (.array .byte)], returnType := some .boolean }, accessFlags := 9, code := some k10c2 }
def k10c3 : Code := { maxStack := 4, maxLocals := 1, code := jdk_43_method_46_code, exceptionTable := #[], attributes := #[] }
def k10m3 : Method := { name := "toBytes", desc := "(C)[B", sig := { parameters := [.char], returnType := some (.array .byte) }, accessFlags := 9, code := some k10c3 }
/-- java/lang/StringLatin1 -/
def k10 : Class := { plain "java/lang/StringLatin1" (some 0) with
  accessFlags := 48
  interfaces := #[]
  cf := some (fileOf pool10 14 #[.nestMembers #[390, 221]] #[{ accessFlags := 0, nameIndex := 7, descriptorIndex := 8, attributes := #[] }, { accessFlags := 9, nameIndex := 90, descriptorIndex := 105, attributes := #[] }, { accessFlags := 9, nameIndex := 281, descriptorIndex := 282, attributes := #[] }, { accessFlags := 9, nameIndex := 380, descriptorIndex := 382, attributes := #[] }] 48 4 #[] #[{ accessFlags := 4120, nameIndex := 121, descriptorIndex := 122, attributes := #[] }])
  fields := #[{ name := "$assertionsDisabled", type := .boolean, accessFlags := 4120, slot := 0, constantValue := 0 }]
  methods := #[k10m0, k10m1, k10m2, k10m3]
  instanceTypes := #[]
  staticTypes := #[.boolean]
  resolved := Array.replicate 395 none
  statics := none }

def pool11 : Array CpInfo := pool [(1, .methodref 2 3), (0, .class_ 4), (0, .nameAndType 5 6), (0, u "java/lang/Object"), (0, u "<init>"), (0, u "()V"), (0, .class_ 8), (0, u "java/lang/Record")] 13

def k11c0 : Code := { maxStack := 1, maxLocals := 1, code := jdk_30_method_1_code, exceptionTable := #[], attributes := #[] }
def k11m0 : Method := { name := "<init>", desc := "()V", sig := { parameters := [], returnType := none }, accessFlags := 4, code := some k11c0 }
/-- java/lang/Record -/
def k11 : Class := { plain "java/lang/Record" (some 0) with
  accessFlags := 1057
  interfaces := #[]
  cf := some (fileOf pool11 7 #[] #[{ accessFlags := 4, nameIndex := 5, descriptorIndex := 6, attributes := #[] }] 1057 2 #[] #[])
  fields := #[]
  methods := #[k11m0]
  instanceTypes := #[]
  staticTypes := #[]
  resolved := Array.replicate 22 none
  statics := none }

def pool12 : Array CpInfo := pool [(1, .methodref 2 3), (0, .class_ 4), (0, .nameAndType 5 6), (0, u "java/lang/Record"), (0, u "<init>"), (0, u "()V"), (0, .fieldref 8 9), (0, .class_ 10), (0, .nameAndType 11 12), (0, u "com/example/forest_in_rows/forestinrows/Installation$OwnColumnDefinition"), (0, u "name"), (0, u "Ljava/lang/String;"), (0, .fieldref 8 14), (0, .nameAndType 15 12), (0, u "type"), (0, .fieldref 8 17), (0, .nameAndType 18 19), (0, u "filling"), (0, u "Lcom/example/forest_in_rows/forestinrows/CatalogColumn$Filling;"), (0, .fieldref 8 21), (0, .nameAndType 22 12), (0, u "constraints"), (0, .methodref 24 25), (0, .class_ 26), (0, .nameAndType 15 27), (0, u "com/example/forest_in_rows/forestinrows/CatalogColumn"), (0, u "()Ljava/lang/String;"), (0, .methodref 29 30), (0, .class_ 31), (0, .nameAndType 32 33), (0, u "java/lang/String"), (0, u "equals"), (0, u "(Ljava/lang/Object;)Z"), (0, .methodref 24 35), (0, .nameAndType 18 36), (0, u "()Lcom/example/forest_in_rows/forestinrows/CatalogColumn$Filling;"), (11, u "(Ljava/lang/String;Ljava/lang/String;Lcom/example/forest_in_rows/forestinrows/CatalogColumn$Filling;Ljava/lang/String;)V"), (3, u "standsAs"), (0, u "(Lcom/example/forest_in_rows/forestinrows/CatalogColumn;)Z"), (5, .class_ 60), (0, u "com/example/forest_in_rows/forestinrows/Installation")] 25

def k12c0 : Code := { maxStack := 2, maxLocals := 5, code := prog_45_method_1_code, exceptionTable := #[], attributes := #[] }
def k12m0 : Method := { name := "<init>", desc := "(Ljava/lang/String;Ljava/lang/String;Lcom/example/forest_in_rows/forestinrows/CatalogColumn$Filling;Ljava/lang/String;)V", sig := { parameters := [(.object "java/lang/String"), (.object "java/lang/String"), (.object "com/example/forest_in_rows/forestinrows/CatalogColumn$Filling"), (.object "java/lang/String")], returnType := none }, accessFlags := 0, code := some k12c0 }
def k12c1 : Code := { maxStack := 2, maxLocals := 2, code := prog_45_method_2_code, exceptionTable := #[], attributes := #[] }
def k12m1 : Method := { name := "standsAs", desc := "(Lcom/example/forest_in_rows/forestinrows/CatalogColumn;)Z", sig := { parameters := [(.object "com/example/forest_in_rows/forestinrows/CatalogColumn")], returnType := some .boolean }, accessFlags := 0, code := some k12c1 }
/-- com/example/forest_in_rows/forestinrows/Installation$OwnColumnDefinition -/
def k12 : Class := { plain "com/example/forest_in_rows/forestinrows/Installation$OwnColumnDefinition" (some 11) with
  accessFlags := 48
  interfaces := #[]
  cf := some (fileOf pool12 8 #[.nestHost 59] #[{ accessFlags := 0, nameIndex := 5, descriptorIndex := 48, attributes := #[] }, { accessFlags := 0, nameIndex := 52, descriptorIndex := 53, attributes := #[] }] 48 2 #[] #[{ accessFlags := 18, nameIndex := 11, descriptorIndex := 12, attributes := #[] }, { accessFlags := 18, nameIndex := 15, descriptorIndex := 12, attributes := #[] }, { accessFlags := 18, nameIndex := 18, descriptorIndex := 19, attributes := #[] }, { accessFlags := 18, nameIndex := 22, descriptorIndex := 12, attributes := #[] }])
  fields := #[{ name := "name", type := (.object "java/lang/String"), accessFlags := 18, slot := 0, constantValue := 0 }, { name := "type", type := (.object "java/lang/String"), accessFlags := 18, slot := 1, constantValue := 0 }, { name := "filling", type := (.object "com/example/forest_in_rows/forestinrows/CatalogColumn$Filling"), accessFlags := 18, slot := 2, constantValue := 0 }, { name := "constraints", type := (.object "java/lang/String"), accessFlags := 18, slot := 3, constantValue := 0 }]
  methods := #[k12m0, k12m1]
  instanceTypes := #[(.object "java/lang/String"), (.object "java/lang/String"), (.object "com/example/forest_in_rows/forestinrows/CatalogColumn$Filling"), (.object "java/lang/String")]
  staticTypes := #[]
  resolved := Array.replicate 86 none
  statics := none }

def pool13 : Array CpInfo := pool [(1, .methodref 2 3), (0, .class_ 4), (0, .nameAndType 5 6), (0, u "java/lang/Record"), (0, u "<init>"), (0, u "()V"), (0, .fieldref 8 9), (0, .class_ 10), (0, .nameAndType 11 12), (0, u "com/example/forest_in_rows/forestinrows/CatalogColumn"), (0, u "type"), (0, u "Ljava/lang/String;"), (0, .fieldref 8 14), (0, .nameAndType 15 16), (0, u "filling"), (0, u "Lcom/example/forest_in_rows/forestinrows/CatalogColumn$Filling;"), (0, .fieldref 8 18), (0, .nameAndType 19 20), (0, u "collatable"), (0, u "Z"), (0, .fieldref 8 22), (0, .nameAndType 23 20), (0, u "sortable"), (0, .fieldref 8 25), (0, .nameAndType 26 12), (0, u "declaredType"), (0, .fieldref 8 28), (0, .nameAndType 29 12), (0, u "baseType"), (0, .fieldref 8 31), (0, .nameAndType 32 20), (0, u "baseTypeKeepsModifiers"), (16, u "(Ljava/lang/String;Lcom/example/forest_in_rows/forestinrows/CatalogColumn$Filling;ZZLjava/lang/String;Ljava/lang/String;Z)V"), (5, u "()Ljava/lang/String;"), (2, u "()Lcom/example/forest_in_rows/forestinrows/CatalogColumn$Filling;"), (4, .class_ 64), (0, u "com/example/forest_in_rows/forestinrows/CatalogColumn$Filling")] 33

def k13c0 : Code := { maxStack := 2, maxLocals := 8, code := prog_17_method_1_code, exceptionTable := #[], attributes := #[] }
def k13m0 : Method := { name := "<init>", desc := "(Ljava/lang/String;Lcom/example/forest_in_rows/forestinrows/CatalogColumn$Filling;ZZLjava/lang/String;Ljava/lang/String;Z)V", sig := { parameters := [(.object "java/lang/String"), (.object "com/example/forest_in_rows/forestinrows/CatalogColumn$Filling"), .boolean, .boolean, (.object "java/lang/String"), (.object "java/lang/String"), .boolean], returnType := none }, accessFlags := 0, code := some k13c0 }
def k13c1 : Code := { maxStack := 1, maxLocals := 1, code := prog_17_method_6_code, exceptionTable := #[], attributes := #[] }
def k13m1 : Method := { name := "type", desc := "()Ljava/lang/String;", sig := { parameters := [], returnType := some (.object "java/lang/String") }, accessFlags := 1, code := some k13c1 }
def k13c2 : Code := { maxStack := 1, maxLocals := 1, code := prog_17_method_7_code, exceptionTable := #[], attributes := #[] }
def k13m2 : Method := { name := "filling", desc := "()Lcom/example/forest_in_rows/forestinrows/CatalogColumn$Filling;", sig := { parameters := [], returnType := some (.object "com/example/forest_in_rows/forestinrows/CatalogColumn$Filling") }, accessFlags := 1, code := some k13c2 }
/-- com/example/forest_in_rows/forestinrows/CatalogColumn -/
def k13 : Class := { plain "com/example/forest_in_rows/forestinrows/CatalogColumn" (some 11) with
  accessFlags := 48
  interfaces := #[]
  cf := some (fileOf pool13 8 #[.nestMembers #[63]] #[{ accessFlags := 0, nameIndex := 5, descriptorIndex := 49, attributes := #[] }, { accessFlags := 1, nameIndex := 11, descriptorIndex := 55, attributes := #[] }, { accessFlags := 1, nameIndex := 15, descriptorIndex := 58, attributes := #[] }] 48 2 #[] #[{ accessFlags := 18, nameIndex := 11, descriptorIndex := 12, attributes := #[] }, { accessFlags := 18, nameIndex := 15, descriptorIndex := 16, attributes := #[] }, { accessFlags := 18, nameIndex := 19, descriptorIndex := 20, attributes := #[] }, { accessFlags := 18, nameIndex := 23, descriptorIndex := 20, attributes := #[] }, { accessFlags := 18, nameIndex := 26, descriptorIndex := 12, attributes := #[] }, { accessFlags := 18, nameIndex := 29, descriptorIndex := 12, attributes := #[] }, { accessFlags := 18, nameIndex := 32, descriptorIndex := 20, attributes := #[] }])
  fields := #[{ name := "type", type := (.object "java/lang/String"), accessFlags := 18, slot := 0, constantValue := 0 }, { name := "filling", type := (.object "com/example/forest_in_rows/forestinrows/CatalogColumn$Filling"), accessFlags := 18, slot := 1, constantValue := 0 }, { name := "collatable", type := .boolean, accessFlags := 18, slot := 2, constantValue := 0 }, { name := "sortable", type := .boolean, accessFlags := 18, slot := 3, constantValue := 0 }, { name := "declaredType", type := (.object "java/lang/String"), accessFlags := 18, slot := 4, constantValue := 0 }, { name := "baseType", type := (.object "java/lang/String"), accessFlags := 18, slot := 5, constantValue := 0 }, { name := "baseTypeKeepsModifiers", type := .boolean, accessFlags := 18, slot := 6, constantValue := 0 }]
  methods := #[k13m0, k13m1, k13m2]
  instanceTypes := #[(.object "java/lang/String"), (.object "com/example/forest_in_rows/forestinrows/CatalogColumn$Filling"), .boolean, .boolean, (.object "java/lang/String"), (.object "java/lang/String"), .boolean]
  staticTypes := #[]
  resolved := Array.replicate 98 none
  statics := none }

def pool14 : Array CpInfo := pool [(6, .class_ 8), (1, u "java/lang/Object"), (0, u "<init>"), (0, u "()V"), (1, .class_ 14), (1, u "java/lang/StringUTF16"), (31, u "$assertionsDisabled"), (0, u "Z"), (13, u "HI_BYTE_SHIFT"), (0, u "I"), (2, u "LO_BYTE_SHIFT"), (49, .methodref 12 116), (0, .nameAndType 117 118), (0, u "compress"), (0, u "([CI[BII)I"), (3, u "([CII)[B"), (138, u "coderFromArrayLen"), (0, u "([BI)B"), (106, .class_ 371), (1, u "java/lang/StringUTF16$LinesSpliterator"), (58, u "MAX_LENGTH"), (196, .class_ 628), (0, u "java/lang/StringUTF16$CodePointsSpliterator"), (0, .class_ 630), (0, u "java/lang/StringUTF16$CharsSpliterator")] 4

def k14m0 : Method := { name := "<init>", desc := "()V", sig := { parameters := [], returnType := none }, accessFlags := 0, code := none }
def k14c1 : Code := { maxStack := 2, maxLocals := 2, code := jdk_52_method_15_code, exceptionTable := #[], attributes := #[] }
def k14m1 : Method := { name := "coderFromArrayLen", desc := "([BI)B", sig := { parameters := [(.array .byte), .int], returnType := some .byte }, accessFlags := 8, code := some k14c1 }
def k14c2 : Code := { maxStack := 5, maxLocals := 6, code := jdk_52_method_16_code, exceptionTable := #[], attributes := #[] }
def k14m2 : Method := { name := "compress", desc := "([CII)[B", sig := { parameters := [(.array .char), .int, .int], returnType := some (.array .byte) }, accessFlags := 9, code := some k14c2 }
def k14c3 : Code := { maxStack := 3, maxLocals := 7, code := jdk_52_method_21_code, exceptionTable := #[], attributes := #[] }
def k14m3 : Method := { name := "compress", desc := "([CI[BII)I", sig := { parameters := [(.array .char), .int, (.array .byte), .int, .int], returnType := some .int }, accessFlags := 9, code := some k14c3 }
/-- java/lang/StringUTF16 -/
def k14 : Class := { plain "java/lang/StringUTF16" (some 0) with
  accessFlags := 48
  interfaces := #[]
  cf := some (fileOf pool14 12 #[.nestMembers #[627, 629, 369]] #[{ accessFlags := 0, nameIndex := 9, descriptorIndex := 10, attributes := #[] }, { accessFlags := 8, nameIndex := 261, descriptorIndex := 262, attributes := #[] }, { accessFlags := 9, nameIndex := 117, descriptorIndex := 122, attributes := #[] }, { accessFlags := 9, nameIndex := 117, descriptorIndex := 118, attributes := #[] }] 48 6 #[] #[{ accessFlags := 26, nameIndex := 61, descriptorIndex := 62, attributes := #[] }, { accessFlags := 26, nameIndex := 65, descriptorIndex := 62, attributes := #[] }, { accessFlags := 24, nameIndex := 430, descriptorIndex := 62, attributes := #[] }, { accessFlags := 4120, nameIndex := 46, descriptorIndex := 47, attributes := #[] }])
  fields := #[{ name := "HI_BYTE_SHIFT", type := .int, accessFlags := 26, slot := 0, constantValue := 0 }, { name := "LO_BYTE_SHIFT", type := .int, accessFlags := 26, slot := 1, constantValue := 0 }, { name := "MAX_LENGTH", type := .int, accessFlags := 24, slot := 2, constantValue := 0 }, { name := "$assertionsDisabled", type := .boolean, accessFlags := 4120, slot := 3, constantValue := 0 }]
  methods := #[k14m0, k14m1, k14m2, k14m3]
  instanceTypes := #[]
  staticTypes := #[.int, .int, .int, .boolean]
  resolved := Array.replicate 635 none
  statics := none }

def pool15 : Array CpInfo := pool [(2, .class_ 4), (1, u "java/lang/Object"), (0, u "<init>"), (0, u "()V"), (17, .class_ 26), (1, u "jdk/internal/util/Preconditions"), (28, .class_ 56), (0, u "jdk/internal/util/Preconditions$4"), (57, .class_ 115), (0, u "jdk/internal/util/Preconditions$1"), (7, u "SIOOBE_FORMATTER"), (0, u "Ljava/util/function/BiFunction;"), (0, .class_ 126), (0, u "jdk/internal/util/Preconditions$2"), (3, u "AIOOBE_FORMATTER"), (0, .class_ 132), (0, u "jdk/internal/util/Preconditions$3"), (3, u "IOOBE_FORMATTER")] 57

def k15m0 : Method := { name := "<init>", desc := "()V", sig := { parameters := [], returnType := none }, accessFlags := 1, code := none }
/-- jdk/internal/util/Preconditions -/
def k15 : Class := { plain "jdk/internal/util/Preconditions" (some 0) with
  accessFlags := 33
  interfaces := #[]
  cf := some (fileOf pool15 24 #[.nestMembers #[55, 131, 125, 114]] #[{ accessFlags := 1, nameIndex := 5, descriptorIndex := 6, attributes := #[] }] 33 2 #[] #[{ accessFlags := 25, nameIndex := 123, descriptorIndex := 124, attributes := #[] }, { accessFlags := 25, nameIndex := 130, descriptorIndex := 124, attributes := #[] }, { accessFlags := 25, nameIndex := 136, descriptorIndex := 124, attributes := #[] }])
  fields := #[{ name := "SIOOBE_FORMATTER", type := (.object "java/util/function/BiFunction"), accessFlags := 25, slot := 0, constantValue := 0 }, { name := "AIOOBE_FORMATTER", type := (.object "java/util/function/BiFunction"), accessFlags := 25, slot := 1, constantValue := 0 }, { name := "IOOBE_FORMATTER", type := (.object "java/util/function/BiFunction"), accessFlags := 25, slot := 2, constantValue := 0 }]
  methods := #[k15m0]
  instanceTypes := #[]
  staticTypes := #[(.object "java/util/function/BiFunction"), (.object "java/util/function/BiFunction"), (.object "java/util/function/BiFunction")]
  resolved := Array.replicate 194 none
  statics := some 2 }

def pool16 : Array CpInfo := pool [(9, u "<init>"), (6, .class_ 18), (1, u "java/lang/Object"), (0, u "()V"), (1, .class_ 23), (1, u "jdk/internal/util/ArraysSupport"), (0, u "LOG2_ARRAY_LONG_INDEX_SCALE"), (0, u "I"), (2, u "U"), (0, u "Ljdk/internal/misc/Unsafe;"), (8, u "BIG_ENDIAN"), (0, u "Z"), (8, u "LOG2_BYTE_BIT_SIZE"), (4, u "LOG2_ARRAY_INT_INDEX_SCALE"), (54, u "JLA"), (0, u "Ljdk/internal/access/JavaLangAccess;"), (11, u "LOG2_ARRAY_BOOLEAN_INDEX_SCALE"), (9, u "LOG2_ARRAY_BYTE_INDEX_SCALE"), (5, u "LOG2_ARRAY_CHAR_INDEX_SCALE"), (5, u "LOG2_ARRAY_SHORT_INDEX_SCALE"), (18, u "LOG2_ARRAY_FLOAT_INDEX_SCALE"), (24, u "LOG2_ARRAY_DOUBLE_INDEX_SCALE"), (89, u "T_BOOLEAN"), (2, u "T_CHAR"), (1, u "T_FLOAT"), (1, u "T_DOUBLE"), (1, u "T_BYTE"), (1, u "T_SHORT"), (1, u "T_INT"), (1, u "T_LONG"), (1, u "SOFT_MAX_ARRAY_LENGTH")] 83

def k16m0 : Method := { name := "<init>", desc := "()V", sig := { parameters := [], returnType := none }, accessFlags := 2, code := none }
/-- jdk/internal/util/ArraysSupport -/
def k16 : Class := { plain "jdk/internal/util/ArraysSupport" (some 0) with
  accessFlags := 33
  interfaces := #[]
  cf := some (fileOf pool16 21 #[] #[{ accessFlags := 2, nameIndex := 9, descriptorIndex := 19, attributes := #[] }] 33 16 #[] #[{ accessFlags := 24, nameIndex := 28, descriptorIndex := 29, attributes := #[] }, { accessFlags := 26, nameIndex := 38, descriptorIndex := 39, attributes := #[] }, { accessFlags := 25, nameIndex := 121, descriptorIndex := 25, attributes := #[] }, { accessFlags := 25, nameIndex := 131, descriptorIndex := 25, attributes := #[] }, { accessFlags := 25, nameIndex := 137, descriptorIndex := 25, attributes := #[] }, { accessFlags := 25, nameIndex := 143, descriptorIndex := 25, attributes := #[] }, { accessFlags := 25, nameIndex := 53, descriptorIndex := 25, attributes := #[] }, { accessFlags := 25, nameIndex := 24, descriptorIndex := 25, attributes := #[] }, { accessFlags := 25, nameIndex := 162, descriptorIndex := 25, attributes := #[] }, { accessFlags := 25, nameIndex := 187, descriptorIndex := 25, attributes := #[] }, { accessFlags := 26, nameIndex := 48, descriptorIndex := 25, attributes := #[] }, { accessFlags := 25, nameIndex := 277, descriptorIndex := 25, attributes := #[] }, { accessFlags := 25, nameIndex := 280, descriptorIndex := 25, attributes := #[] }, { accessFlags := 25, nameIndex := 282, descriptorIndex := 25, attributes := #[] }, { accessFlags := 25, nameIndex := 284, descriptorIndex := 25, attributes := #[] }, { accessFlags := 25, nameIndex := 286, descriptorIndex := 25, attributes := #[] }, { accessFlags := 25, nameIndex := 288, descriptorIndex := 25, attributes := #[] }, { accessFlags := 25, nameIndex := 290, descriptorIndex := 25, attributes := #[] }, { accessFlags := 25, nameIndex := 292, descriptorIndex := 25, attributes := #[] }, { accessFlags := 26, nameIndex := 108, descriptorIndex := 109, attributes := #[] }, { accessFlags := 25, nameIndex := 294, descriptorIndex := 25, attributes := #[] }])
  fields := #[{ name := "U", type := (.object "jdk/internal/misc/Unsafe"), accessFlags := 24, slot := 0, constantValue := 0 }, { name := "BIG_ENDIAN", type := .boolean, accessFlags := 26, slot := 1, constantValue := 0 }, { name := "LOG2_ARRAY_BOOLEAN_INDEX_SCALE", type := .int, accessFlags := 25, slot := 2, constantValue := 0 }, { name := "LOG2_ARRAY_BYTE_INDEX_SCALE", type := .int, accessFlags := 25, slot := 3, constantValue := 0 }, { name := "LOG2_ARRAY_CHAR_INDEX_SCALE", type := .int, accessFlags := 25, slot := 4, constantValue := 0 }, { name := "LOG2_ARRAY_SHORT_INDEX_SCALE", type := .int, accessFlags := 25, slot := 5, constantValue := 0 }, { name := "LOG2_ARRAY_INT_INDEX_SCALE", type := .int, accessFlags := 25, slot := 6, constantValue := 0 }, { name := "LOG2_ARRAY_LONG_INDEX_SCALE", type := .int, accessFlags := 25, slot := 7, constantValue := 0 }, { name := "LOG2_ARRAY_FLOAT_INDEX_SCALE", type := .int, accessFlags := 25, slot := 8, constantValue := 0 }, { name := "LOG2_ARRAY_DOUBLE_INDEX_SCALE", type := .int, accessFlags := 25, slot := 9, constantValue := 0 }, { name := "LOG2_BYTE_BIT_SIZE", type := .int, accessFlags := 26, slot := 10, constantValue := 0 }, { name := "T_BOOLEAN", type := .int, accessFlags := 25, slot := 11, constantValue := 0 }, { name := "T_CHAR", type := .int, accessFlags := 25, slot := 12, constantValue := 0 }, { name := "T_FLOAT", type := .int, accessFlags := 25, slot := 13, constantValue := 0 }, { name := "T_DOUBLE", type := .int, accessFlags := 25, slot := 14, constantValue := 0 }, { name := "T_BYTE", type := .int, accessFlags := 25, slot := 15, constantValue := 0 }, { name := "T_SHORT", type := .int, accessFlags := 25, slot := 16, constantValue := 0 }, { name := "T_INT", type := .int, accessFlags := 25, slot := 17, constantValue := 0 }, { name := "T_LONG", type := .int, accessFlags := 25, slot := 18, constantValue := 0 }, { name := "JLA", type := (.object "jdk/internal/access/JavaLangAccess"), accessFlags := 26, slot := 19, constantValue := 0 }, { name := "SOFT_MAX_ARRAY_LENGTH", type := .int, accessFlags := 25, slot := 20, constantValue := 0 }]
  methods := #[k16m0]
  instanceTypes := #[]
  staticTypes := #[(.object "jdk/internal/misc/Unsafe"), .boolean, .int, .int, .int, .int, .int, .int, .int, .int, .int, .int, .int, .int, .int, .int, .int, .int, .int, (.object "jdk/internal/access/JavaLangAccess"), .int]
  resolved := Array.replicate 378 none
  statics := none }

def pool17 : Array CpInfo := pool [(1, u "java/lang/Cloneable"), (0, .class_ 1), (0, u "java/lang/Object"), (0, .class_ 3)] 3

/-- java/lang/Cloneable -/
def k17 : Class := { plain "java/lang/Cloneable" (some 0) with
  accessFlags := 1537
  interfaces := #[]
  cf := some (fileOf pool17 2 #[] #[] 1537 4 #[] #[])
  fields := #[]
  methods := #[]
  instanceTypes := #[]
  staticTypes := #[]
  resolved := Array.replicate 8 none
  statics := none }

/-- the primitive byte -/
def k18 : Class := { plain "byte" none with kind := .primitive 'B', accessFlags := 0x411 }
/-- [B -/
def k19 : Class := { plain "[B" (some 0) with kind := .array 18 .byte, interfaces := #[17, 4], accessFlags := 1041 }

/-- the primitive char -/
def k20 : Class := { plain "char" none with kind := .primitive 'C', accessFlags := 0x411 }
/-- [C -/
def k21 : Class := { plain "[C" (some 0) with kind := .array 20 .char, interfaces := #[17, 4], accessFlags := 1041 }

/-- the primitive int -/
def k22 : Class := { plain "int" none with kind := .primitive 'I', accessFlags := 0x411 }
/-- [I -/
def k23 : Class := { plain "[I" (some 0) with kind := .array 22 .int, interfaces := #[17, 4], accessFlags := 1041 }

def heap : Heap := #[{ cls := 6, slots := #[.ref 3, .ref 4, .ref 5, .null], vm := .statics 6 },
  { cls := 9, slots := #[.long 0, .int 1, .null, .int 0, .null, .int 0, .int 0], vm := .statics 9 },
  { cls := 15, slots := #[.null, .null, .null], vm := .statics 15 },
  { cls := 6, slots := #[.null, .int 0, .int 0], vm := .none },
  { cls := 6, slots := #[.null, .int 1, .int 0], vm := .none },
  { cls := 6, slots := #[.null, .int 2, .int 0], vm := .none }]
def classes : Array Class := #[k0, k1, k2, k3, k4, k5, k6, k7, k8, k9, k10, k11, k12, k13, k14, k15, k16, k17, k18, k19, k20, k21, k22, k23]
def interned : List (Array UInt16 × Addr) := []
def slotsUsed : Nat := 23
def theMethod : MethodId := ⟨1, 3⟩
def args0 : Array Value := #[.int 5, .int 6, .int 9, .int 1, .int 2, .int 3]
def aboutOver (below : List Frame) : State where
  vm := { classes := classes, interned := interned.toArray }
  heap := heap
  slotsUsed := slotsUsed
  threads := #[{ frames := .invoking theMethod args0 :: below }]
def below0 : List Frame := [.native { method := ⟨0, 0⟩, args := #[] }]
def about1 : State := aboutOver below0
def p0 : Program := .bare "" "" ""
def e0 : Env := launch0.env 0 0 0
theorem w_frames : about1.frames = Frame.invoking theMethod args0 :: below0 := rfl
set_option maxRecDepth 65536 in
theorem w_args : argsFit about1.vm theMethod args0 = true := by decide +kernel
set_option maxRecDepth 65536 in
theorem w_heap : heapFits about1 = true := by decide +kernel
set_option maxRecDepth 65536 in
theorem w_runnable : about1.curStatus? = some .runnable := by decide +kernel
set_option maxRecDepth 65536 in
theorem w_alone : about1.alone = true := by decide +kernel
set_option maxRecDepth 65536 in
theorem w_named : about1.methodNamed? x = some theMethod := by decide +kernel
set_option maxRecDepth 65536 in
theorem w_hears : about1.hears theMethod below0 = true := by decide +kernel
set_option maxRecDepth 65536 in
theorem w_ripe : about1.ripe theMethod args0 below0 = true := by decide +kernel
theorem w_running : about1.status = .running := rfl
set_option maxRecDepth 65536 in
theorem w_room : about1.hasRoom e0.platform room_1 = true :=
  launch0.hasRoom_least _ room_1 (by decide +kernel) (by decide +kernel) (by decide +kernel) (by decide +kernel) (by decide +kernel) (by decide +kernel)
theorem allAtoms_all (ts : List Jvm.Cond) (a : Array Jvm.Value) (st : Jvm.State) : (allAtoms ts).before a st = ts.all (fun c => c.before a st) := by
  induction ts with
  | nil => rfl
  | cons c t ih =>
    show (Jvm.Cond.and c (allAtoms t)).before a st = _
    rw [Jvm.Cond.before_and, ih, List.all_cons]
def words1 : List Jvm.Cond := Jvm.Cond.code x code maxLocals ret :: tables_1
/-- a 'code' word, met by the world's own term for the bytes: nothing is compared byte by byte -/
theorem code_word {y : MethodName} {bytes : ByteArray} {mx : Nat} {rt : Option FieldType} {a : Array Value} {s : State} {m : MethodId} {meth : Method} {c : Code} (h1 : s.methodNamed? y = some m) (h2 : s.vm.method? m = some meth) (h3 : meth.code = some c) (h4 : c.code = bytes)
    (h5 : (c.maxLocals == mx && c.exceptionTable.isEmpty && decide (c.maxStack ≤ mostOperands) && decide (meth.sig.returnType = rt) && !meth.locks && decide (parseMethodDescriptor y.desc = some meth.sig)) = true) : (Jvm.Cond.code y bytes mx rt).before a s = true := by
  simp only [Bool.and_eq_true, beq_iff_eq, Bool.not_eq_true', decide_eq_true_eq] at h5
  obtain ⟨⟨⟨⟨⟨g1, g2⟩, g3⟩, g4⟩, g5⟩, g6⟩ := h5
  simp [Cond.before, Cond.holds, Cond.value, h1, h2, h3, h4, g1, g2, g3, g4, g5, g6]
def isCode : Jvm.Cond → Bool
  | .code _ _ _ _ => true
  | _ => false
theorem all_split {L : List Jvm.Cond} {P : Jvm.Cond → Bool} (h1 : L.all (fun c => isCode c || P c) = true) (h2 : ∀ c ∈ L.filter isCode, P c = true) : L.all P = true := by
  refine List.all_eq_true.mpr fun c hc => ?_
  have h := List.all_eq_true.mp h1 c hc
  rcases Bool.eq_false_or_eq_true (isCode c) with hi | hi
  · exact h2 c (List.mem_filter.mpr ⟨hc, hi⟩)
  · simpa [hi] using h
set_option maxRecDepth 65536 in
theorem w_c0 : (Jvm.Cond.code x code maxLocals ret).before args0 about1 = true := code_word (m := ⟨1, 3⟩) (meth := k1m3) (c := k1c3) (by decide +kernel) rfl rfl rfl (by decide +kernel)
set_option maxRecDepth 65536 in
theorem w_c1 : (Jvm.Cond.code ({ cls := "com/example/forest_in_rows/forestinrows/OwnColumnDefinitionStandsAsPinLaw", name := "filling", desc := "(I)Lcom/example/forest_in_rows/forestinrows/CatalogColumn$Filling;" } : Jvm.MethodName) method_3_code (2 : Nat) (Option.some (Jvm.ClassFile.FieldType.object "com/example/forest_in_rows/forestinrows/CatalogColumn$Filling"))).before args0 about1 = true := code_word (m := ⟨1, 2⟩) (meth := k1m2) (c := k1c2) (by decide +kernel) rfl rfl rfl (by decide +kernel)
set_option maxRecDepth 65536 in
theorem w_c2 : (Jvm.Cond.code ({ cls := "com/example/forest_in_rows/forestinrows/OwnColumnDefinitionStandsAsPinLaw", name := "str", desc := "(ICC)Ljava/lang/String;" } : Jvm.MethodName) method_2_code (4 : Nat) (Option.some (Jvm.ClassFile.FieldType.object "java/lang/String"))).before args0 about1 = true := code_word (m := ⟨1, 1⟩) (meth := k1m1) (c := k1c1) (by decide +kernel) rfl rfl rfl (by decide +kernel)
set_option maxRecDepth 65536 in
theorem w_c3 : (Jvm.Cond.code ({ cls := "java/lang/String", name := "valueOf", desc := "(C)Ljava/lang/String;" } : Jvm.MethodName) jdk_42_method_139_code (1 : Nat) (Option.some (Jvm.ClassFile.FieldType.object "java/lang/String"))).before args0 about1 = true := code_word (m := ⟨9, 3⟩) (meth := k9m3) (c := k9c3) (by decide +kernel) rfl rfl rfl (by decide +kernel)
set_option maxRecDepth 65536 in
theorem w_c4 : (Jvm.Cond.code ({ cls := "java/lang/StringLatin1", name := "canEncode", desc := "(C)Z" } : Jvm.MethodName) jdk_43_method_3_code (1 : Nat) (Option.some Jvm.ClassFile.FieldType.boolean)).before args0 about1 = true := code_word (m := ⟨10, 1⟩) (meth := k10m1) (c := k10c1) (by decide +kernel) rfl rfl rfl (by decide +kernel)
set_option maxRecDepth 65536 in
theorem w_c5 : (Jvm.Cond.code ({ cls := "java/lang/StringLatin1", name := "toBytes", desc := "(C)[B" } : Jvm.MethodName) jdk_43_method_46_code (1 : Nat) (Option.some (Jvm.ClassFile.FieldType.array Jvm.ClassFile.FieldType.byte))).before args0 about1 = true := code_word (m := ⟨10, 3⟩) (meth := k10m3) (c := k10c3) (by decide +kernel) rfl rfl rfl (by decide +kernel)
set_option maxRecDepth 65536 in
theorem w_c6 : (Jvm.Cond.code ({ cls := "java/lang/String", name := "<init>", desc := "([BB)V" } : Jvm.MethodName) jdk_42_method_151_code (3 : Nat) (Option.none : Option Jvm.ClassFile.FieldType)).before args0 about1 = true := code_word (m := ⟨9, 5⟩) (meth := k9m5) (c := k9c5) (by decide +kernel) rfl rfl rfl (by decide +kernel)
set_option maxRecDepth 65536 in
theorem w_c7 : (Jvm.Cond.code ({ cls := "java/lang/Object", name := "<init>", desc := "()V" } : Jvm.MethodName) object_method_1_code (1 : Nat) (Option.none : Option Jvm.ClassFile.FieldType)).before args0 about1 = true := code_word (m := ⟨0, 0⟩) (meth := k0m0) (c := k0c0) (by decide +kernel) rfl rfl rfl (by decide +kernel)
set_option maxRecDepth 65536 in
theorem w_c8 : (Jvm.Cond.code ({ cls := "com/example/forest_in_rows/forestinrows/Installation$OwnColumnDefinition", name := "<init>", desc := "(Ljava/lang/String;Ljava/lang/String;Lcom/example/forest_in_rows/forestinrows/CatalogColumn$Filling;Ljava/lang/String;)V" } : Jvm.MethodName) prog_45_method_1_code (5 : Nat) (Option.none : Option Jvm.ClassFile.FieldType)).before args0 about1 = true := code_word (m := ⟨12, 0⟩) (meth := k12m0) (c := k12c0) (by decide +kernel) rfl rfl rfl (by decide +kernel)
set_option maxRecDepth 65536 in
theorem w_c9 : (Jvm.Cond.code ({ cls := "java/lang/Record", name := "<init>", desc := "()V" } : Jvm.MethodName) jdk_30_method_1_code (1 : Nat) (Option.none : Option Jvm.ClassFile.FieldType)).before args0 about1 = true := code_word (m := ⟨11, 0⟩) (meth := k11m0) (c := k11c0) (by decide +kernel) rfl rfl rfl (by decide +kernel)
set_option maxRecDepth 65536 in
theorem w_c10 : (Jvm.Cond.code ({ cls := "com/example/forest_in_rows/forestinrows/Installation$OwnColumnDefinition", name := "standsAs", desc := "(Lcom/example/forest_in_rows/forestinrows/CatalogColumn;)Z" } : Jvm.MethodName) prog_45_method_2_code (2 : Nat) (Option.some Jvm.ClassFile.FieldType.boolean)).before args0 about1 = true := code_word (m := ⟨12, 1⟩) (meth := k12m1) (c := k12c1) (by decide +kernel) rfl rfl rfl (by decide +kernel)
set_option maxRecDepth 65536 in
theorem w_c11 : (Jvm.Cond.code ({ cls := "com/example/forest_in_rows/forestinrows/CatalogColumn", name := "<init>", desc := "(Ljava/lang/String;Lcom/example/forest_in_rows/forestinrows/CatalogColumn$Filling;ZZLjava/lang/String;Ljava/lang/String;Z)V" } : Jvm.MethodName) prog_17_method_1_code (8 : Nat) (Option.none : Option Jvm.ClassFile.FieldType)).before args0 about1 = true := code_word (m := ⟨13, 0⟩) (meth := k13m0) (c := k13c0) (by decide +kernel) rfl rfl rfl (by decide +kernel)
set_option maxRecDepth 65536 in
theorem w_c12 : (Jvm.Cond.code ({ cls := "com/example/forest_in_rows/forestinrows/CatalogColumn", name := "type", desc := "()Ljava/lang/String;" } : Jvm.MethodName) prog_17_method_6_code (1 : Nat) (Option.some (Jvm.ClassFile.FieldType.object "java/lang/String"))).before args0 about1 = true := code_word (m := ⟨13, 1⟩) (meth := k13m1) (c := k13c1) (by decide +kernel) rfl rfl rfl (by decide +kernel)
set_option maxRecDepth 65536 in
theorem w_c13 : (Jvm.Cond.code ({ cls := "java/lang/String", name := "equals", desc := "(Ljava/lang/Object;)Z" } : Jvm.MethodName) jdk_42_method_66_code (3 : Nat) (Option.some Jvm.ClassFile.FieldType.boolean)).before args0 about1 = true := code_word (m := ⟨9, 2⟩) (meth := k9m2) (c := k9c2) (by decide +kernel) rfl rfl rfl (by decide +kernel)
set_option maxRecDepth 65536 in
theorem w_c14 : (Jvm.Cond.code ({ cls := "com/example/forest_in_rows/forestinrows/CatalogColumn", name := "filling", desc := "()Lcom/example/forest_in_rows/forestinrows/CatalogColumn$Filling;" } : Jvm.MethodName) prog_17_method_7_code (1 : Nat) (Option.some (Jvm.ClassFile.FieldType.object "com/example/forest_in_rows/forestinrows/CatalogColumn$Filling"))).before args0 about1 = true := code_word (m := ⟨13, 2⟩) (meth := k13m2) (c := k13c2) (by decide +kernel) rfl rfl rfl (by decide +kernel)
set_option maxRecDepth 65536 in
theorem w_c15 : (Jvm.Cond.code ({ cls := "java/lang/StringLatin1", name := "equals", desc := "([B[B)Z" } : Jvm.MethodName) jdk_43_method_13_code (3 : Nat) (Option.some Jvm.ClassFile.FieldType.boolean)).before args0 about1 = true := code_word (m := ⟨10, 2⟩) (meth := k10m2) (c := k10c2) (by decide +kernel) rfl rfl rfl (by decide +kernel)
set_option maxRecDepth 65536 in
theorem w_c16 : (Jvm.Cond.code ({ cls := "java/lang/String", name := "<init>", desc := "([C)V" } : Jvm.MethodName) jdk_42_method_3_code (2 : Nat) (Option.none : Option Jvm.ClassFile.FieldType)).before args0 about1 = true := code_word (m := ⟨9, 1⟩) (meth := k9m1) (c := k9c1) (by decide +kernel) rfl rfl rfl (by decide +kernel)
set_option maxRecDepth 65536 in
theorem w_c17 : (Jvm.Cond.code ({ cls := "java/lang/String", name := "<init>", desc := "([CIILjava/lang/Void;)V" } : Jvm.MethodName) jdk_42_method_149_code (6 : Nat) (Option.none : Option Jvm.ClassFile.FieldType)).before args0 about1 = true := code_word (m := ⟨9, 4⟩) (meth := k9m4) (c := k9c4) (by decide +kernel) rfl rfl rfl (by decide +kernel)
set_option maxRecDepth 65536 in
theorem w_c18 : (Jvm.Cond.code ({ cls := "java/lang/StringUTF16", name := "compress", desc := "([CII)[B" } : Jvm.MethodName) jdk_52_method_16_code (6 : Nat) (Option.some (Jvm.ClassFile.FieldType.array Jvm.ClassFile.FieldType.byte))).before args0 about1 = true := code_word (m := ⟨14, 2⟩) (meth := k14m2) (c := k14c2) (by decide +kernel) rfl rfl rfl (by decide +kernel)
set_option maxRecDepth 65536 in
theorem w_c19 : (Jvm.Cond.code ({ cls := "java/lang/StringUTF16", name := "compress", desc := "([CI[BII)I" } : Jvm.MethodName) jdk_52_method_21_code (7 : Nat) (Option.some Jvm.ClassFile.FieldType.int)).before args0 about1 = true := code_word (m := ⟨14, 3⟩) (meth := k14m3) (c := k14c3) (by decide +kernel) rfl rfl rfl (by decide +kernel)
set_option maxRecDepth 65536 in
theorem w_c20 : (Jvm.Cond.code ({ cls := "java/lang/StringUTF16", name := "coderFromArrayLen", desc := "([BI)B" } : Jvm.MethodName) jdk_52_method_15_code (2 : Nat) (Option.some Jvm.ClassFile.FieldType.byte)).before args0 about1 = true := code_word (m := ⟨14, 1⟩) (meth := k14m1) (c := k14c1) (by decide +kernel) rfl rfl rfl (by decide +kernel)
def codes1 : List Jvm.Cond := [Jvm.Cond.code x code maxLocals ret, Jvm.Cond.code ({ cls := "com/example/forest_in_rows/forestinrows/OwnColumnDefinitionStandsAsPinLaw", name := "filling", desc := "(I)Lcom/example/forest_in_rows/forestinrows/CatalogColumn$Filling;" } : Jvm.MethodName) method_3_code (2 : Nat) (Option.some (Jvm.ClassFile.FieldType.object "com/example/forest_in_rows/forestinrows/CatalogColumn$Filling")), Jvm.Cond.code ({ cls := "com/example/forest_in_rows/forestinrows/OwnColumnDefinitionStandsAsPinLaw", name := "str", desc := "(ICC)Ljava/lang/String;" } : Jvm.MethodName) method_2_code (4 : Nat) (Option.some (Jvm.ClassFile.FieldType.object "java/lang/String")), Jvm.Cond.code ({ cls := "java/lang/String", name := "valueOf", desc := "(C)Ljava/lang/String;" } : Jvm.MethodName) jdk_42_method_139_code (1 : Nat) (Option.some (Jvm.ClassFile.FieldType.object "java/lang/String")), Jvm.Cond.code ({ cls := "java/lang/StringLatin1", name := "canEncode", desc := "(C)Z" } : Jvm.MethodName) jdk_43_method_3_code (1 : Nat) (Option.some Jvm.ClassFile.FieldType.boolean), Jvm.Cond.code ({ cls := "java/lang/StringLatin1", name := "toBytes", desc := "(C)[B" } : Jvm.MethodName) jdk_43_method_46_code (1 : Nat) (Option.some (Jvm.ClassFile.FieldType.array Jvm.ClassFile.FieldType.byte)), Jvm.Cond.code ({ cls := "java/lang/String", name := "<init>", desc := "([BB)V" } : Jvm.MethodName) jdk_42_method_151_code (3 : Nat) (Option.none : Option Jvm.ClassFile.FieldType), Jvm.Cond.code ({ cls := "java/lang/Object", name := "<init>", desc := "()V" } : Jvm.MethodName) object_method_1_code (1 : Nat) (Option.none : Option Jvm.ClassFile.FieldType), Jvm.Cond.code ({ cls := "com/example/forest_in_rows/forestinrows/Installation$OwnColumnDefinition", name := "<init>", desc := "(Ljava/lang/String;Ljava/lang/String;Lcom/example/forest_in_rows/forestinrows/CatalogColumn$Filling;Ljava/lang/String;)V" } : Jvm.MethodName) prog_45_method_1_code (5 : Nat) (Option.none : Option Jvm.ClassFile.FieldType), Jvm.Cond.code ({ cls := "java/lang/Record", name := "<init>", desc := "()V" } : Jvm.MethodName) jdk_30_method_1_code (1 : Nat) (Option.none : Option Jvm.ClassFile.FieldType), Jvm.Cond.code ({ cls := "com/example/forest_in_rows/forestinrows/Installation$OwnColumnDefinition", name := "standsAs", desc := "(Lcom/example/forest_in_rows/forestinrows/CatalogColumn;)Z" } : Jvm.MethodName) prog_45_method_2_code (2 : Nat) (Option.some Jvm.ClassFile.FieldType.boolean), Jvm.Cond.code ({ cls := "com/example/forest_in_rows/forestinrows/CatalogColumn", name := "<init>", desc := "(Ljava/lang/String;Lcom/example/forest_in_rows/forestinrows/CatalogColumn$Filling;ZZLjava/lang/String;Ljava/lang/String;Z)V" } : Jvm.MethodName) prog_17_method_1_code (8 : Nat) (Option.none : Option Jvm.ClassFile.FieldType), Jvm.Cond.code ({ cls := "com/example/forest_in_rows/forestinrows/CatalogColumn", name := "type", desc := "()Ljava/lang/String;" } : Jvm.MethodName) prog_17_method_6_code (1 : Nat) (Option.some (Jvm.ClassFile.FieldType.object "java/lang/String")), Jvm.Cond.code ({ cls := "java/lang/String", name := "equals", desc := "(Ljava/lang/Object;)Z" } : Jvm.MethodName) jdk_42_method_66_code (3 : Nat) (Option.some Jvm.ClassFile.FieldType.boolean), Jvm.Cond.code ({ cls := "com/example/forest_in_rows/forestinrows/CatalogColumn", name := "filling", desc := "()Lcom/example/forest_in_rows/forestinrows/CatalogColumn$Filling;" } : Jvm.MethodName) prog_17_method_7_code (1 : Nat) (Option.some (Jvm.ClassFile.FieldType.object "com/example/forest_in_rows/forestinrows/CatalogColumn$Filling")), Jvm.Cond.code ({ cls := "java/lang/StringLatin1", name := "equals", desc := "([B[B)Z" } : Jvm.MethodName) jdk_43_method_13_code (3 : Nat) (Option.some Jvm.ClassFile.FieldType.boolean), Jvm.Cond.code ({ cls := "java/lang/String", name := "<init>", desc := "([C)V" } : Jvm.MethodName) jdk_42_method_3_code (2 : Nat) (Option.none : Option Jvm.ClassFile.FieldType), Jvm.Cond.code ({ cls := "java/lang/String", name := "<init>", desc := "([CIILjava/lang/Void;)V" } : Jvm.MethodName) jdk_42_method_149_code (6 : Nat) (Option.none : Option Jvm.ClassFile.FieldType), Jvm.Cond.code ({ cls := "java/lang/StringUTF16", name := "compress", desc := "([CII)[B" } : Jvm.MethodName) jdk_52_method_16_code (6 : Nat) (Option.some (Jvm.ClassFile.FieldType.array Jvm.ClassFile.FieldType.byte)), Jvm.Cond.code ({ cls := "java/lang/StringUTF16", name := "compress", desc := "([CI[BII)I" } : Jvm.MethodName) jdk_52_method_21_code (7 : Nat) (Option.some Jvm.ClassFile.FieldType.int), Jvm.Cond.code ({ cls := "java/lang/StringUTF16", name := "coderFromArrayLen", desc := "([BI)B" } : Jvm.MethodName) jdk_52_method_15_code (2 : Nat) (Option.some Jvm.ClassFile.FieldType.byte)]
set_option maxRecDepth 65536 in
theorem codes_eq : words1.filter isCode = codes1 := rfl
theorem w_codes : ∀ c ∈ words1.filter isCode, c.before args0 about1 = true := by
  rw [codes_eq]
  intro c hc
  simp only [codes1, List.mem_cons, List.not_mem_nil, or_false] at hc
  rcases hc with rfl | rfl | rfl | rfl | rfl | rfl | rfl | rfl | rfl | rfl | rfl | rfl | rfl | rfl | rfl | rfl | rfl | rfl | rfl | rfl | rfl
  · exact w_c0
  · exact w_c1
  · exact w_c2
  · exact w_c3
  · exact w_c4
  · exact w_c5
  · exact w_c6
  · exact w_c7
  · exact w_c8
  · exact w_c9
  · exact w_c10
  · exact w_c11
  · exact w_c12
  · exact w_c13
  · exact w_c14
  · exact w_c15
  · exact w_c16
  · exact w_c17
  · exact w_c18
  · exact w_c19
  · exact w_c20
set_option maxRecDepth 65536 in
theorem w_t1 : (words1.take 24).all (fun c => isCode c || c.before args0 about1) = true := by decide +kernel
set_option maxRecDepth 65536 in
theorem w_t2 : ((words1.drop 24).take 24).all (fun c => isCode c || c.before args0 about1) = true := by decide +kernel
set_option maxRecDepth 65536 in
theorem w_t3 : (((words1.drop 24).drop 24).take 24).all (fun c => isCode c || c.before args0 about1) = true := by decide +kernel
set_option maxRecDepth 65536 in
theorem w_t4 : ((((words1.drop 24).drop 24).drop 24).take 24).all (fun c => isCode c || c.before args0 about1) = true := by decide +kernel
set_option maxRecDepth 65536 in
theorem w_t5 : (((((words1.drop 24).drop 24).drop 24).drop 24).take 24).all (fun c => isCode c || c.before args0 about1) = true := by decide +kernel
set_option maxRecDepth 65536 in
theorem w_t6 : (((((words1.drop 24).drop 24).drop 24).drop 24).drop 24).all (fun c => isCode c || c.before args0 about1) = true := by decide +kernel
theorem w_tables : (allAtoms (Jvm.Cond.code x code maxLocals ret :: tables_1)).before args0 about1 = true := by
  rw [allAtoms_all]
  show words1.all (fun c => c.before args0 about1) = true
  refine all_split ?_ w_codes
  rw [← List.take_append_drop 24 words1, List.all_append, w_t1, ← List.take_append_drop 24 (words1.drop 24), List.all_append, w_t2, ← List.take_append_drop 24 ((words1.drop 24).drop 24), List.all_append, w_t3, ← List.take_append_drop 24 (((words1.drop 24).drop 24).drop 24), List.all_append, w_t4, ← List.take_append_drop 24 ((((words1.drop 24).drop 24).drop 24).drop 24), List.all_append, w_t5, w_t6]
  rfl
set_option maxRecDepth 65536 in
theorem w_rest : rest_1_c.before args0 about1 = true := by decide +kernel
set_option maxRecDepth 65536 in
theorem w_case : (Jvm.Cond.and given_1 narrow_1).before args0 about1 = true := by decide +kernel
set_option maxRecDepth 65536 in
theorem w_consts : constsHeld consts_1 about1 := Jvm.Lit.constsHeldB_iff.mp (by decide +kernel)
theorem w_applies : (headSpec (Jvm.Cond.code x code maxLocals ret :: tables_1) room_1).applies x e0.platform about1 = true :=
  (Spec.applies_iff w_frames).mpr ⟨w_running, w_runnable, w_alone, w_named, w_hears, w_ripe, w_room, w_tables⟩
theorem atStart : AtStart classFile x code maxLocals ret World_1 tables_1 room_1 Calls_1 rest_1 Pre_1 launch0 p0 e0 about1 theMethod args0 below0 :=
  ⟨lists_1, trivial, launch0.admits_env _ _ _, launch0.least_env, fairChoices_fair.cas, fairChoices_fair.clock, w_frames, w_args, w_heap, w_applies, ⟨w_consts, trivial⟩, w_rest, w_case⟩
end start1
theorem witness_1 : WitnessClaimed_1 := ⟨start1.p0, start1.e0, start1.about1, start1.theMethod, start1.args0, start1.below0, start1.atStart⟩
end Jvm.Pilot.@@N@@
