import JvmDerived
import JvmDerived.Pilot.@@N@@Statement
import JvmDerived.Pilot.@@N@@Code
set_option linter.unusedVariables false
set_option linter.unusedSimpArgs false
namespace Jvm.RoadKit
open Sem ClassFile Op Lib Jvm.Stand Jvm.Free Jvm.LawKit
section New
variable {p : Program} {l : Launch} {e : Env} {R : Room} {s : State} {m : MethodId} {args : Array Value} {below : List Frame} {meth : Method} {c : Code} {T : State} {locs : List Loc} {cells slots : Nat}
theorem retI (X : Stand p l e R s m args below meth c T locs cells slots) (hx : p.tables.exec = Jvm.exec) {pc : Nat} {Ls : Array Slot} {z : Int32} {rest : List Value} (hret : meth.sig.returnType = some .int) (hd : decode c.code pc = .ok (.ireturn, 1)) {fs : List Frame}
    (hl : ∀ (f : JFrame) (acts : List Action), f.method = m → f.locked = none → f.entered = [] → (doReturn e (T.setTop f) acts (some (.int z))).1 = T.setFrames fs) : Steps p.tables e below (T.setTop (mkF m pc Ls (.int z :: rest))) (T.setFrames fs) := by
  have hm' : T.vm.method? m = some meth := X.method'
  have hn : narrow .int (.int z) = .int z := rfl
  show Steps p.tables e below (T.setTop { method := m, pc := pc, locals := Ls, stack := _ :: rest, locked := none }) _
  jvm_step X.here [X.here.top, hx, hd, hm', hret, hn]
  first | (intro acts; rw [hl _ acts rfl rfl rfl]) | rw [hl _ _ rfl rfl rfl]
  exact Steps.refl _
theorem own_retJ (X : Stand p l e R s m args below meth c T locs cells slots) (hx : p.tables.exec = Jvm.exec) {pc : Nat} {Ls : Array Slot} {z : Int64} {rest : List Value} (hret : meth.sig.returnType = some .long) (hd : decode c.code pc = .ok (.lreturn, 1)) {fs : List Frame}
    (hl : ∀ (f : JFrame) (acts : List Action), f.method = m → f.locked = none → f.entered = [] → (doReturn e (T.setTop f) acts (some (.long z))).1 = T.setFrames fs) : Steps p.tables e below (T.setTop (mkF m pc Ls (.long z :: rest))) (T.setFrames fs) := by
  have hm' : T.vm.method? m = some meth := X.method'
  show Steps p.tables e below (T.setTop { method := m, pc := pc, locals := Ls, stack := _ :: rest, locked := none }) _
  jvm_step X.here [X.here.top, hx, hd, hm', hret, narrow]
  first | (intro acts; rw [hl _ acts rfl rfl rfl]) | rw [hl _ _ rfl rfl rfl]
  exact Steps.refl _
theorem own_retD (X : Stand p l e R s m args below meth c T locs cells slots) (hx : p.tables.exec = Jvm.exec) {pc : Nat} {Ls : Array Slot} {z : UInt64} {rest : List Value} (hret : meth.sig.returnType = some .double) (hd : decode c.code pc = .ok (.dreturn, 1)) {fs : List Frame}
    (hl : ∀ (f : JFrame) (acts : List Action), f.method = m → f.locked = none → f.entered = [] → (doReturn e (T.setTop f) acts (some (.double z))).1 = T.setFrames fs) : Steps p.tables e below (T.setTop (mkF m pc Ls (.double z :: rest))) (T.setFrames fs) := by
  have hm' : T.vm.method? m = some meth := X.method'
  show Steps p.tables e below (T.setTop { method := m, pc := pc, locals := Ls, stack := _ :: rest, locked := none }) _
  jvm_step X.here [X.here.top, hx, hd, hm', hret, narrow]
  first | (intro acts; rw [hl _ acts rfl rfl rfl]) | rw [hl _ _ rfl rfl rfl]
  exact Steps.refl _
/-- from T, with the frame g on top, the run comes to an end of the kind that Q tells; Fe: the frame of that end -/
def Goes (p : Program) (e : Env) (below : List Frame) (s : State) (Fe : State → Outcome → State → List Loc → Nat → Nat → Prop) (kc ks : Nat) (Q : Option Value → Heap → List Loc → Prop) (T : State) (g : JFrame) : Prop :=
  ∃ s₂ o, Steps p.tables e below (T.setTop g) s₂ ∧ s₂.status = .running ∧ Ended s₂ below o ∧ ∃ v L, o = .returned v ∧ Q v s₂.heap L ∧ Fe s o s₂ L kc ks
/-- a wide end that keeps the invariant of the held constants -/
def HeldEnd (Z : State) (EL : List (String × Nat)) (s : State) (o : Outcome) (t : State) (L : List Loc) (k n : Nat) : Prop := CHr Z EL s.vm s.heap t.vm t.heap ∧ ReturnedEndW s o t L k n
variable {kc ks : Nat} {Q : Option Value → Heap → List Loc → Prop} {T' : State} {Fe : State → Outcome → State → List Loc → Nat → Nat → Prop}
theorem Goes.go {g g' : JFrame} (h : ∀ t, Steps p.tables e below (T'.setTop g') t → Steps p.tables e below (T.setTop g) t) (k : Goes p e below s Fe kc ks Q T' g') : Goes p e below s Fe kc ks Q T g := by
  obtain ⟨s₂, o, h1, h2⟩ := k
  exact ⟨s₂, o, h _ h1, h2⟩
theorem Goes.to {g : JFrame} (g' : JFrame) (h : ∀ t, Steps p.tables e below (T'.setTop g') t → Steps p.tables e below (T.setTop g) t) (k : Goes p e below s Fe kc ks Q T' g') : Goes p e below s Fe kc ks Q T g := k.go h
theorem Goes.cast {g g' : JFrame} (q : g = g') (k : Goes p e below s Fe kc ks Q T g') : Goes p e below s Fe kc ks Q T g := q ▸ k
theorem Goes.retN (X : Stand p l e R s m args below meth c T locs cells slots) (hx : p.tables.exec = Jvm.exec) (hlk : meth.locks = false) {pc : Nat} {Ls : Array Slot} {z : Int32} {t : FieldType} {rest : List Value} (hret : meth.sig.returnType = some t) (ht : t = .boolean ∨ t = .byte ∨ t = .char ∨ t = .short) (hd : decode c.code pc = .ok (.ireturn, 1)) (hc : cells ≤ kc) (hs : slots ≤ ks) (hQ : Q (some (.int (nar t z))) T.heap locs) : Goes p e below s FrameEnd kc ks Q T (mkF m pc Ls (.int z :: rest)) := by
  obtain ⟨fs, hr, hrun, hended, hW, hsame⟩ := X.leave (v := some (.int (nar t z))) (fun h => by rw [hret] at h; cases h) hlk
  exact ⟨_, _, RoadKit.retN X hx hret ht hd hr, hrun, hended, _, _, rfl, hQ, ⟨_, rfl⟩, hW, hsame.mono hc hs⟩
theorem Goes.retNW {vm1 : Vm} {k0 : Nat} (X : Stand p l e R (s.setVm vm1) m args below meth c T locs cells slots) (hx : p.tables.exec = Jvm.exec) (hlk : meth.locks = false) (hS : s.Since vm1 k0) (hk : k0 ≤ T.heap.size) {pc : Nat} {Ls : Array Slot} {z : Int32} {t : FieldType} {rest : List Value} (hret : meth.sig.returnType = some t) (ht : t = .boolean ∨ t = .byte ∨ t = .char ∨ t = .short) (hd : decode c.code pc = .ok (.ireturn, 1)) (hc : cells ≤ kc) (hs : slots ≤ ks) (hQ : Q (some (.int (nar t z))) T.heap locs) : Goes p e below s ReturnedEndW kc ks Q T (mkF m pc Ls (.int z :: rest)) := by
  obtain ⟨fs, hr, hrun, hended, h1, h2, h3, hsame⟩ := X.leaveW hS hk (v := some (.int (nar t z))) (fun h => by rw [hret] at h; cases h) hlk
  exact ⟨_, _, RoadKit.retN X hx hret ht hd hr, hrun, hended, _, _, rfl, hQ, h1, h2, h3, hsame.mono hc hs⟩
theorem Goes.retI (X : Stand p l e R s m args below meth c T locs cells slots) (hx : p.tables.exec = Jvm.exec) (hlk : meth.locks = false) {pc : Nat} {Ls : Array Slot} {z : Int32} {rest : List Value} (hret : meth.sig.returnType = some .int) (hd : decode c.code pc = .ok (.ireturn, 1)) (hc : cells ≤ kc) (hs : slots ≤ ks) (hQ : Q (some (.int z)) T.heap locs) : Goes p e below s FrameEnd kc ks Q T (mkF m pc Ls (.int z :: rest)) := by
  obtain ⟨fs, hr, hrun, hended, hW, hsame⟩ := X.leave (v := some (.int z)) (fun h => by rw [hret] at h; cases h) hlk
  exact ⟨_, _, RoadKit.retI X hx hret hd hr, hrun, hended, _, _, rfl, hQ, ⟨_, rfl⟩, hW, hsame.mono hc hs⟩
theorem Goes.retIW {vm1 : Vm} {k0 : Nat} (X : Stand p l e R (s.setVm vm1) m args below meth c T locs cells slots) (hx : p.tables.exec = Jvm.exec) (hlk : meth.locks = false) (hS : s.Since vm1 k0) (hk : k0 ≤ T.heap.size) {pc : Nat} {Ls : Array Slot} {z : Int32} {rest : List Value} (hret : meth.sig.returnType = some .int) (hd : decode c.code pc = .ok (.ireturn, 1)) (hc : cells ≤ kc) (hs : slots ≤ ks) (hQ : Q (some (.int z)) T.heap locs) : Goes p e below s ReturnedEndW kc ks Q T (mkF m pc Ls (.int z :: rest)) := by
  obtain ⟨fs, hr, hrun, hended, h1, h2, h3, hsame⟩ := X.leaveW hS hk (v := some (.int z)) (fun h => by rw [hret] at h; cases h) hlk
  exact ⟨_, _, RoadKit.retI X hx hret hd hr, hrun, hended, _, _, rfl, hQ, h1, h2, h3, hsame.mono hc hs⟩
theorem Goes.retJ (X : Stand p l e R s m args below meth c T locs cells slots) (hx : p.tables.exec = Jvm.exec) (hlk : meth.locks = false) {pc : Nat} {Ls : Array Slot} {z : Int64} {rest : List Value} (hret : meth.sig.returnType = some .long) (hd : decode c.code pc = .ok (.lreturn, 1)) (hc : cells ≤ kc) (hs : slots ≤ ks) (hQ : Q (some (.long z)) T.heap locs) : Goes p e below s FrameEnd kc ks Q T (mkF m pc Ls (.long z :: rest)) := by
  obtain ⟨fs, hr, hrun, hended, hW, hsame⟩ := X.leave (v := some (.long z)) (fun h => by rw [hret] at h; cases h) hlk
  exact ⟨_, _, own_retJ X hx hret hd hr, hrun, hended, _, _, rfl, hQ, ⟨_, rfl⟩, hW, hsame.mono hc hs⟩
theorem Goes.retJW {vm1 : Vm} {k0 : Nat} (X : Stand p l e R (s.setVm vm1) m args below meth c T locs cells slots) (hx : p.tables.exec = Jvm.exec) (hlk : meth.locks = false) (hS : s.Since vm1 k0) (hk : k0 ≤ T.heap.size) {pc : Nat} {Ls : Array Slot} {z : Int64} {rest : List Value} (hret : meth.sig.returnType = some .long) (hd : decode c.code pc = .ok (.lreturn, 1)) (hc : cells ≤ kc) (hs : slots ≤ ks) (hQ : Q (some (.long z)) T.heap locs) : Goes p e below s ReturnedEndW kc ks Q T (mkF m pc Ls (.long z :: rest)) := by
  obtain ⟨fs, hr, hrun, hended, h1, h2, h3, hsame⟩ := X.leaveW hS hk (v := some (.long z)) (fun h => by rw [hret] at h; cases h) hlk
  exact ⟨_, _, own_retJ X hx hret hd hr, hrun, hended, _, _, rfl, hQ, h1, h2, h3, hsame.mono hc hs⟩
theorem Goes.retD (X : Stand p l e R s m args below meth c T locs cells slots) (hx : p.tables.exec = Jvm.exec) (hlk : meth.locks = false) {pc : Nat} {Ls : Array Slot} {z : UInt64} {rest : List Value} (hret : meth.sig.returnType = some .double) (hd : decode c.code pc = .ok (.dreturn, 1)) (hc : cells ≤ kc) (hs : slots ≤ ks) (hQ : Q (some (.double z)) T.heap locs) : Goes p e below s FrameEnd kc ks Q T (mkF m pc Ls (.double z :: rest)) := by
  obtain ⟨fs, hr, hrun, hended, hW, hsame⟩ := X.leave (v := some (.double z)) (fun h => by rw [hret] at h; cases h) hlk
  exact ⟨_, _, own_retD X hx hret hd hr, hrun, hended, _, _, rfl, hQ, ⟨_, rfl⟩, hW, hsame.mono hc hs⟩
theorem Goes.retDW {vm1 : Vm} {k0 : Nat} (X : Stand p l e R (s.setVm vm1) m args below meth c T locs cells slots) (hx : p.tables.exec = Jvm.exec) (hlk : meth.locks = false) (hS : s.Since vm1 k0) (hk : k0 ≤ T.heap.size) {pc : Nat} {Ls : Array Slot} {z : UInt64} {rest : List Value} (hret : meth.sig.returnType = some .double) (hd : decode c.code pc = .ok (.dreturn, 1)) (hc : cells ≤ kc) (hs : slots ≤ ks) (hQ : Q (some (.double z)) T.heap locs) : Goes p e below s ReturnedEndW kc ks Q T (mkF m pc Ls (.double z :: rest)) := by
  obtain ⟨fs, hr, hrun, hended, h1, h2, h3, hsame⟩ := X.leaveW hS hk (v := some (.double z)) (fun h => by rw [hret] at h; cases h) hlk
  exact ⟨_, _, own_retD X hx hret hd hr, hrun, hended, _, _, rfl, hQ, h1, h2, h3, hsame.mono hc hs⟩
theorem Goes.retA (X : Stand p l e R s m args below meth c T locs cells slots) (hx : p.tables.exec = Jvm.exec) (hlk : meth.locks = false) {pc : Nat} {Ls : Array Slot} {w : Value} {t : FieldType} (hw : w.isRef = true) (hret : meth.sig.returnType = some t) (ht : t.isReference = true) (hd : decode c.code pc = .ok (.areturn, 1)) (hc : cells ≤ kc) (hs : slots ≤ ks) (hQ : Q (some w) T.heap locs) : Goes p e below s FrameEnd kc ks Q T (mkF m pc Ls [w]) := by
  obtain ⟨fs, hr, hrun, hended, hW, hsame⟩ := X.leave (v := some w) (fun h => by rw [hret] at h; cases h) hlk
  exact ⟨_, _, X.areturnOut hx hw hret ht hd hr, hrun, hended, _, _, rfl, hQ, ⟨_, rfl⟩, hW, hsame.mono hc hs⟩
theorem Goes.retAW {vm1 : Vm} {k0 : Nat} (X : Stand p l e R (s.setVm vm1) m args below meth c T locs cells slots) (hx : p.tables.exec = Jvm.exec) (hlk : meth.locks = false) (hS : s.Since vm1 k0) (hk : k0 ≤ T.heap.size) {pc : Nat} {Ls : Array Slot} {w : Value} {t : FieldType} (hw : w.isRef = true) (hret : meth.sig.returnType = some t) (ht : t.isReference = true) (hd : decode c.code pc = .ok (.areturn, 1)) (hc : cells ≤ kc) (hs : slots ≤ ks) (hQ : Q (some w) T.heap locs) : Goes p e below s ReturnedEndW kc ks Q T (mkF m pc Ls [w]) := by
  obtain ⟨fs, hr, hrun, hended, h1, h2, h3, hsame⟩ := X.leaveW hS hk (v := some w) (fun h => by rw [hret] at h; cases h) hlk
  exact ⟨_, _, X.areturnOut hx hw hret ht hd hr, hrun, hended, _, _, rfl, hQ, h1, h2, h3, hsame.mono hc hs⟩
theorem Goes.retV (X : Stand p l e R s m args below meth c T locs cells slots) (hx : p.tables.exec = Jvm.exec) (hlk : meth.locks = false) {pc : Nat} {Ls : Array Slot} (hret : meth.sig.returnType = none) (hd : decode c.code pc = .ok (.return_, 1)) (hc : cells ≤ kc) (hs : slots ≤ ks) (hQ : Q (none) T.heap locs) : Goes p e below s FrameEnd kc ks Q T (mkF m pc Ls []) := by
  obtain ⟨fs, hr, hrun, hended, hW, hsame⟩ := X.leave (v := none) (fun _ => rfl) hlk
  exact ⟨_, _, X.returnOut hx hret hd hr, hrun, hended, _, _, rfl, hQ, ⟨_, rfl⟩, hW, hsame.mono hc hs⟩
theorem Goes.retVW {vm1 : Vm} {k0 : Nat} (X : Stand p l e R (s.setVm vm1) m args below meth c T locs cells slots) (hx : p.tables.exec = Jvm.exec) (hlk : meth.locks = false) (hS : s.Since vm1 k0) (hk : k0 ≤ T.heap.size) {pc : Nat} {Ls : Array Slot} (hret : meth.sig.returnType = none) (hd : decode c.code pc = .ok (.return_, 1)) (hc : cells ≤ kc) (hs : slots ≤ ks) (hQ : Q (none) T.heap locs) : Goes p e below s ReturnedEndW kc ks Q T (mkF m pc Ls []) := by
  obtain ⟨fs, hr, hrun, hended, h1, h2, h3, hsame⟩ := X.leaveW hS hk (v := none) (fun _ => rfl) hlk
  exact ⟨_, _, X.returnOut hx hret hd hr, hrun, hended, _, _, rfl, hQ, h1, h2, h3, hsame.mono hc hs⟩
theorem Goes.retNH {vm1 : Vm} {k0 : Nat} {Z : State} {a0 : Array Value} {EL : List (String × Nat)} (X : Stand p l e R (s.setVm vm1) m args below meth c T locs cells slots) (hx : p.tables.exec = Jvm.exec) (hlk : meth.locks = false) (hS : s.Since vm1 k0) (hk : k0 ≤ T.heap.size) (hZ : Z.Warmed39 vm1) (hEL : EW Z a0 EL) (C : CHr Z EL s.vm s.heap vm1 T.heap) {pc : Nat} {Ls : Array Slot} {z : Int32} {t : FieldType} {rest : List Value} (hret : meth.sig.returnType = some t) (ht : t = .boolean ∨ t = .byte ∨ t = .char ∨ t = .short) (hd : decode c.code pc = .ok (.ireturn, 1)) (hc : cells ≤ kc) (hs : slots ≤ ks) (hQ : Q (some (.int (nar t z))) T.heap locs) : Goes p e below s (HeldEnd Z EL) kc ks Q T (mkF m pc Ls (.int z :: rest)) := by
  obtain ⟨fs, hr, hrun, hended, h1, h2, h3, hsame⟩ := X.leaveW hS hk (v := some (.int (nar t z))) (fun h => by rw [hret] at h; cases h) hlk
  exact ⟨_, _, RoadKit.retN X hx hret ht hd hr, hrun, hended, _, _, rfl, hQ, C.trans (CHv.at (T := T) X hZ hEL C.1), h1, h2, h3, hsame.mono hc hs⟩
theorem Goes.retIH {vm1 : Vm} {k0 : Nat} {Z : State} {a0 : Array Value} {EL : List (String × Nat)} (X : Stand p l e R (s.setVm vm1) m args below meth c T locs cells slots) (hx : p.tables.exec = Jvm.exec) (hlk : meth.locks = false) (hS : s.Since vm1 k0) (hk : k0 ≤ T.heap.size) (hZ : Z.Warmed39 vm1) (hEL : EW Z a0 EL) (C : CHr Z EL s.vm s.heap vm1 T.heap) {pc : Nat} {Ls : Array Slot} {z : Int32} {rest : List Value} (hret : meth.sig.returnType = some .int) (hd : decode c.code pc = .ok (.ireturn, 1)) (hc : cells ≤ kc) (hs : slots ≤ ks) (hQ : Q (some (.int z)) T.heap locs) : Goes p e below s (HeldEnd Z EL) kc ks Q T (mkF m pc Ls (.int z :: rest)) := by
  obtain ⟨fs, hr, hrun, hended, h1, h2, h3, hsame⟩ := X.leaveW hS hk (v := some (.int z)) (fun h => by rw [hret] at h; cases h) hlk
  exact ⟨_, _, RoadKit.retI X hx hret hd hr, hrun, hended, _, _, rfl, hQ, C.trans (CHv.at (T := T) X hZ hEL C.1), h1, h2, h3, hsame.mono hc hs⟩
theorem Goes.retAH {vm1 : Vm} {k0 : Nat} {Z : State} {a0 : Array Value} {EL : List (String × Nat)} (X : Stand p l e R (s.setVm vm1) m args below meth c T locs cells slots) (hx : p.tables.exec = Jvm.exec) (hlk : meth.locks = false) (hS : s.Since vm1 k0) (hk : k0 ≤ T.heap.size) (hZ : Z.Warmed39 vm1) (hEL : EW Z a0 EL) (C : CHr Z EL s.vm s.heap vm1 T.heap) {pc : Nat} {Ls : Array Slot} {w : Value} {t : FieldType} (hw : w.isRef = true) (hret : meth.sig.returnType = some t) (ht : t.isReference = true) (hd : decode c.code pc = .ok (.areturn, 1)) (hc : cells ≤ kc) (hs : slots ≤ ks) (hQ : Q (some w) T.heap locs) : Goes p e below s (HeldEnd Z EL) kc ks Q T (mkF m pc Ls [w]) := by
  obtain ⟨fs, hr, hrun, hended, h1, h2, h3, hsame⟩ := X.leaveW hS hk (v := some w) (fun h => by rw [hret] at h; cases h) hlk
  exact ⟨_, _, X.areturnOut hx hw hret ht hd hr, hrun, hended, _, _, rfl, hQ, C.trans (CHv.at (T := T) X hZ hEL C.1), h1, h2, h3, hsame.mono hc hs⟩
theorem Goes.retVH {vm1 : Vm} {k0 : Nat} {Z : State} {a0 : Array Value} {EL : List (String × Nat)} (X : Stand p l e R (s.setVm vm1) m args below meth c T locs cells slots) (hx : p.tables.exec = Jvm.exec) (hlk : meth.locks = false) (hS : s.Since vm1 k0) (hk : k0 ≤ T.heap.size) (hZ : Z.Warmed39 vm1) (hEL : EW Z a0 EL) (C : CHr Z EL s.vm s.heap vm1 T.heap) {pc : Nat} {Ls : Array Slot} (hret : meth.sig.returnType = none) (hd : decode c.code pc = .ok (.return_, 1)) (hc : cells ≤ kc) (hs : slots ≤ ks) (hQ : Q (none) T.heap locs) : Goes p e below s (HeldEnd Z EL) kc ks Q T (mkF m pc Ls []) := by
  obtain ⟨fs, hr, hrun, hended, h1, h2, h3, hsame⟩ := X.leaveW hS hk (v := none) (fun _ => rfl) hlk
  exact ⟨_, _, X.returnOut hx hret hd hr, hrun, hended, _, _, rfl, hQ, C.trans (CHv.at (T := T) X hZ hEL C.1), h1, h2, h3, hsame.mono hc hs⟩
end New
/-- a boolean as the machine holds it -/
def bit (P : Prop) [Decidable P] : Int32 := if P then 1 else 0
theorem bit_t {P : Prop} [Decidable P] (h : P) : bit P = 1 := if_pos h
theorem bit_f {P : Prop} [Decidable P] (h : ¬ P) : bit P = 0 := if_neg h
theorem nar_bit (P : Prop) [Decidable P] : nar .boolean (bit P) = bit P := by unfold bit; split <;> rfl
theorem bit_ne {P : Prop} [Decidable P] : ¬ bit P = 0 ↔ P := by unfold bit; split <;> simp_all
theorem bit_eq {P R : Prop} [Decidable P] [Decidable R] : bit P = bit R ↔ (P ↔ R) := by unfold bit; split <;> split <;> simp_all
theorem own_selPriv {Z s : State} {a0 args : Array Value} {y : MethodName} {n : Nat} (hZ : Z.Warmed39 s.vm) (wi : (Cond.instantiable y.cls n).before a0 Z = true) (wp : (Cond.privateMethod y).before a0 Z = true) (wm : (Cond.instanceMethod y).before a0 Z = true) (hy : y.cls ≠ "java/lang/invoke/MethodHandle" ∧ y.cls ≠ "java/lang/invoke/VarHandle") : (Cond.selects y.cls y y).before args s = true := by
  obtain ⟨c, k, h1, h2, h3, h4, -⟩ := Cond.instantiable_spec (mv hZ wi : (Cond.instantiable y.cls n).before args s = true)
  exact selects_self_of_private h1 h2 (Bool.or_eq_false_iff.mp h4).1 (Cond.privateMethod_at (mvP hZ wp (args := args))) (mv hZ wm) hy
theorem own_fldI {s : State} {args : Array Value} {t : Term} {a : Addr} {C n d : String} {k : Int32} (ev : t.eval args s none [] s = some (.ref a)) (h : (Jvm.Cond.eq (Term.field t C n d) (Term.int k)).value args s none s [] = some true) : Fld s s.heap a C n d (.int k) := by
  obtain ⟨x, y, h1, h2, h3, h4⟩ := cmp_v (Or.inl h)
  obtain rfl : Value.int k = y := Option.some.inj h2
  obtain ⟨z, rfl⟩ := h4
  have q : z = k := by simpa [Cond.value, h1, h2] using h
  subst q
  exact Fld.start ((fld_at ev).symm.trans h1)
end Jvm.RoadKit
namespace Jvm.Pilot.@@N@@
open Jvm Jvm.ClassFile Sem Op Lib Jvm.Free Jvm.Stand Jvm.LawKit Jvm.RoadKit Bundle Jvm.Pilot.@@N@@.Jvm.D
theorem pn_java_util_Set : plainName "java/util/Set" = true := by first | (simp [plainName, overriddenIn]; done) | decide +kernel
theorem ef_rm_of (m : MethodId)  : entryFrame m #[] 0 = mkF m 0 #[] [] := by first | (simp [entryFrame, mkF, argsToLocals, Value.category]; done) | rfl
def Q_rm_of (Z : State) (es : Addr) (h0 : Heap) (n0 : Nat) (v : Option Value) (h : Heap) (L : List Loc) : Prop := v = some (.ref es) ∧ Fr n0 L ∧ h = h0
theorem d2_0 : decode jdk_96_method_17_code 0 = .ok (.getstatic 9, 3) := by decide +kernel
theorem d2_3 : decode jdk_96_method_17_code 3 = .ok (.areturn, 1) := by decide +kernel
set_option maxRecDepth 65536 in
set_option maxHeartbeats 40000000 in
theorem rm_of (l : Launch) (Z : State) (a0 : Array Value) (hw : ∀ d ∈ tables_1, d.before a0 Z = true) (ws : List Jvm.Cond) (es : Addr) (h0 : Heap) (n0 : Nat) (O : Old Z n0 h0) (S_ES : Sta Z Z.heap "java/util/ImmutableCollections" "EMPTY_SET" "Ljava/util/ImmutableCollections$SetN;" (.ref es)) :
    MetFree l (⟨"java/util/Set", "of", "()Ljava/util/Set;"⟩ : MethodName) (head1 (Jvm.Cond.code (⟨"java/util/Set", "of", "()Ljava/util/Set;"⟩ : MethodName) jdk_96_method_17_code 0 (some (.object "java/util/Set")) :: ws) ({ frames := 0, cells := 0, slots := 0, locals := 0 } : Room)) (fun aa U => aa = #[] ∧ Z.Warmed39 U.vm ∧ U.heap = h0) (fun _ _ _ _ _ => True) (fun _ U o U' => ∃ v L, o = .returned v ∧ Q_rm_of Z es h0 n0 v U'.heap L ∧ FrameEnd U o U' L ({ frames := 0, cells := 0, slots := 0, locals := 0 } : Room).cells ({ frames := 0, cells := 0, slots := 0, locals := 0 } : Room).slots) := by
  refine MetFree.of_bodySF (plainFor_of_name pn_java_util_Set) hisR ?_
  intro p e s m args below meth c s₁ Bd hml0 hP hK
  obtain ⟨rfl, hZ, hh⟩ := hP
  have hx := Bd.exec
  have hby := Bd.bytes
  have hml : c.maxLocals = 0 := hml0
  have hown : s.vm.findClass "java/util/Set" = some m.cls := findClass_of_methodNamed Bd.named
  have hnm := (name_of_methodNamed Bd.named Bd.method).1
  have X0 : Stand p l e ({ frames := 0, cells := 0, slots := 0, locals := 0 } : Room) s m #[] below meth c s₁ [] 0 0 := Stand.of_body Bd
  have e0 : s₁.heap = h0 := by rw [← hh, Bd.state]; rfl
  have N0 := Fr.nil n0
  show Goes p e below s FrameEnd ({ frames := 0, cells := 0, slots := 0, locals := 0 } : Room).cells ({ frames := 0, cells := 0, slots := 0, locals := 0 } : Room).slots (Q_rm_of Z es h0 n0) s₁ (entryFrame m #[] 0)
  refine Goes.cast (ef_rm_of m ) ?_
  obtain ⟨T1, X1, e1, st1⟩ := getS2 X0 hx hZ hown (host := "") (Or.inl (hw _ (List.mem_of_getElem? (i := 11) rfl))) Via.refl e0 (S_ES.ext O.2) (g := (mkF m 0 #[] [])) rfl (hb hby d2_0)
  refine Goes.to (T' := T1) (mkF m 3 #[] [(.ref es)]) st1 ?_
  refine Goes.retA X1 hx Bd.notSynchronized rfl Bd.returns rfl (hb hby d2_3) (by decide) (by decide) ?_
  rw [e1]
  exact ⟨rfl, N0, rfl⟩
theorem pn_java_lang_Record : plainName "java/lang/Record" = true := by first | (simp [plainName, overriddenIn]; done) | decide +kernel
theorem ef_rm_rec (m : MethodId) (x0 : Addr) : entryFrame m #[(.ref x0)] 1 = mkF m 0 #[.val (.ref x0)] [] := by first | (simp [entryFrame, mkF, argsToLocals, Value.category]; done) | rfl
def Q_rm_rec (Z : State) (a : Addr) (h0 : Heap) (n0 : Nat) (v : Option Value) (h : Heap) (L : List Loc) : Prop := v = none ∧ Fr n0 L ∧ h = h0
theorem d4_0 : decode jdk_30_method_1_code 0 = .ok (.aload_n 0, 1) := by decide +kernel
theorem d4_1 : decode jdk_30_method_1_code 1 = .ok (.invokespecial 1, 3) := by decide +kernel
theorem d4_4 : decode jdk_30_method_1_code 4 = .ok (.return_, 1) := by decide +kernel
set_option maxRecDepth 65536 in
set_option maxHeartbeats 40000000 in
theorem rm_rec (l : Launch) (Z : State) (a0 : Array Value) (hw : ∀ d ∈ tables_1, d.before a0 Z = true) (ws : List Jvm.Cond) (a : Addr) (h0 : Heap) (n0 : Nat) (O : Old Z n0 h0) :
    MetFree l (⟨"java/lang/Record", "<init>", "()V"⟩ : MethodName) (head1 (Jvm.Cond.code (⟨"java/lang/Record", "<init>", "()V"⟩ : MethodName) jdk_30_method_1_code 1 none :: ws) ({ frames := 1, cells := 0, slots := 0, locals := 12 } : Room)) (fun aa U => aa = #[(.ref a)] ∧ Z.Warmed39 U.vm ∧ U.heap = h0) (fun _ _ _ _ _ => True) (fun _ U o U' => ∃ v L, o = .returned v ∧ Q_rm_rec Z a h0 n0 v U'.heap L ∧ FrameEnd U o U' L ({ frames := 1, cells := 0, slots := 0, locals := 12 } : Room).cells ({ frames := 1, cells := 0, slots := 0, locals := 12 } : Room).slots) := by
  refine MetFree.of_bodySF (plainFor_of_name pn_java_lang_Record) hisR ?_
  intro p e s m args below meth c s₁ Bd hml0 hP hK
  obtain ⟨rfl, hZ, hh⟩ := hP
  have hx := Bd.exec
  have hby := Bd.bytes
  have hml : c.maxLocals = 1 := hml0
  have hown : s.vm.findClass "java/lang/Record" = some m.cls := findClass_of_methodNamed Bd.named
  have hnm := (name_of_methodNamed Bd.named Bd.method).1
  have X0 : Stand p l e ({ frames := 1, cells := 0, slots := 0, locals := 12 } : Room) s m #[(.ref a)] below meth c s₁ [] 0 0 := Stand.of_body Bd
  have e0 : s₁.heap = h0 := by rw [← hh, Bd.state]; rfl
  have N0 := Fr.nil n0
  show Goes p e below s FrameEnd ({ frames := 1, cells := 0, slots := 0, locals := 12 } : Room).cells ({ frames := 1, cells := 0, slots := 0, locals := 12 } : Room).slots (Q_rm_rec Z a h0 n0) s₁ (entryFrame m #[(.ref a)] 1)
  refine Goes.cast (ef_rm_rec m a) ?_
  refine Goes.to (T' := s₁) (mkF m 1 #[.val (.ref a)] [(.ref a)]) (fun t k => XS.aloadN X0.here hx rfl (hb hby d4_0) rfl rfl k) ?_
  obtain ⟨T1, X1, e1, st1⟩ := initO X0 hx hZ hown (hw _ (List.mem_of_getElem? (i := 21) rfl)) (hw _ (List.mem_of_getElem? (i := 22) rfl)) (hw _ (List.mem_of_getElem? (i := 23) rfl)) e0 (g := (mkF m 1 #[.val (.ref a)] [(.ref a)])) rfl (by rw [hml]; rfl) rfl (hb hby d4_1) (by decide) (W := 0) (by show 2 * 0 + _ ≤ _; exact Nat.le_of_eq rfl) (by decide)
  refine Goes.to (T' := T1) (mkF m 4 #[.val (.ref a)] []) st1 ?_
  refine Goes.retV X1 hx Bd.notSynchronized Bd.returns (hb hby d4_4) (by decide) (by decide) ?_
  rw [e1]
  exact ⟨rfl, N0, rfl⟩
theorem pn_com_example_forest_in_rows_forestinrows_SiblingGroups_Selection : plainName "com/example/forest_in_rows/forestinrows/SiblingGroups$Selection" = true := by first | (simp [plainName, overriddenIn]; done) | decide +kernel
theorem ef_rm_init (m : MethodId) (x0 : Addr) (x1 : Int32) (x2 : Addr) (x3 : Int32) (x4 : Int32) : entryFrame m #[(.ref x0), (.int x1), (.ref x2), (.int x3), (.int x4)] 5 = mkF m 0 #[.val (.ref x0), .val (.int x1), .val (.ref x2), .val (.int x3), .val (.int x4)] [] := by first | (simp [entryFrame, mkF, argsToLocals, Value.category]; done) | rfl
def Q_rm_init (Z : State) (a : Addr) (p1 : Int32) (sr : Addr) (p3 p4 : Int32) (u1 u2 u3 u4 : Value) (h0 : Heap) (n0 : Nat) (v : Option Value) (h : Heap) (L : List Loc) : Prop := v = none ∧ Fr n0 L ∧ Keep h0 h [a] ∧ Fld Z h a "com/example/forest_in_rows/forestinrows/SiblingGroups$Selection" "fromRoots" "Z" (.int (nar .boolean p1)) ∧ Fld Z h a "com/example/forest_in_rows/forestinrows/SiblingGroups$Selection" "nearest" "I" (.int p3) ∧ Fld Z h a "com/example/forest_in_rows/forestinrows/SiblingGroups$Selection" "farthest" "I" (.int p4)
theorem d3_0 : decode prog_62_method_1_code 0 = .ok (.aload_n 0, 1) := by decide +kernel
theorem d3_1 : decode prog_62_method_1_code 1 = .ok (.invokespecial 1, 3) := by decide +kernel
theorem pd_0 : parseMethodDescriptor "()V" = some ⟨[], none⟩ := by decide +kernel
theorem d3_4 : decode prog_62_method_1_code 4 = .ok (.aload_n 0, 1) := by decide +kernel
theorem d3_5 : decode prog_62_method_1_code 5 = .ok (.iload_n 1, 1) := by decide +kernel
theorem d3_6 : decode prog_62_method_1_code 6 = .ok (.putfield 7, 3) := by decide +kernel
theorem d3_9 : decode prog_62_method_1_code 9 = .ok (.aload_n 0, 1) := by decide +kernel
theorem d3_10 : decode prog_62_method_1_code 10 = .ok (.aload_n 2, 1) := by decide +kernel
theorem d3_11 : decode prog_62_method_1_code 11 = .ok (.putfield 13, 3) := by decide +kernel
theorem d3_14 : decode prog_62_method_1_code 14 = .ok (.aload_n 0, 1) := by decide +kernel
theorem d3_15 : decode prog_62_method_1_code 15 = .ok (.iload_n 3, 1) := by decide +kernel
theorem d3_16 : decode prog_62_method_1_code 16 = .ok (.putfield 17, 3) := by decide +kernel
theorem d3_19 : decode prog_62_method_1_code 19 = .ok (.aload_n 0, 1) := by decide +kernel
theorem d3_20 : decode prog_62_method_1_code 20 = .ok (.iload 4, 2) := by decide +kernel
theorem d3_22 : decode prog_62_method_1_code 22 = .ok (.putfield 21, 3) := by decide +kernel
theorem d3_25 : decode prog_62_method_1_code 25 = .ok (.return_, 1) := by decide +kernel
set_option maxRecDepth 65536 in
set_option maxHeartbeats 40000000 in
theorem rm_init (l : Launch) (Z : State) (a0 : Array Value) (hw : ∀ d ∈ tables_1, d.before a0 Z = true) (ws : List Jvm.Cond) (a : Addr) (p1 : Int32) (sr : Addr) (p3 p4 : Int32) (u1 u2 u3 u4 : Value) (h0 : Heap) (n0 : Nat) (O : Old Z n0 h0) (F_fromRoots_a : Fld Z h0 a "com/example/forest_in_rows/forestinrows/SiblingGroups$Selection" "fromRoots" "Z" u1) (F_anchors_a : Fld Z h0 a "com/example/forest_in_rows/forestinrows/SiblingGroups$Selection" "anchors" "Ljava/util/Set;" u2) (F_nearest_a : Fld Z h0 a "com/example/forest_in_rows/forestinrows/SiblingGroups$Selection" "nearest" "I" u3) (F_farthest_a : Fld Z h0 a "com/example/forest_in_rows/forestinrows/SiblingGroups$Selection" "farthest" "I" u4) (E_a : Exa Z h0 a "com/example/forest_in_rows/forestinrows/SiblingGroups$Selection") (g_a : n0 ≤ a) :
    MetFree l (⟨"com/example/forest_in_rows/forestinrows/SiblingGroups$Selection", "<init>", "(ZLjava/util/Set;II)V"⟩ : MethodName) (head1 (Jvm.Cond.code (⟨"com/example/forest_in_rows/forestinrows/SiblingGroups$Selection", "<init>", "(ZLjava/util/Set;II)V"⟩ : MethodName) prog_62_method_1_code 5 none :: ws) ({ frames := 2, cells := 0, slots := 0, locals := 24 } : Room)) (fun aa U => aa = #[(.ref a), (.int p1), (.ref sr), (.int p3), (.int p4)] ∧ Z.Warmed39 U.vm ∧ U.heap = h0) (fun _ _ _ _ _ => True) (fun _ U o U' => ∃ v L, o = .returned v ∧ Q_rm_init Z a p1 sr p3 p4 u1 u2 u3 u4 h0 n0 v U'.heap L ∧ FrameEnd U o U' L ({ frames := 2, cells := 0, slots := 0, locals := 24 } : Room).cells ({ frames := 2, cells := 0, slots := 0, locals := 24 } : Room).slots) := by
  refine MetFree.of_bodySF (plainFor_of_name pn_com_example_forest_in_rows_forestinrows_SiblingGroups_Selection) hisR ?_
  intro p e s m args below meth c s₁ Bd hml0 hP hK
  obtain ⟨rfl, hZ, hh⟩ := hP
  have hx := Bd.exec
  have hby := Bd.bytes
  have hml : c.maxLocals = 5 := hml0
  have hown : s.vm.findClass "com/example/forest_in_rows/forestinrows/SiblingGroups$Selection" = some m.cls := findClass_of_methodNamed Bd.named
  have hnm := (name_of_methodNamed Bd.named Bd.method).1
  have X0 : Stand p l e ({ frames := 2, cells := 0, slots := 0, locals := 24 } : Room) s m #[(.ref a), (.int p1), (.ref sr), (.int p3), (.int p4)] below meth c s₁ [] 0 0 := Stand.of_body Bd
  have e0 : s₁.heap = h0 := by rw [← hh, Bd.state]; rfl
  have N0 := Fr.nil n0
  have K : Keep h0 h0 [a] := Keep.refl _ _
  show Goes p e below s FrameEnd ({ frames := 2, cells := 0, slots := 0, locals := 24 } : Room).cells ({ frames := 2, cells := 0, slots := 0, locals := 24 } : Room).slots (Q_rm_init Z a p1 sr p3 p4 u1 u2 u3 u4 h0 n0) s₁ (entryFrame m #[(.ref a), (.int p1), (.ref sr), (.int p3), (.int p4)] 5)
  refine Goes.cast (ef_rm_init m a p1 sr p3 p4) ?_
  refine Goes.to (T' := s₁) (mkF m 1 #[.val (.ref a), .val (.int p1), .val (.ref sr), .val (.int p3), .val (.int p4)] [(.ref a)]) (fun t k => XS.aloadN X0.here hx rfl (hb hby d3_0) rfl rfl k) ?_
  obtain ⟨_, _, ⟨T1, L1, k1, n1⟩, -, X1, ⟨Lc1, hQ1, l1, y1, z1⟩, st1⟩ := X0.specialBack hx (y := (⟨"java/lang/Record", "<init>", "()V"⟩ : MethodName)) rfl hown (mvT hZ (hw _ (List.mem_of_getElem? (i := 16) rfl))) (mvT hZ (hw _ (List.mem_of_getElem? (i := 17) rfl))) (mvT hZ (hw _ (List.mem_of_getElem? (i := 20) rfl))) (by decide) (backOf (W := 0) (rm_rec l Z a0 hw [] a h0 n0 O) hZ (hw _ (List.mem_of_getElem? (i := 20) rfl)) (hw _ (List.mem_of_getElem? (i := 19) rfl)) (by decide) (by decide)) (g := (mkF m 1 #[.val (.ref a), .val (.int p1), .val (.ref sr), .val (.int p3), .val (.int p4)] [(.ref a)])) rfl (by rw [hml]; rfl) (Steps.refl _) (a := a) (argsL := []) (rest := []) (lenOf pd_0 rfl) rfl (by show 2 * 0 + _ ≤ _; exact Nat.le_of_eq rfl) (hb hby d3_1) (fun _ _ => ⟨rfl, e0, (by decide : 0 + 0 ≤ _), (by decide : 0 + 0 ≤ _)⟩)
  dsimp only [Pt.U, Pt.locs, Pt.cells, Pt.slots] at X1 l1 y1 z1 st1 hQ1
  subst l1 y1 z1
  obtain ⟨rfl, N1, hs1⟩ := hQ1
  have N1' := Fr.app N0 N1
  refine Goes.to (T' := T1) (mkF m 4 #[.val (.ref a), .val (.int p1), .val (.ref sr), .val (.int p3), .val (.int p4)] []) (fun t k => st1.trans k) ?_
  refine Goes.to (T' := T1) (mkF m 5 #[.val (.ref a), .val (.int p1), .val (.ref sr), .val (.int p3), .val (.int p4)] [(.ref a)]) (fun t k => XS.aloadN X1.here hx rfl (hb hby d3_4) rfl rfl k) ?_
  refine Goes.to (T' := T1) (mkF m 6 #[.val (.ref a), .val (.int p1), .val (.ref sr), .val (.int p3), .val (.int p4)] [(.int p1), (.ref a)]) (fun t k => XS.iloadN X1.here hx rfl (hb hby d3_5) rfl k) ?_
  obtain ⟨T2, h2, X2, e2, W2, st2⟩ := putFN X1 hx hZ hown (hw _ (List.mem_of_getElem? (i := 24) rfl)) Via.refl hs1 F_fromRoots_a E_a (Or.inr ⟨(hw _ (List.mem_of_getElem? (i := 25) rfl)), rfl, hnm⟩) (hw _ (List.mem_of_getElem? (i := 6) rfl)) (ty := .boolean) (v' := .int (nar .boolean p1)) (by decide) rfl (fits_nar_bool _) (g := (mkF m 6 #[.val (.ref a), .val (.int p1), .val (.ref sr), .val (.int p3), .val (.int p4)] [(.int p1), (.ref a)])) rfl rfl (hb hby d3_6)
  replace E_a := E_a.wr W2
  replace F_fromRoots_a := F_fromRoots_a.same W2
  replace F_anchors_a := F_anchors_a.other W2 (Or.inr (slot_ne (Or.inr (hw _ (List.mem_of_getElem? (i := 27) rfl))) (Or.inr (hw _ (List.mem_of_getElem? (i := 25) rfl))) (by decide) (t := (.object "java/util/Set")) (t' := .boolean) (by decide) (by decide)))
  replace F_nearest_a := F_nearest_a.other W2 (Or.inr (slot_ne (Or.inr (hw _ (List.mem_of_getElem? (i := 29) rfl))) (Or.inr (hw _ (List.mem_of_getElem? (i := 25) rfl))) (by decide) (t := .int) (t' := .boolean) (by decide) (by decide)))
  replace F_farthest_a := F_farthest_a.other W2 (Or.inr (slot_ne (Or.inr (hw _ (List.mem_of_getElem? (i := 31) rfl))) (Or.inr (hw _ (List.mem_of_getElem? (i := 25) rfl))) (by decide) (t := .int) (t' := .boolean) (by decide) (by decide)))
  replace O := O.wr W2 g_a
  replace K := K.wr W2 (Or.inl (by simp))
  have N2 := Fr.snoc X2 N1' g_a
  refine Goes.to (T' := T2) (mkF m 9 #[.val (.ref a), .val (.int p1), .val (.ref sr), .val (.int p3), .val (.int p4)] []) st2 ?_
  refine Goes.to (T' := T2) (mkF m 10 #[.val (.ref a), .val (.int p1), .val (.ref sr), .val (.int p3), .val (.int p4)] [(.ref a)]) (fun t k => XS.aloadN X2.here hx rfl (hb hby d3_9) rfl rfl k) ?_
  refine Goes.to (T' := T2) (mkF m 11 #[.val (.ref a), .val (.int p1), .val (.ref sr), .val (.int p3), .val (.int p4)] [(.ref sr), (.ref a)]) (fun t k => XS.aloadN X2.here hx rfl (hb hby d3_10) rfl rfl k) ?_
  obtain ⟨T3, h3, X3, e3, W3, st3⟩ := putF X2 hx hZ hown (host := "") (Or.inl (hw _ (List.mem_of_getElem? (i := 26) rfl))) Via.refl e2 F_anchors_a E_a (Or.inr ⟨(hw _ (List.mem_of_getElem? (i := 27) rfl)), rfl, hnm⟩) (hw _ (List.mem_of_getElem? (i := 6) rfl)) (ty := (.object "java/util/Set")) (by decide) rfl rfl (g := (mkF m 11 #[.val (.ref a), .val (.int p1), .val (.ref sr), .val (.int p3), .val (.int p4)] [(.ref sr), (.ref a)])) rfl rfl (hb hby d3_11)
  replace E_a := E_a.wr W3
  replace F_fromRoots_a := F_fromRoots_a.other W3 (Or.inr (slot_ne (Or.inr (hw _ (List.mem_of_getElem? (i := 25) rfl))) (Or.inr (hw _ (List.mem_of_getElem? (i := 27) rfl))) (by decide) (t := .boolean) (t' := (.object "java/util/Set")) (by decide) (by decide)))
  replace F_anchors_a := F_anchors_a.same W3
  replace F_nearest_a := F_nearest_a.other W3 (Or.inr (slot_ne (Or.inr (hw _ (List.mem_of_getElem? (i := 29) rfl))) (Or.inr (hw _ (List.mem_of_getElem? (i := 27) rfl))) (by decide) (t := .int) (t' := (.object "java/util/Set")) (by decide) (by decide)))
  replace F_farthest_a := F_farthest_a.other W3 (Or.inr (slot_ne (Or.inr (hw _ (List.mem_of_getElem? (i := 31) rfl))) (Or.inr (hw _ (List.mem_of_getElem? (i := 27) rfl))) (by decide) (t := .int) (t' := (.object "java/util/Set")) (by decide) (by decide)))
  replace O := O.wr W3 g_a
  replace K := K.wr W3 (Or.inl (by simp))
  have N3 := Fr.snoc X3 N2 g_a
  refine Goes.to (T' := T3) (mkF m 14 #[.val (.ref a), .val (.int p1), .val (.ref sr), .val (.int p3), .val (.int p4)] []) st3 ?_
  refine Goes.to (T' := T3) (mkF m 15 #[.val (.ref a), .val (.int p1), .val (.ref sr), .val (.int p3), .val (.int p4)] [(.ref a)]) (fun t k => XS.aloadN X3.here hx rfl (hb hby d3_14) rfl rfl k) ?_
  refine Goes.to (T' := T3) (mkF m 16 #[.val (.ref a), .val (.int p1), .val (.ref sr), .val (.int p3), .val (.int p4)] [(.int p3), (.ref a)]) (fun t k => XS.iloadN X3.here hx rfl (hb hby d3_15) rfl k) ?_
  obtain ⟨T4, h4, X4, e4, W4, st4⟩ := putF X3 hx hZ hown (host := "") (Or.inl (hw _ (List.mem_of_getElem? (i := 28) rfl))) Via.refl e3 F_nearest_a E_a (Or.inr ⟨(hw _ (List.mem_of_getElem? (i := 29) rfl)), rfl, hnm⟩) (hw _ (List.mem_of_getElem? (i := 6) rfl)) (ty := .int) (by decide) rfl rfl (g := (mkF m 16 #[.val (.ref a), .val (.int p1), .val (.ref sr), .val (.int p3), .val (.int p4)] [(.int p3), (.ref a)])) rfl rfl (hb hby d3_16)
  replace E_a := E_a.wr W4
  replace F_fromRoots_a := F_fromRoots_a.other W4 (Or.inr (slot_ne (Or.inr (hw _ (List.mem_of_getElem? (i := 25) rfl))) (Or.inr (hw _ (List.mem_of_getElem? (i := 29) rfl))) (by decide) (t := .boolean) (t' := .int) (by decide) (by decide)))
  replace F_anchors_a := F_anchors_a.other W4 (Or.inr (slot_ne (Or.inr (hw _ (List.mem_of_getElem? (i := 27) rfl))) (Or.inr (hw _ (List.mem_of_getElem? (i := 29) rfl))) (by decide) (t := (.object "java/util/Set")) (t' := .int) (by decide) (by decide)))
  replace F_nearest_a := F_nearest_a.same W4
  replace F_farthest_a := F_farthest_a.other W4 (Or.inr (slot_ne (Or.inr (hw _ (List.mem_of_getElem? (i := 31) rfl))) (Or.inr (hw _ (List.mem_of_getElem? (i := 29) rfl))) (by decide) (t := .int) (t' := .int) (by decide) (by decide)))
  replace O := O.wr W4 g_a
  replace K := K.wr W4 (Or.inl (by simp))
  have N4 := Fr.snoc X4 N3 g_a
  refine Goes.to (T' := T4) (mkF m 19 #[.val (.ref a), .val (.int p1), .val (.ref sr), .val (.int p3), .val (.int p4)] []) st4 ?_
  refine Goes.to (T' := T4) (mkF m 20 #[.val (.ref a), .val (.int p1), .val (.ref sr), .val (.int p3), .val (.int p4)] [(.ref a)]) (fun t k => XS.aloadN X4.here hx rfl (hb hby d3_19) rfl rfl k) ?_
  refine Goes.to (T' := T4) (mkF m 22 #[.val (.ref a), .val (.int p1), .val (.ref sr), .val (.int p3), .val (.int p4)] [(.int p4), (.ref a)]) (fun t k => XS.iload X4.here hx rfl (hb hby d3_20) rfl k) ?_
  obtain ⟨T5, h5, X5, e5, W5, st5⟩ := putF X4 hx hZ hown (host := "") (Or.inl (hw _ (List.mem_of_getElem? (i := 30) rfl))) Via.refl e4 F_farthest_a E_a (Or.inr ⟨(hw _ (List.mem_of_getElem? (i := 31) rfl)), rfl, hnm⟩) (hw _ (List.mem_of_getElem? (i := 6) rfl)) (ty := .int) (by decide) rfl rfl (g := (mkF m 22 #[.val (.ref a), .val (.int p1), .val (.ref sr), .val (.int p3), .val (.int p4)] [(.int p4), (.ref a)])) rfl rfl (hb hby d3_22)
  replace E_a := E_a.wr W5
  replace F_fromRoots_a := F_fromRoots_a.other W5 (Or.inr (slot_ne (Or.inr (hw _ (List.mem_of_getElem? (i := 25) rfl))) (Or.inr (hw _ (List.mem_of_getElem? (i := 31) rfl))) (by decide) (t := .boolean) (t' := .int) (by decide) (by decide)))
  replace F_anchors_a := F_anchors_a.other W5 (Or.inr (slot_ne (Or.inr (hw _ (List.mem_of_getElem? (i := 27) rfl))) (Or.inr (hw _ (List.mem_of_getElem? (i := 31) rfl))) (by decide) (t := (.object "java/util/Set")) (t' := .int) (by decide) (by decide)))
  replace F_nearest_a := F_nearest_a.other W5 (Or.inr (slot_ne (Or.inr (hw _ (List.mem_of_getElem? (i := 29) rfl))) (Or.inr (hw _ (List.mem_of_getElem? (i := 31) rfl))) (by decide) (t := .int) (t' := .int) (by decide) (by decide)))
  replace F_farthest_a := F_farthest_a.same W5
  replace O := O.wr W5 g_a
  replace K := K.wr W5 (Or.inl (by simp))
  have N5 := Fr.snoc X5 N4 g_a
  refine Goes.to (T' := T5) (mkF m 25 #[.val (.ref a), .val (.int p1), .val (.ref sr), .val (.int p3), .val (.int p4)] []) st5 ?_
  refine Goes.retV X5 hx Bd.notSynchronized Bd.returns (hb hby d3_25) (by decide) (by decide) ?_
  rw [e5]
  exact ⟨rfl, N5, K, F_fromRoots_a, F_nearest_a, F_farthest_a⟩
theorem ef_rm_level (m : MethodId) (x0 : Int32) : entryFrame m #[(.int x0)] 1 = mkF m 0 #[.val (.int x0)] [] := by first | (simp [entryFrame, mkF, argsToLocals, Value.category]; done) | rfl
def Q_rm_level (Z : State) (p1 : Int32) (es : Addr) (h0 : Heap) (n0 : Nat) (v : Option Value) (h : Heap) (L : List Loc) : Prop := ∃ b : Addr, v = some (.ref b) ∧ Fr n0 L ∧ Keep h0 h [] ∧ n0 ≤ b ∧ Exa Z h b "com/example/forest_in_rows/forestinrows/SiblingGroups$Selection" ∧ Fld Z h b "com/example/forest_in_rows/forestinrows/SiblingGroups$Selection" "fromRoots" "Z" (.int (nar .boolean 1)) ∧ Fld Z h b "com/example/forest_in_rows/forestinrows/SiblingGroups$Selection" "nearest" "I" (.int (p1 - 1)) ∧ Fld Z h b "com/example/forest_in_rows/forestinrows/SiblingGroups$Selection" "farthest" "I" (.int (p1 - 1))
theorem d1_0 : decode prog_62_method_3_code 0 = .ok (.new 8, 3) := by decide +kernel
theorem d1_3 : decode prog_62_method_3_code 3 = .ok (.dup, 1) := by decide +kernel
theorem d1_4 : decode prog_62_method_3_code 4 = .ok (.iconst 1, 1) := by decide +kernel
theorem d1_5 : decode prog_62_method_3_code 5 = .ok (.invokestatic 24, 3) := by decide +kernel
theorem pd_1 : parseMethodDescriptor "()Ljava/util/Set;" = some ⟨[], some (.object "java/util/Set")⟩ := by decide +kernel
theorem d1_8 : decode prog_62_method_3_code 8 = .ok (.iload_n 0, 1) := by decide +kernel
theorem d1_9 : decode prog_62_method_3_code 9 = .ok (.iconst 1, 1) := by decide +kernel
theorem d1_10 : decode prog_62_method_3_code 10 = .ok (.isub, 1) := by decide +kernel
theorem d1_11 : decode prog_62_method_3_code 11 = .ok (.iload_n 0, 1) := by decide +kernel
theorem d1_12 : decode prog_62_method_3_code 12 = .ok (.iconst 1, 1) := by decide +kernel
theorem d1_13 : decode prog_62_method_3_code 13 = .ok (.isub, 1) := by decide +kernel
theorem d1_14 : decode prog_62_method_3_code 14 = .ok (.invokespecial 33, 3) := by decide +kernel
theorem pd_2 : parseMethodDescriptor "(ZLjava/util/Set;II)V" = some ⟨[.boolean, (.object "java/util/Set"), .int, .int], none⟩ := by decide +kernel
theorem d1_17 : decode prog_62_method_3_code 17 = .ok (.areturn, 1) := by decide +kernel
set_option maxRecDepth 65536 in
set_option maxHeartbeats 40000000 in
theorem rm_level (l : Launch) (Z : State) (a0 : Array Value) (hw : ∀ d ∈ tables_1, d.before a0 Z = true) (ws : List Jvm.Cond) (p1 : Int32) (es : Addr) (h0 : Heap) (n0 : Nat) (O : Old Z n0 h0) (S_ES : Sta Z Z.heap "java/util/ImmutableCollections" "EMPTY_SET" "Ljava/util/ImmutableCollections$SetN;" (.ref es)) :
    MetFree l (⟨"com/example/forest_in_rows/forestinrows/SiblingGroups$Selection", "level", "(I)Lcom/example/forest_in_rows/forestinrows/SiblingGroups$Selection;"⟩ : MethodName) (head1 (Jvm.Cond.code (⟨"com/example/forest_in_rows/forestinrows/SiblingGroups$Selection", "level", "(I)Lcom/example/forest_in_rows/forestinrows/SiblingGroups$Selection;"⟩ : MethodName) prog_62_method_3_code 1 (some (.object "com/example/forest_in_rows/forestinrows/SiblingGroups$Selection")) :: ws) ({ frames := 3, cells := 1, slots := 4, locals := 41 } : Room)) (fun aa U => aa = #[(.int p1)] ∧ Z.Warmed39 U.vm ∧ U.heap = h0) (fun _ _ _ _ _ => True) (fun _ U o U' => ∃ v L, o = .returned v ∧ Q_rm_level Z p1 es h0 n0 v U'.heap L ∧ FrameEnd U o U' L ({ frames := 3, cells := 1, slots := 4, locals := 41 } : Room).cells ({ frames := 3, cells := 1, slots := 4, locals := 41 } : Room).slots) := by
  refine MetFree.of_bodySF (plainFor_of_name pn_com_example_forest_in_rows_forestinrows_SiblingGroups_Selection) hisR ?_
  intro p e s m args below meth c s₁ Bd hml0 hP hK
  obtain ⟨rfl, hZ, hh⟩ := hP
  have hx := Bd.exec
  have hby := Bd.bytes
  have hml : c.maxLocals = 1 := hml0
  have hown : s.vm.findClass "com/example/forest_in_rows/forestinrows/SiblingGroups$Selection" = some m.cls := findClass_of_methodNamed Bd.named
  have hnm := (name_of_methodNamed Bd.named Bd.method).1
  have X0 : Stand p l e ({ frames := 3, cells := 1, slots := 4, locals := 41 } : Room) s m #[(.int p1)] below meth c s₁ [] 0 0 := Stand.of_body Bd
  have e0 : s₁.heap = h0 := by rw [← hh, Bd.state]; rfl
  have N0 := Fr.nil n0
  have K : Keep h0 h0 [] := Keep.refl _ _
  show Goes p e below s FrameEnd ({ frames := 3, cells := 1, slots := 4, locals := 41 } : Room).cells ({ frames := 3, cells := 1, slots := 4, locals := 41 } : Room).slots (Q_rm_level Z p1 es h0 n0) s₁ (entryFrame m #[(.int p1)] 1)
  refine Goes.cast (ef_rm_level m p1) ?_
  obtain ⟨T1, h1, X1, e1, E1, A1, D1, -, st1⟩ := newO X0 hx hZ hown (hw _ (List.mem_of_getElem? (i := 5) rfl)) (hw _ (List.mem_of_getElem? (i := 6) rfl)) (hw _ (List.mem_of_getElem? (i := 3) rfl)) e0 (g := (mkF m 0 #[.val (.int p1)] [])) rfl (hb hby d1_0) (by decide) (by decide)
  obtain ⟨b1, g1⟩ : ∃ z, z = h0.size := ⟨_, rfl⟩
  rw [← g1] at A1 D1 st1
  have g_b1 : n0 ≤ b1 := Nat.le_trans (O.1 ▸ O.2.1) (Nat.le_of_eq g1.symm)
  have sz_b1 : h0.size ≤ b1 := Nat.le_trans K.1 (Nat.le_of_eq g1.symm)
  replace O := O.ext E1
  replace K := K.ext E1
  have E_b1 : Exa Z h1 b1 "com/example/forest_in_rows/forestinrows/SiblingGroups$Selection" := A1
  have F_fromRoots_b1 : Fld Z h1 b1 "com/example/forest_in_rows/forestinrows/SiblingGroups$Selection" "fromRoots" "Z" (.int (0 : Int32)) := D1 (Or.inr (hw _ (List.mem_of_getElem? (i := 25) rfl))) (ty := .boolean) (by decide)
  have F_anchors_b1 : Fld Z h1 b1 "com/example/forest_in_rows/forestinrows/SiblingGroups$Selection" "anchors" "Ljava/util/Set;" .null := D1 (Or.inr (hw _ (List.mem_of_getElem? (i := 27) rfl))) (ty := (.object "java/util/Set")) (by decide)
  have F_nearest_b1 : Fld Z h1 b1 "com/example/forest_in_rows/forestinrows/SiblingGroups$Selection" "nearest" "I" (.int (0 : Int32)) := D1 (Or.inr (hw _ (List.mem_of_getElem? (i := 29) rfl))) (ty := .int) (by decide)
  have F_farthest_b1 : Fld Z h1 b1 "com/example/forest_in_rows/forestinrows/SiblingGroups$Selection" "farthest" "I" (.int (0 : Int32)) := D1 (Or.inr (hw _ (List.mem_of_getElem? (i := 31) rfl))) (ty := .int) (by decide)
  refine Goes.to (T' := T1) (mkF m 3 #[.val (.int p1)] [(.ref b1)]) st1 ?_
  refine Goes.to (T' := T1) (mkF m 4 #[.val (.int p1)] [(.ref b1), (.ref b1)]) (fun t k => XS.dup X1.here hx rfl (hb hby d1_3) rfl rfl k) ?_
  refine Goes.to (T' := T1) (mkF m 5 #[.val (.int p1)] [(.int (1 : Int32)), (.ref b1), (.ref b1)]) (fun t k => XS.iconst X1.here hx rfl (hb hby d1_4) k) ?_
  obtain ⟨_, _, ⟨T2, L2, k2, n2⟩, -, X2, ⟨Lc2, hQ2, l2, y2, z2⟩, st2⟩ := Jvm.LawKit.callS X1 hx (y := (⟨"java/util/Set", "of", "()Ljava/util/Set;"⟩ : MethodName)) hown (mvT hZ (hw _ (List.mem_of_getElem? (i := 7) rfl))) (mvT hZ (hw _ (List.mem_of_getElem? (i := 8) rfl))) (mvT hZ (hw _ (List.mem_of_getElem? (i := 9) rfl))) (mvT hZ (hw _ (List.mem_of_getElem? (i := 10) rfl))) (by decide) (backOf (W := 3) (rm_of l Z a0 hw [] es h1 n0 O S_ES) hZ (hw _ (List.mem_of_getElem? (i := 10) rfl)) (hw _ (List.mem_of_getElem? (i := 9) rfl)) (by decide) (by decide)) (g := (mkF m 5 #[.val (.int p1)] [(.int (1 : Int32)), (.ref b1), (.ref b1)])) rfl (by rw [hml]; rfl) (argsL := []) (rest := [(.int (1 : Int32)), (.ref b1), (.ref b1)]) (lenOf pd_1 rfl) rfl (by show 2 * 0 + _ ≤ _; exact Nat.le_of_eq rfl) (hb hby d1_5) (fun _ _ => ⟨rfl, e1, (by decide : 1 + 0 ≤ _), (by decide : 4 + 0 ≤ _)⟩)
  dsimp only [Pt.U, Pt.locs, Pt.cells, Pt.slots] at X2 l2 y2 z2 st2 hQ2
  subst l2 y2 z2
  obtain ⟨rfl, N2, hs2⟩ := hQ2
  have N2' := Fr.app N0 N2
  refine Goes.to (T' := T2) (mkF m 8 #[.val (.int p1)] [(.ref es), (.int (1 : Int32)), (.ref b1), (.ref b1)]) (fun t k => st2 t k) ?_
  refine Goes.to (T' := T2) (mkF m 9 #[.val (.int p1)] [(.int p1), (.ref es), (.int (1 : Int32)), (.ref b1), (.ref b1)]) (fun t k => XS.iloadN X2.here hx rfl (hb hby d1_8) rfl k) ?_
  refine Goes.to (T' := T2) (mkF m 10 #[.val (.int p1)] [(.int (1 : Int32)), (.int p1), (.ref es), (.int (1 : Int32)), (.ref b1), (.ref b1)]) (fun t k => XS.iconst X2.here hx rfl (hb hby d1_9) k) ?_
  refine Goes.to (T' := T2) (mkF m 11 #[.val (.int p1)] [(.int (p1 - (1 : Int32))), (.ref es), (.int (1 : Int32)), (.ref b1), (.ref b1)]) (fun t k => XS.isub X2.here hx rfl (hb hby d1_10) rfl k) ?_
  refine Goes.to (T' := T2) (mkF m 12 #[.val (.int p1)] [(.int p1), (.int (p1 - (1 : Int32))), (.ref es), (.int (1 : Int32)), (.ref b1), (.ref b1)]) (fun t k => XS.iloadN X2.here hx rfl (hb hby d1_11) rfl k) ?_
  refine Goes.to (T' := T2) (mkF m 13 #[.val (.int p1)] [(.int (1 : Int32)), (.int p1), (.int (p1 - (1 : Int32))), (.ref es), (.int (1 : Int32)), (.ref b1), (.ref b1)]) (fun t k => XS.iconst X2.here hx rfl (hb hby d1_12) k) ?_
  refine Goes.to (T' := T2) (mkF m 14 #[.val (.int p1)] [(.int (p1 - (1 : Int32))), (.int (p1 - (1 : Int32))), (.ref es), (.int (1 : Int32)), (.ref b1), (.ref b1)]) (fun t k => XS.isub X2.here hx rfl (hb hby d1_13) rfl k) ?_
  obtain ⟨_, _, ⟨T3, L3, k3, n3⟩, -, X3, ⟨Lc3, hQ3, l3, y3, z3⟩, st3⟩ := X2.specialBack hx (y := (⟨"com/example/forest_in_rows/forestinrows/SiblingGroups$Selection", "<init>", "(ZLjava/util/Set;II)V"⟩ : MethodName)) rfl hown (mvT hZ (hw _ (List.mem_of_getElem? (i := 13) rfl))) (mvT hZ (hw _ (List.mem_of_getElem? (i := 14) rfl))) (mvT hZ (hw _ (List.mem_of_getElem? (i := 15) rfl))) (by decide) (backOf (W := 1) (rm_init l Z a0 hw [] b1 (1 : Int32) es (p1 - (1 : Int32)) (p1 - (1 : Int32)) _ _ _ _ h1 n0 O F_fromRoots_b1 F_anchors_b1 F_nearest_b1 F_farthest_b1 E_b1 g_b1) hZ (hw _ (List.mem_of_getElem? (i := 15) rfl)) (hw _ (List.mem_of_getElem? (i := 3) rfl)) (by decide) (by decide)) (g := (mkF m 14 #[.val (.int p1)] [(.int (p1 - (1 : Int32))), (.int (p1 - (1 : Int32))), (.ref es), (.int (1 : Int32)), (.ref b1), (.ref b1)])) rfl (by rw [hml]; rfl) (Steps.refl _) (a := b1) (argsL := [(.int (1 : Int32)), (.ref es), (.int (p1 - (1 : Int32))), (.int (p1 - (1 : Int32)))]) (rest := [(.ref b1)]) (lenOf pd_2 rfl) rfl (by show 2 * 0 + _ ≤ _; exact Nat.le_of_eq rfl) (hb hby d1_14) (fun _ _ => ⟨rfl, hs2, (by decide : 1 + 0 ≤ _), (by decide : 4 + 0 ≤ _)⟩)
  dsimp only [Pt.U, Pt.locs, Pt.cells, Pt.slots] at X3 l3 y3 z3 st3 hQ3
  subst l3 y3 z3
  obtain ⟨rfl, N3, K3, F1, F2, F3⟩ := hQ3
  have N3' := Fr.app N2' N3
  replace E_b1 := E_b1.keep K3
  replace O := O.keep K3 (allS g_b1 all0)
  replace K := K.trans K3 (allS (Or.inr sz_b1) all0)
  refine Goes.to (T' := T3) (mkF m 17 #[.val (.int p1)] [(.ref b1)]) (fun t k => st3.trans k) ?_
  refine Goes.retA X3 hx Bd.notSynchronized rfl Bd.returns rfl (hb hby d1_17) (by decide) (by decide) ?_
  exact ⟨_, rfl, N3', K, g_b1, E_b1, F1, F2, F3⟩
theorem ef_rm_near (m : MethodId) (x0 : Addr) : entryFrame m #[(.ref x0)] 1 = mkF m 0 #[.val (.ref x0)] [] := by first | (simp [entryFrame, mkF, argsToLocals, Value.category]; done) | rfl
def Q_rm_near (Z : State) (a : Addr) (z : Int32) (h0 : Heap) (n0 : Nat) (v : Option Value) (h : Heap) (L : List Loc) : Prop := v = some (.int z) ∧ Fr n0 L ∧ h = h0
theorem d6_0 : decode prog_62_method_12_code 0 = .ok (.aload_n 0, 1) := by decide +kernel
theorem d6_1 : decode prog_62_method_12_code 1 = .ok (.getfield 17, 3) := by decide +kernel
theorem d6_4 : decode prog_62_method_12_code 4 = .ok (.ireturn, 1) := by decide +kernel
set_option maxRecDepth 65536 in
set_option maxHeartbeats 40000000 in
theorem rm_near (l : Launch) (Z : State) (a0 : Array Value) (hw : ∀ d ∈ tables_1, d.before a0 Z = true) (ws : List Jvm.Cond) (a : Addr) (z : Int32) (h0 : Heap) (n0 : Nat) (O : Old Z n0 h0) (F_a : Fld Z h0 a "com/example/forest_in_rows/forestinrows/SiblingGroups$Selection" "nearest" "I" (.int z)) :
    MetFree l (⟨"com/example/forest_in_rows/forestinrows/SiblingGroups$Selection", "nearest", "()I"⟩ : MethodName) (head1 (Jvm.Cond.code (⟨"com/example/forest_in_rows/forestinrows/SiblingGroups$Selection", "nearest", "()I"⟩ : MethodName) prog_62_method_12_code 1 (some .int) :: ws) ({ frames := 0, cells := 0, slots := 0, locals := 0 } : Room)) (fun aa U => aa = #[(.ref a)] ∧ Z.Warmed39 U.vm ∧ U.heap = h0) (fun _ _ _ _ _ => True) (fun _ U o U' => ∃ v L, o = .returned v ∧ Q_rm_near Z a z h0 n0 v U'.heap L ∧ FrameEnd U o U' L ({ frames := 0, cells := 0, slots := 0, locals := 0 } : Room).cells ({ frames := 0, cells := 0, slots := 0, locals := 0 } : Room).slots) := by
  refine MetFree.of_bodySF (plainFor_of_name pn_com_example_forest_in_rows_forestinrows_SiblingGroups_Selection) hisR ?_
  intro p e s m args below meth c s₁ Bd hml0 hP hK
  obtain ⟨rfl, hZ, hh⟩ := hP
  have hx := Bd.exec
  have hby := Bd.bytes
  have hml : c.maxLocals = 1 := hml0
  have hown : s.vm.findClass "com/example/forest_in_rows/forestinrows/SiblingGroups$Selection" = some m.cls := findClass_of_methodNamed Bd.named
  have hnm := (name_of_methodNamed Bd.named Bd.method).1
  have X0 : Stand p l e ({ frames := 0, cells := 0, slots := 0, locals := 0 } : Room) s m #[(.ref a)] below meth c s₁ [] 0 0 := Stand.of_body Bd
  have e0 : s₁.heap = h0 := by rw [← hh, Bd.state]; rfl
  have N0 := Fr.nil n0
  show Goes p e below s FrameEnd ({ frames := 0, cells := 0, slots := 0, locals := 0 } : Room).cells ({ frames := 0, cells := 0, slots := 0, locals := 0 } : Room).slots (Q_rm_near Z a z h0 n0) s₁ (entryFrame m #[(.ref a)] 1)
  refine Goes.cast (ef_rm_near m a) ?_
  refine Goes.to (T' := s₁) (mkF m 1 #[.val (.ref a)] [(.ref a)]) (fun t k => XS.aloadN X0.here hx rfl (hb hby d6_0) rfl rfl k) ?_
  obtain ⟨T1, X1, e1, st1⟩ := getF X0 hx hZ hown (host := "") (Or.inl (hw _ (List.mem_of_getElem? (i := 28) rfl))) Via.refl e0 F_a (g := (mkF m 1 #[.val (.ref a)] [(.ref a)])) rfl rfl (hb hby d6_1)
  refine Goes.to (T' := T1) (mkF m 4 #[.val (.ref a)] [(.int z)]) st1 ?_
  refine Goes.retI X1 hx Bd.notSynchronized Bd.returns (hb hby d6_4) (by decide) (by decide) ?_
  rw [e1]
  exact ⟨rfl, N0, rfl⟩
theorem ef_rm_far (m : MethodId) (x0 : Addr) : entryFrame m #[(.ref x0)] 1 = mkF m 0 #[.val (.ref x0)] [] := by first | (simp [entryFrame, mkF, argsToLocals, Value.category]; done) | rfl
def Q_rm_far (Z : State) (a : Addr) (z : Int32) (h0 : Heap) (n0 : Nat) (v : Option Value) (h : Heap) (L : List Loc) : Prop := v = some (.int z) ∧ Fr n0 L ∧ h = h0
theorem d7_0 : decode prog_62_method_13_code 0 = .ok (.aload_n 0, 1) := by decide +kernel
theorem d7_1 : decode prog_62_method_13_code 1 = .ok (.getfield 21, 3) := by decide +kernel
theorem d7_4 : decode prog_62_method_13_code 4 = .ok (.ireturn, 1) := by decide +kernel
set_option maxRecDepth 65536 in
set_option maxHeartbeats 40000000 in
theorem rm_far (l : Launch) (Z : State) (a0 : Array Value) (hw : ∀ d ∈ tables_1, d.before a0 Z = true) (ws : List Jvm.Cond) (a : Addr) (z : Int32) (h0 : Heap) (n0 : Nat) (O : Old Z n0 h0) (F_a : Fld Z h0 a "com/example/forest_in_rows/forestinrows/SiblingGroups$Selection" "farthest" "I" (.int z)) :
    MetFree l (⟨"com/example/forest_in_rows/forestinrows/SiblingGroups$Selection", "farthest", "()I"⟩ : MethodName) (head1 (Jvm.Cond.code (⟨"com/example/forest_in_rows/forestinrows/SiblingGroups$Selection", "farthest", "()I"⟩ : MethodName) prog_62_method_13_code 1 (some .int) :: ws) ({ frames := 0, cells := 0, slots := 0, locals := 0 } : Room)) (fun aa U => aa = #[(.ref a)] ∧ Z.Warmed39 U.vm ∧ U.heap = h0) (fun _ _ _ _ _ => True) (fun _ U o U' => ∃ v L, o = .returned v ∧ Q_rm_far Z a z h0 n0 v U'.heap L ∧ FrameEnd U o U' L ({ frames := 0, cells := 0, slots := 0, locals := 0 } : Room).cells ({ frames := 0, cells := 0, slots := 0, locals := 0 } : Room).slots) := by
  refine MetFree.of_bodySF (plainFor_of_name pn_com_example_forest_in_rows_forestinrows_SiblingGroups_Selection) hisR ?_
  intro p e s m args below meth c s₁ Bd hml0 hP hK
  obtain ⟨rfl, hZ, hh⟩ := hP
  have hx := Bd.exec
  have hby := Bd.bytes
  have hml : c.maxLocals = 1 := hml0
  have hown : s.vm.findClass "com/example/forest_in_rows/forestinrows/SiblingGroups$Selection" = some m.cls := findClass_of_methodNamed Bd.named
  have hnm := (name_of_methodNamed Bd.named Bd.method).1
  have X0 : Stand p l e ({ frames := 0, cells := 0, slots := 0, locals := 0 } : Room) s m #[(.ref a)] below meth c s₁ [] 0 0 := Stand.of_body Bd
  have e0 : s₁.heap = h0 := by rw [← hh, Bd.state]; rfl
  have N0 := Fr.nil n0
  show Goes p e below s FrameEnd ({ frames := 0, cells := 0, slots := 0, locals := 0 } : Room).cells ({ frames := 0, cells := 0, slots := 0, locals := 0 } : Room).slots (Q_rm_far Z a z h0 n0) s₁ (entryFrame m #[(.ref a)] 1)
  refine Goes.cast (ef_rm_far m a) ?_
  refine Goes.to (T' := s₁) (mkF m 1 #[.val (.ref a)] [(.ref a)]) (fun t k => XS.aloadN X0.here hx rfl (hb hby d7_0) rfl rfl k) ?_
  obtain ⟨T1, X1, e1, st1⟩ := getF X0 hx hZ hown (host := "") (Or.inl (hw _ (List.mem_of_getElem? (i := 30) rfl))) Via.refl e0 F_a (g := (mkF m 1 #[.val (.ref a)] [(.ref a)])) rfl rfl (hb hby d7_1)
  refine Goes.to (T' := T1) (mkF m 4 #[.val (.ref a)] [(.int z)]) st1 ?_
  refine Goes.retI X1 hx Bd.notSynchronized Bd.returns (hb hby d7_4) (by decide) (by decide) ?_
  rw [e1]
  exact ⟨rfl, N0, rfl⟩
theorem ef_rm_roots (m : MethodId) (x0 : Addr) : entryFrame m #[(.ref x0)] 1 = mkF m 0 #[.val (.ref x0)] [] := by first | (simp [entryFrame, mkF, argsToLocals, Value.category]; done) | rfl
def Q_rm_roots (Z : State) (a : Addr) (z : Int32) (h0 : Heap) (n0 : Nat) (v : Option Value) (h : Heap) (L : List Loc) : Prop := v = some (.int (nar .boolean z)) ∧ Fr n0 L ∧ h = h0
theorem d8_0 : decode prog_62_method_10_code 0 = .ok (.aload_n 0, 1) := by decide +kernel
theorem d8_1 : decode prog_62_method_10_code 1 = .ok (.getfield 7, 3) := by decide +kernel
theorem d8_4 : decode prog_62_method_10_code 4 = .ok (.ireturn, 1) := by decide +kernel
set_option maxRecDepth 65536 in
set_option maxHeartbeats 40000000 in
theorem rm_roots (l : Launch) (Z : State) (a0 : Array Value) (hw : ∀ d ∈ tables_1, d.before a0 Z = true) (ws : List Jvm.Cond) (a : Addr) (z : Int32) (h0 : Heap) (n0 : Nat) (O : Old Z n0 h0) (F_a : Fld Z h0 a "com/example/forest_in_rows/forestinrows/SiblingGroups$Selection" "fromRoots" "Z" (.int z)) :
    MetFree l (⟨"com/example/forest_in_rows/forestinrows/SiblingGroups$Selection", "fromRoots", "()Z"⟩ : MethodName) (head1 (Jvm.Cond.code (⟨"com/example/forest_in_rows/forestinrows/SiblingGroups$Selection", "fromRoots", "()Z"⟩ : MethodName) prog_62_method_10_code 1 (some .boolean) :: ws) ({ frames := 0, cells := 0, slots := 0, locals := 0 } : Room)) (fun aa U => aa = #[(.ref a)] ∧ Z.Warmed39 U.vm ∧ U.heap = h0) (fun _ _ _ _ _ => True) (fun _ U o U' => ∃ v L, o = .returned v ∧ Q_rm_roots Z a z h0 n0 v U'.heap L ∧ FrameEnd U o U' L ({ frames := 0, cells := 0, slots := 0, locals := 0 } : Room).cells ({ frames := 0, cells := 0, slots := 0, locals := 0 } : Room).slots) := by
  refine MetFree.of_bodySF (plainFor_of_name pn_com_example_forest_in_rows_forestinrows_SiblingGroups_Selection) hisR ?_
  intro p e s m args below meth c s₁ Bd hml0 hP hK
  obtain ⟨rfl, hZ, hh⟩ := hP
  have hx := Bd.exec
  have hby := Bd.bytes
  have hml : c.maxLocals = 1 := hml0
  have hown : s.vm.findClass "com/example/forest_in_rows/forestinrows/SiblingGroups$Selection" = some m.cls := findClass_of_methodNamed Bd.named
  have hnm := (name_of_methodNamed Bd.named Bd.method).1
  have X0 : Stand p l e ({ frames := 0, cells := 0, slots := 0, locals := 0 } : Room) s m #[(.ref a)] below meth c s₁ [] 0 0 := Stand.of_body Bd
  have e0 : s₁.heap = h0 := by rw [← hh, Bd.state]; rfl
  have N0 := Fr.nil n0
  show Goes p e below s FrameEnd ({ frames := 0, cells := 0, slots := 0, locals := 0 } : Room).cells ({ frames := 0, cells := 0, slots := 0, locals := 0 } : Room).slots (Q_rm_roots Z a z h0 n0) s₁ (entryFrame m #[(.ref a)] 1)
  refine Goes.cast (ef_rm_roots m a) ?_
  refine Goes.to (T' := s₁) (mkF m 1 #[.val (.ref a)] [(.ref a)]) (fun t k => XS.aloadN X0.here hx rfl (hb hby d8_0) rfl rfl k) ?_
  obtain ⟨T1, X1, e1, st1⟩ := getF X0 hx hZ hown (host := "") (Or.inl (hw _ (List.mem_of_getElem? (i := 24) rfl))) Via.refl e0 F_a (g := (mkF m 1 #[.val (.ref a)] [(.ref a)])) rfl rfl (hb hby d8_1)
  refine Goes.to (T' := T1) (mkF m 4 #[.val (.ref a)] [(.int z)]) st1 ?_
  refine Goes.retN X1 hx Bd.notSynchronized (t := .boolean) Bd.returns (by simp) (hb hby d8_4) (by decide) (by decide) ?_
  rw [e1]
  exact ⟨rfl, N0, rfl⟩
theorem own_lmin {l p : Int32} (h : l = (if p = (-2147483648 : Int32) then (0 : Int32) else p)) : -2147483648 < l.toInt := by
  subst h
  split
  · decide
  · rename_i h
    rw [← Int32.toInt_inj, show (-2147483648 : Int32).toInt = -2147483648 from by decide] at h
    have := rng32 p
    omega
theorem own_dec {l : Int32} (hl : -2147483648 < l.toInt) : (l - (1 : Int32)).toInt = l.toInt - 1 := by
  have h1 := c_isub l 1
  have h2 := rng32 (l - 1)
  have h3 := rng32 l
  have h4 : (1 : Int32).toInt = 1 := by decide
  omega
theorem own_up (d l : Int32) : lcmpW (d.toInt64 + (1 : Int64)) l.toInt64 = (0 : Int32) ↔ d.toInt + 1 = l.toInt := by
  rw [lw_eq, ← Int64.toInt_inj, c_i2l]
  have h1 := c_ladd d.toInt64 1
  have h2 := rng64 (d.toInt64 + 1)
  have h3 := rng32 d
  have h4 : (1 : Int64).toInt = 1 := by decide
  rw [c_i2l] at h1
  omega
theorem own_al1 {d l : Int32} (hl : -2147483648 < l.toInt) (h : d < l - (1 : Int32)) : ¬ lcmpW (d.toInt64 + (1 : Int64)) l.toInt64 = (0 : Int32) := by
  rw [own_up]; rw [Int32.lt_iff_toInt_lt, own_dec hl] at h; omega
theorem own_al2 {d l : Int32} (hl : -2147483648 < l.toInt) (h : l - (1 : Int32) < d) : ¬ lcmpW (d.toInt64 + (1 : Int64)) l.toInt64 = (0 : Int32) := by
  rw [own_up]; rw [Int32.lt_iff_toInt_lt, own_dec hl] at h; omega
theorem own_al3 {d l : Int32} (hl : -2147483648 < l.toInt) (h1 : ¬ d < l - (1 : Int32)) (h2 : ¬ l - (1 : Int32) < d) : lcmpW (d.toInt64 + (1 : Int64)) l.toInt64 = (0 : Int32) := by
  rw [own_up]; rw [Int32.lt_iff_toInt_lt, own_dec hl] at h1 h2; omega
theorem pn_com_example_forest_in_rows_forestinrows_SiblingGroupsLevelPinLaw : plainName "com/example/forest_in_rows/forestinrows/SiblingGroupsLevelPinLaw" = true := by first | (simp [plainName, overriddenIn]; done) | decide +kernel
theorem ef_rm_law (m : MethodId) (x0 : Int32) (x1 : Int32) (x2 : Int32) : entryFrame m #[(.int x0), (.int x1), (.int x2)] maxLocals = mkF m 0 #[.val (.int x0), .val (.int x1), .val (.int x2), .unset, .unset, .unset, .unset, .unset, .unset] [] := by first | (simp [entryFrame, mkF, argsToLocals, Value.category, maxLocals]; done) | rfl
def Q_rm_law (Z : State) (pp xx ss : Int32) (es : Addr) (h0 : Heap) (n0 : Nat) (v : Option Value) (h : Heap) (L : List Loc) : Prop := v = some (.int 1) ∧ Fr n0 L
theorem pd_3 : parseMethodDescriptor "(I)Lcom/example/forest_in_rows/forestinrows/SiblingGroups$Selection;" = some ⟨[.int], some (.object "com/example/forest_in_rows/forestinrows/SiblingGroups$Selection")⟩ := by decide +kernel
theorem pd_4 : parseMethodDescriptor "()I" = some ⟨[], some .int⟩ := by decide +kernel
theorem pd_5 : parseMethodDescriptor "()Z" = some ⟨[], some .boolean⟩ := by decide +kernel
set_option maxRecDepth 65536 in
set_option maxHeartbeats 40000000 in
theorem rm_law (l : Launch) (Z : State) (a0 : Array Value) (hw : ∀ d ∈ tables_1, d.before a0 Z = true) (ws : List Jvm.Cond) (pp xx ss : Int32) (es : Addr) (h0 : Heap) (n0 : Nat) (O : Old Z n0 h0) (S_ES : Sta Z Z.heap "java/util/ImmutableCollections" "EMPTY_SET" "Ljava/util/ImmutableCollections$SetN;" (.ref es)) :
    MetFree l x (head1 (Jvm.Cond.code x code maxLocals ret :: ws) room_1) (fun aa U => aa = #[(.int pp), (.int xx), (.int ss)] ∧ Z.Warmed39 U.vm ∧ U.heap = h0) (fun _ _ _ _ _ => True) (fun _ U o U' => ∃ v L, o = .returned v ∧ Q_rm_law Z pp xx ss es h0 n0 v U'.heap L ∧ FrameEnd U o U' L room_1.cells room_1.slots) := by
  refine MetFree.of_bodySF (plainFor_of_name pn_com_example_forest_in_rows_forestinrows_SiblingGroupsLevelPinLaw) hisR ?_
  intro p e s m args below meth c s₁ Bd hml0 hP hK
  obtain ⟨rfl, hZ, hh⟩ := hP
  have hx := Bd.exec
  have hby := Bd.bytes
  have hml : c.maxLocals = 9 := hml0
  have hown : s.vm.findClass "com/example/forest_in_rows/forestinrows/SiblingGroupsLevelPinLaw" = some m.cls := findClass_of_methodNamed Bd.named
  have hnm := (name_of_methodNamed Bd.named Bd.method).1
  have X0 : Stand p l e room_1 s m #[(.int pp), (.int xx), (.int ss)] below meth c s₁ [] 0 0 := Stand.of_body Bd
  have e0 : s₁.heap = h0 := by rw [← hh, Bd.state]; rfl
  have N0 := Fr.nil n0
  show Goes p e below s FrameEnd room_1.cells room_1.slots (Q_rm_law Z pp xx ss es h0 n0) s₁ (entryFrame m #[(.int pp), (.int xx), (.int ss)] maxLocals)
  refine Goes.cast (ef_rm_law m pp xx ss) ?_
  have D0_1 : ∀ t, Steps p.tables e below (s₁.setTop (mkF m 11 #[.val (.int pp), .val (.int xx), .val (.int ss), .unset, .unset, .unset, .unset, .unset, .unset] [(.int (if pp = (-2147483648 : Int32) then (0 : Int32) else pp))])) t → Steps p.tables e below (s₁.setTop (mkF m 0 #[.val (.int pp), .val (.int xx), .val (.int ss), .unset, .unset, .unset, .unset, .unset, .unset] [])) t := by
    intro t k
    refine XS.iloadN X0.here hx rfl (hb hby at_0) rfl ?_
    show Steps p.tables e below (s₁.setTop (mkF m 1 #[.val (.int pp), .val (.int xx), .val (.int ss), .unset, .unset, .unset, .unset, .unset, .unset] [(.int pp)])) _
    refine X0.ldcInt hx hown (mvT hZ (hw _ (List.mem_of_getElem? (i := 0) rfl))) (g := (mkF m 1 #[.val (.int pp), .val (.int xx), .val (.int ss), .unset, .unset, .unset, .unset, .unset, .unset] [(.int pp)])) rfl (hb hby at_1) _ ?_
    show Steps p.tables e below (s₁.setTop (mkF m 3 #[.val (.int pp), .val (.int xx), .val (.int ss), .unset, .unset, .unset, .unset, .unset, .unset] [(.int (-2147483648 : Int32)), (.int pp)])) _
    by_cases hq : pp = (-2147483648 : Int32)
    · simp only [if_pos hq] at k
      refine XS.icmpNo X0.here hx rfl (hb hby at_3) rfl (teq hq).2 ?_
      show Steps p.tables e below (s₁.setTop (mkF m 6 #[.val (.int pp), .val (.int xx), .val (.int ss), .unset, .unset, .unset, .unset, .unset, .unset] [])) _
      refine XS.iconst X0.here hx rfl (hb hby at_6) ?_
      show Steps p.tables e below (s₁.setTop (mkF m 7 #[.val (.int pp), .val (.int xx), .val (.int ss), .unset, .unset, .unset, .unset, .unset, .unset] [(.int (0 : Int32))])) _
      refine XS.goto X0.here hx rfl (pc0 := 7) (pc' := 11) rfl (hb hby at_7) (by decide) (by decide) ?_
      show Steps p.tables e below (s₁.setTop (mkF m 11 #[.val (.int pp), .val (.int xx), .val (.int ss), .unset, .unset, .unset, .unset, .unset, .unset] [(.int (0 : Int32))])) _
      exact k
    · simp only [if_neg hq] at k
      refine XS.icmpYes X0.here hx rfl (pc0 := 3) (pc' := 10) rfl (hb hby at_3) rfl (feq hq).2 (by decide) (by decide) ?_
      show Steps p.tables e below (s₁.setTop (mkF m 10 #[.val (.int pp), .val (.int xx), .val (.int ss), .unset, .unset, .unset, .unset, .unset, .unset] [])) _
      refine XS.iloadN X0.here hx rfl (hb hby at_10) rfl ?_
      show Steps p.tables e below (s₁.setTop (mkF m 11 #[.val (.int pp), .val (.int xx), .val (.int ss), .unset, .unset, .unset, .unset, .unset, .unset] [(.int pp)])) _
      exact k
  refine Goes.to (T' := s₁) (mkF m 11 #[.val (.int pp), .val (.int xx), .val (.int ss), .unset, .unset, .unset, .unset, .unset, .unset] [(.int (if pp = (-2147483648 : Int32) then (0 : Int32) else pp))]) D0_1 ?_
  obtain ⟨l', l'_eq⟩ : ∃ z, z = (if pp = (-2147483648 : Int32) then (0 : Int32) else pp) := ⟨_, rfl⟩
  rw [← l'_eq]
  have hl := own_lmin l'_eq
  refine Goes.to (T' := s₁) (mkF m 12 #[.val (.int pp), .val (.int xx), .val (.int ss), .val (.int l'), .unset, .unset, .unset, .unset, .unset] []) (fun t k => XS.istoreN X0.here hx rfl (hb hby at_11) rfl (l' := #[.val (.int pp), .val (.int xx), .val (.int ss), .val (.int l'), .unset, .unset, .unset, .unset, .unset]) rfl k) ?_
  refine Goes.to (T' := s₁) (mkF m 13 #[.val (.int pp), .val (.int xx), .val (.int ss), .val (.int l'), .unset, .unset, .unset, .unset, .unset] [(.int l')]) (fun t k => XS.iloadN X0.here hx rfl (hb hby at_12) rfl k) ?_
  obtain ⟨_, _, ⟨T3, L3, k3, n3⟩, -, X3, ⟨Lc3, hQ3, l3, y3, z3⟩, st3⟩ := Jvm.LawKit.callS X0 hx (y := (⟨"com/example/forest_in_rows/forestinrows/SiblingGroups$Selection", "level", "(I)Lcom/example/forest_in_rows/forestinrows/SiblingGroups$Selection;"⟩ : MethodName)) hown (mvT hZ (hw _ (List.mem_of_getElem? (i := 1) rfl))) (mvT hZ (hw _ (List.mem_of_getElem? (i := 2) rfl))) (mvT hZ (hw _ (List.mem_of_getElem? (i := 3) rfl))) (mvT hZ (hw _ (List.mem_of_getElem? (i := 4) rfl))) (by decide) (backOf (W := 0) (rm_level l Z a0 hw [] l' es h0 n0 O S_ES) hZ (hw _ (List.mem_of_getElem? (i := 4) rfl)) (hw _ (List.mem_of_getElem? (i := 3) rfl)) (by decide) (by decide)) (g := (mkF m 13 #[.val (.int pp), .val (.int xx), .val (.int ss), .val (.int l'), .unset, .unset, .unset, .unset, .unset] [(.int l')])) rfl (by rw [hml]; rfl) (argsL := [(.int l')]) (rest := []) (lenOf pd_3 rfl) rfl (by show 2 * 0 + _ ≤ _; exact Nat.le_of_eq rfl) (hb hby at_13) (fun _ _ => ⟨rfl, e0, (by decide : 0 + 1 ≤ _), (by decide : 0 + 4 ≤ _)⟩)
  dsimp only [Pt.U, Pt.locs, Pt.cells, Pt.slots] at X3 l3 y3 z3 st3 hQ3
  subst l3 y3 z3
  obtain ⟨sel, rfl, N3, K3, g_sel, E_sel, F_fromRoots_sel, F_nearest_sel, F_farthest_sel⟩ := hQ3
  have N3' := Fr.app N0 N3
  replace O := O.keep K3 all0
  refine Goes.to (T' := T3) (mkF m 16 #[.val (.int pp), .val (.int xx), .val (.int ss), .val (.int l'), .unset, .unset, .unset, .unset, .unset] [(.ref sel)]) (fun t k => st3 t k) ?_
  refine Goes.to (T' := T3) (mkF m 18 #[.val (.int pp), .val (.int xx), .val (.int ss), .val (.int l'), .val (.ref sel), .unset, .unset, .unset, .unset] []) (fun t k => XS.astore X3.here hx rfl (hb hby at_16) rfl rfl (l' := #[.val (.int pp), .val (.int xx), .val (.int ss), .val (.int l'), .val (.ref sel), .unset, .unset, .unset, .unset]) rfl k) ?_
  refine Goes.to (T' := T3) (mkF m 19 #[.val (.int pp), .val (.int xx), .val (.int ss), .val (.int l'), .val (.ref sel), .unset, .unset, .unset, .unset] [(.int xx)]) (fun t k => XS.iloadN X3.here hx rfl (hb hby at_18) rfl k) ?_
  refine Goes.to (T' := T3) (mkF m 20 #[.val (.int pp), .val (.int xx), .val (.int ss), .val (.int l'), .val (.ref sel), .unset, .unset, .unset, .unset] [(.int (3 : Int32)), (.int xx)]) (fun t k => XS.iconst X3.here hx rfl (hb hby at_19) k) ?_
  refine Goes.to (T' := T3) (mkF m 21 #[.val (.int pp), .val (.int xx), .val (.int ss), .val (.int l'), .val (.ref sel), .unset, .unset, .unset, .unset] [(.int (xx &&& (3 : Int32)))]) (fun t k => XS.iand X3.here hx rfl (hb hby at_20) rfl k) ?_
  refine Goes.to (T' := T3) (mkF m 22 #[.val (.int pp), .val (.int xx), .val (.int ss), .val (.int l'), .val (.ref sel), .unset, .unset, .unset, .unset] [(.int (1 : Int32)), (.int (xx &&& (3 : Int32)))]) (fun t k => XS.iconst X3.here hx rfl (hb hby at_21) k) ?_
  refine Goes.to (T' := T3) (mkF m 23 #[.val (.int pp), .val (.int xx), .val (.int ss), .val (.int l'), .val (.ref sel), .unset, .unset, .unset, .unset] [(.int ((xx &&& (3 : Int32)) - (1 : Int32)))]) (fun t k => XS.isub X3.here hx rfl (hb hby at_22) rfl k) ?_
  refine Goes.to (T' := T3) (mkF m 25 #[.val (.int pp), .val (.int xx), .val (.int ss), .val (.int l'), .val (.ref sel), .val (.int ((xx &&& (3 : Int32)) - (1 : Int32))), .unset, .unset, .unset] []) (fun t k => XS.istore X3.here hx rfl (hb hby at_23) rfl (l' := #[.val (.int pp), .val (.int xx), .val (.int ss), .val (.int l'), .val (.ref sel), .val (.int ((xx &&& (3 : Int32)) - (1 : Int32))), .unset, .unset, .unset]) rfl k) ?_
  have D25_4 : ∀ t, Steps p.tables e below (T3.setTop (mkF m 47 #[.val (.int pp), .val (.int xx), .val (.int ss), .val (.int l'), .val (.ref sel), .val (.int ((xx &&& (3 : Int32)) - (1 : Int32))), .unset, .unset, .unset] [(.int (if (ss &&& (1 : Int32)) = (0 : Int32) then (((l' - (1 : Int32)) + ((xx &&& (3 : Int32)) - (1 : Int32))) &&& (2147483647 : Int32)) else (xx &&& (2147483647 : Int32))))])) t → Steps p.tables e below (T3.setTop (mkF m 25 #[.val (.int pp), .val (.int xx), .val (.int ss), .val (.int l'), .val (.ref sel), .val (.int ((xx &&& (3 : Int32)) - (1 : Int32))), .unset, .unset, .unset] [])) t := by
    intro t k
    refine XS.iloadN X3.here hx rfl (hb hby at_25) rfl ?_
    show Steps p.tables e below (T3.setTop (mkF m 26 #[.val (.int pp), .val (.int xx), .val (.int ss), .val (.int l'), .val (.ref sel), .val (.int ((xx &&& (3 : Int32)) - (1 : Int32))), .unset, .unset, .unset] [(.int ss)])) _
    refine XS.iconst X3.here hx rfl (hb hby at_26) ?_
    show Steps p.tables e below (T3.setTop (mkF m 27 #[.val (.int pp), .val (.int xx), .val (.int ss), .val (.int l'), .val (.ref sel), .val (.int ((xx &&& (3 : Int32)) - (1 : Int32))), .unset, .unset, .unset] [(.int (1 : Int32)), (.int ss)])) _
    refine XS.iand X3.here hx rfl (hb hby at_27) rfl ?_
    show Steps p.tables e below (T3.setTop (mkF m 28 #[.val (.int pp), .val (.int xx), .val (.int ss), .val (.int l'), .val (.ref sel), .val (.int ((xx &&& (3 : Int32)) - (1 : Int32))), .unset, .unset, .unset] [(.int (ss &&& (1 : Int32)))])) _
    by_cases hq : (ss &&& (1 : Int32)) = (0 : Int32)
    · simp only [if_pos hq] at k
      refine XS.ifYes X3.here hx rfl (pc0 := 28) (pc' := 38) rfl (hb hby at_28) rfl ((if0 _ _).trans (teq hq).1) (by decide) (by decide) ?_
      show Steps p.tables e below (T3.setTop (mkF m 38 #[.val (.int pp), .val (.int xx), .val (.int ss), .val (.int l'), .val (.ref sel), .val (.int ((xx &&& (3 : Int32)) - (1 : Int32))), .unset, .unset, .unset] [])) _
      refine XS.iloadN X3.here hx rfl (hb hby at_38) rfl ?_
      show Steps p.tables e below (T3.setTop (mkF m 39 #[.val (.int pp), .val (.int xx), .val (.int ss), .val (.int l'), .val (.ref sel), .val (.int ((xx &&& (3 : Int32)) - (1 : Int32))), .unset, .unset, .unset] [(.int l')])) _
      refine XS.iconst X3.here hx rfl (hb hby at_39) ?_
      show Steps p.tables e below (T3.setTop (mkF m 40 #[.val (.int pp), .val (.int xx), .val (.int ss), .val (.int l'), .val (.ref sel), .val (.int ((xx &&& (3 : Int32)) - (1 : Int32))), .unset, .unset, .unset] [(.int (1 : Int32)), (.int l')])) _
      refine XS.isub X3.here hx rfl (hb hby at_40) rfl ?_
      show Steps p.tables e below (T3.setTop (mkF m 41 #[.val (.int pp), .val (.int xx), .val (.int ss), .val (.int l'), .val (.ref sel), .val (.int ((xx &&& (3 : Int32)) - (1 : Int32))), .unset, .unset, .unset] [(.int (l' - (1 : Int32)))])) _
      refine XS.iload X3.here hx rfl (hb hby at_41) rfl ?_
      show Steps p.tables e below (T3.setTop (mkF m 43 #[.val (.int pp), .val (.int xx), .val (.int ss), .val (.int l'), .val (.ref sel), .val (.int ((xx &&& (3 : Int32)) - (1 : Int32))), .unset, .unset, .unset] [(.int ((xx &&& (3 : Int32)) - (1 : Int32))), (.int (l' - (1 : Int32)))])) _
      refine XS.iadd X3.here hx rfl (hb hby at_43) rfl ?_
      show Steps p.tables e below (T3.setTop (mkF m 44 #[.val (.int pp), .val (.int xx), .val (.int ss), .val (.int l'), .val (.ref sel), .val (.int ((xx &&& (3 : Int32)) - (1 : Int32))), .unset, .unset, .unset] [(.int ((l' - (1 : Int32)) + ((xx &&& (3 : Int32)) - (1 : Int32))))])) _
      refine X3.ldcInt hx hown (mvT hZ (hw _ (List.mem_of_getElem? (i := 32) rfl))) (g := (mkF m 44 #[.val (.int pp), .val (.int xx), .val (.int ss), .val (.int l'), .val (.ref sel), .val (.int ((xx &&& (3 : Int32)) - (1 : Int32))), .unset, .unset, .unset] [(.int ((l' - (1 : Int32)) + ((xx &&& (3 : Int32)) - (1 : Int32))))])) rfl (hb hby at_44) _ ?_
      show Steps p.tables e below (T3.setTop (mkF m 46 #[.val (.int pp), .val (.int xx), .val (.int ss), .val (.int l'), .val (.ref sel), .val (.int ((xx &&& (3 : Int32)) - (1 : Int32))), .unset, .unset, .unset] [(.int (2147483647 : Int32)), (.int ((l' - (1 : Int32)) + ((xx &&& (3 : Int32)) - (1 : Int32))))])) _
      refine XS.iand X3.here hx rfl (hb hby at_46) rfl ?_
      show Steps p.tables e below (T3.setTop (mkF m 47 #[.val (.int pp), .val (.int xx), .val (.int ss), .val (.int l'), .val (.ref sel), .val (.int ((xx &&& (3 : Int32)) - (1 : Int32))), .unset, .unset, .unset] [(.int (((l' - (1 : Int32)) + ((xx &&& (3 : Int32)) - (1 : Int32))) &&& (2147483647 : Int32)))])) _
      exact k
    · simp only [if_neg hq] at k
      refine XS.ifNo X3.here hx rfl (hb hby at_28) rfl ((if0 _ _).trans (feq hq).1) ?_
      show Steps p.tables e below (T3.setTop (mkF m 31 #[.val (.int pp), .val (.int xx), .val (.int ss), .val (.int l'), .val (.ref sel), .val (.int ((xx &&& (3 : Int32)) - (1 : Int32))), .unset, .unset, .unset] [])) _
      refine XS.iloadN X3.here hx rfl (hb hby at_31) rfl ?_
      show Steps p.tables e below (T3.setTop (mkF m 32 #[.val (.int pp), .val (.int xx), .val (.int ss), .val (.int l'), .val (.ref sel), .val (.int ((xx &&& (3 : Int32)) - (1 : Int32))), .unset, .unset, .unset] [(.int xx)])) _
      refine X3.ldcInt hx hown (mvT hZ (hw _ (List.mem_of_getElem? (i := 32) rfl))) (g := (mkF m 32 #[.val (.int pp), .val (.int xx), .val (.int ss), .val (.int l'), .val (.ref sel), .val (.int ((xx &&& (3 : Int32)) - (1 : Int32))), .unset, .unset, .unset] [(.int xx)])) rfl (hb hby at_32) _ ?_
      show Steps p.tables e below (T3.setTop (mkF m 34 #[.val (.int pp), .val (.int xx), .val (.int ss), .val (.int l'), .val (.ref sel), .val (.int ((xx &&& (3 : Int32)) - (1 : Int32))), .unset, .unset, .unset] [(.int (2147483647 : Int32)), (.int xx)])) _
      refine XS.iand X3.here hx rfl (hb hby at_34) rfl ?_
      show Steps p.tables e below (T3.setTop (mkF m 35 #[.val (.int pp), .val (.int xx), .val (.int ss), .val (.int l'), .val (.ref sel), .val (.int ((xx &&& (3 : Int32)) - (1 : Int32))), .unset, .unset, .unset] [(.int (xx &&& (2147483647 : Int32)))])) _
      refine XS.goto X3.here hx rfl (pc0 := 35) (pc' := 47) rfl (hb hby at_35) (by decide) (by decide) ?_
      show Steps p.tables e below (T3.setTop (mkF m 47 #[.val (.int pp), .val (.int xx), .val (.int ss), .val (.int l'), .val (.ref sel), .val (.int ((xx &&& (3 : Int32)) - (1 : Int32))), .unset, .unset, .unset] [(.int (xx &&& (2147483647 : Int32)))])) _
      exact k
  refine Goes.to (T' := T3) (mkF m 47 #[.val (.int pp), .val (.int xx), .val (.int ss), .val (.int l'), .val (.ref sel), .val (.int ((xx &&& (3 : Int32)) - (1 : Int32))), .unset, .unset, .unset] [(.int (if (ss &&& (1 : Int32)) = (0 : Int32) then (((l' - (1 : Int32)) + ((xx &&& (3 : Int32)) - (1 : Int32))) &&& (2147483647 : Int32)) else (xx &&& (2147483647 : Int32))))]) D25_4 ?_
  obtain ⟨dd, dd_eq⟩ : ∃ z, z = (if (ss &&& (1 : Int32)) = (0 : Int32) then (((l' - (1 : Int32)) + ((xx &&& (3 : Int32)) - (1 : Int32))) &&& (2147483647 : Int32)) else (xx &&& (2147483647 : Int32))) := ⟨_, rfl⟩
  rw [← dd_eq]
  refine Goes.to (T' := T3) (mkF m 49 #[.val (.int pp), .val (.int xx), .val (.int ss), .val (.int l'), .val (.ref sel), .val (.int ((xx &&& (3 : Int32)) - (1 : Int32))), .val (.int dd), .unset, .unset] []) (fun t k => XS.istore X3.here hx rfl (hb hby at_47) rfl (l' := #[.val (.int pp), .val (.int xx), .val (.int ss), .val (.int l'), .val (.ref sel), .val (.int ((xx &&& (3 : Int32)) - (1 : Int32))), .val (.int dd), .unset, .unset]) rfl k) ?_
  refine Goes.to (T' := T3) (mkF m 51 #[.val (.int pp), .val (.int xx), .val (.int ss), .val (.int l'), .val (.ref sel), .val (.int ((xx &&& (3 : Int32)) - (1 : Int32))), .val (.int dd), .unset, .unset] [(.ref sel)]) (fun t k => XS.aload X3.here hx rfl (hb hby at_49) rfl rfl k) ?_
  obtain ⟨cq6, kq6, q6a, q6b, q6c⟩ := isOf hZ rfl E_sel
  obtain ⟨_, _, ⟨T6, L6, k6, n6⟩, -, X6, ⟨Lc6, hQ6, l6, y6, z6⟩, st6⟩ := X3.virtualBack hx (y := (⟨"com/example/forest_in_rows/forestinrows/SiblingGroups$Selection", "nearest", "()I"⟩ : MethodName)) (z := (⟨"com/example/forest_in_rows/forestinrows/SiblingGroups$Selection", "nearest", "()I"⟩ : MethodName)) hown (mvT hZ (hw _ (List.mem_of_getElem? (i := 33) rfl))) (mvT hZ (hw _ (List.mem_of_getElem? (i := 34) rfl))) (notFace_of_selects (args := #[]) (mvT hZ (hw _ (List.mem_of_getElem? (i := 36) rfl)))) (mvT hZ (hw _ (List.mem_of_getElem? (i := 36) rfl))) (mvT hZ (hw _ (List.mem_of_getElem? (i := 35) rfl))) (by decide) (backOf (W := 0) (rm_near l Z a0 hw [] sel _ T3.heap n0 O F_nearest_sel) hZ (hw _ (List.mem_of_getElem? (i := 37) rfl)) (hw _ (List.mem_of_getElem? (i := 3) rfl)) (by decide) (by decide)) q6a q6c (g := (mkF m 51 #[.val (.int pp), .val (.int xx), .val (.int ss), .val (.int l'), .val (.ref sel), .val (.int ((xx &&& (3 : Int32)) - (1 : Int32))), .val (.int dd), .unset, .unset] [(.ref sel)])) rfl (by rw [hml]; rfl) (Steps.refl _) (argsL := []) (rest := []) (lenOf pd_4 rfl) rfl (by show 2 * 0 + _ ≤ _; exact Nat.le_of_eq rfl) (hb hby at_51) (fun _ _ => ⟨rfl, rfl, (by decide : 1 + 0 ≤ _), (by decide : 4 + 0 ≤ _)⟩)
  dsimp only [Pt.U, Pt.locs, Pt.cells, Pt.slots] at X6 l6 y6 z6 st6 hQ6
  subst l6 y6 z6
  obtain ⟨rfl, N6, hs6⟩ := hQ6
  have N6' := Fr.app N3' N6
  refine Goes.to (T' := T6) (mkF m 54 #[.val (.int pp), .val (.int xx), .val (.int ss), .val (.int l'), .val (.ref sel), .val (.int ((xx &&& (3 : Int32)) - (1 : Int32))), .val (.int dd), .unset, .unset] [(.int (l' - (1 : Int32)))]) (fun t k => st6.trans k) ?_
  refine Goes.to (T' := T6) (mkF m 56 #[.val (.int pp), .val (.int xx), .val (.int ss), .val (.int l'), .val (.ref sel), .val (.int ((xx &&& (3 : Int32)) - (1 : Int32))), .val (.int dd), .unset, .unset] [(.int dd), (.int (l' - (1 : Int32)))]) (fun t k => XS.iload X6.here hx rfl (hb hby at_54) rfl k) ?_
  by_cases hc56_7 : dd < (l' - (1 : Int32))
  · refine Goes.to (T' := T6) (mkF m 73 #[.val (.int pp), .val (.int xx), .val (.int ss), .val (.int l'), .val (.ref sel), .val (.int ((xx &&& (3 : Int32)) - (1 : Int32))), .val (.int dd), .unset, .unset] []) (fun t k => XS.icmpYes X6.here hx rfl (pc0 := 56) (pc' := 73) rfl (hb hby at_56) rfl (tlt hc56_7).2.2.1 (by decide) (by decide) k) ?_
    refine Goes.to (T' := T6) (mkF m 74 #[.val (.int pp), .val (.int xx), .val (.int ss), .val (.int l'), .val (.ref sel), .val (.int ((xx &&& (3 : Int32)) - (1 : Int32))), .val (.int dd), .unset, .unset] [(.int (0 : Int32))]) (fun t k => XS.iconst X6.here hx rfl (hb hby at_73) k) ?_
    refine Goes.to (T' := T6) (mkF m 76 #[.val (.int pp), .val (.int xx), .val (.int ss), .val (.int l'), .val (.ref sel), .val (.int ((xx &&& (3 : Int32)) - (1 : Int32))), .val (.int dd), .val (.int (0 : Int32)), .unset] []) (fun t k => XS.istore X6.here hx rfl (hb hby at_74) rfl (l' := #[.val (.int pp), .val (.int xx), .val (.int ss), .val (.int l'), .val (.ref sel), .val (.int ((xx &&& (3 : Int32)) - (1 : Int32))), .val (.int dd), .val (.int (0 : Int32)), .unset]) rfl k) ?_
    have D76_8 : ∀ t, Steps p.tables e below (T6.setTop (mkF m 92 #[.val (.int pp), .val (.int xx), .val (.int ss), .val (.int l'), .val (.ref sel), .val (.int ((xx &&& (3 : Int32)) - (1 : Int32))), .val (.int dd), .val (.int (0 : Int32)), .unset] [(.int (if (lcmpW ((dd.toInt64) + (1 : Int64)) (l'.toInt64)) = (0 : Int32) then (1 : Int32) else (0 : Int32)))])) t → Steps p.tables e below (T6.setTop (mkF m 76 #[.val (.int pp), .val (.int xx), .val (.int ss), .val (.int l'), .val (.ref sel), .val (.int ((xx &&& (3 : Int32)) - (1 : Int32))), .val (.int dd), .val (.int (0 : Int32)), .unset] [])) t := by
      intro t k
      refine XS.iload X6.here hx rfl (hb hby at_76) rfl ?_
      show Steps p.tables e below (T6.setTop (mkF m 78 #[.val (.int pp), .val (.int xx), .val (.int ss), .val (.int l'), .val (.ref sel), .val (.int ((xx &&& (3 : Int32)) - (1 : Int32))), .val (.int dd), .val (.int (0 : Int32)), .unset] [(.int dd)])) _
      refine XS.i2l X6.here hx rfl (hb hby at_78) rfl ?_
      show Steps p.tables e below (T6.setTop (mkF m 79 #[.val (.int pp), .val (.int xx), .val (.int ss), .val (.int l'), .val (.ref sel), .val (.int ((xx &&& (3 : Int32)) - (1 : Int32))), .val (.int dd), .val (.int (0 : Int32)), .unset] [(.long (dd.toInt64))])) _
      refine XS.lconst X6.here hx rfl (hb hby at_79) ?_
      show Steps p.tables e below (T6.setTop (mkF m 80 #[.val (.int pp), .val (.int xx), .val (.int ss), .val (.int l'), .val (.ref sel), .val (.int ((xx &&& (3 : Int32)) - (1 : Int32))), .val (.int dd), .val (.int (0 : Int32)), .unset] [(.long (1 : Int64)), (.long (dd.toInt64))])) _
      refine XS.ladd X6.here hx rfl (hb hby at_80) rfl ?_
      show Steps p.tables e below (T6.setTop (mkF m 81 #[.val (.int pp), .val (.int xx), .val (.int ss), .val (.int l'), .val (.ref sel), .val (.int ((xx &&& (3 : Int32)) - (1 : Int32))), .val (.int dd), .val (.int (0 : Int32)), .unset] [(.long ((dd.toInt64) + (1 : Int64)))])) _
      refine XS.iloadN X6.here hx rfl (hb hby at_81) rfl ?_
      show Steps p.tables e below (T6.setTop (mkF m 82 #[.val (.int pp), .val (.int xx), .val (.int ss), .val (.int l'), .val (.ref sel), .val (.int ((xx &&& (3 : Int32)) - (1 : Int32))), .val (.int dd), .val (.int (0 : Int32)), .unset] [(.int l'), (.long ((dd.toInt64) + (1 : Int64)))])) _
      refine XS.i2l X6.here hx rfl (hb hby at_82) rfl ?_
      show Steps p.tables e below (T6.setTop (mkF m 83 #[.val (.int pp), .val (.int xx), .val (.int ss), .val (.int l'), .val (.ref sel), .val (.int ((xx &&& (3 : Int32)) - (1 : Int32))), .val (.int dd), .val (.int (0 : Int32)), .unset] [(.long (l'.toInt64)), (.long ((dd.toInt64) + (1 : Int64)))])) _
      refine XS.lcmp X6.here hx rfl (hb hby at_83) rfl ?_
      show Steps p.tables e below (T6.setTop (mkF m 84 #[.val (.int pp), .val (.int xx), .val (.int ss), .val (.int l'), .val (.ref sel), .val (.int ((xx &&& (3 : Int32)) - (1 : Int32))), .val (.int dd), .val (.int (0 : Int32)), .unset] [(.int (lcmpW ((dd.toInt64) + (1 : Int64)) (l'.toInt64)))])) _
      by_cases hq : (lcmpW ((dd.toInt64) + (1 : Int64)) (l'.toInt64)) = (0 : Int32)
      · simp only [if_pos hq] at k
        refine XS.ifNo X6.here hx rfl (hb hby at_84) rfl ((if0 _ _).trans (teq hq).2) ?_
        show Steps p.tables e below (T6.setTop (mkF m 87 #[.val (.int pp), .val (.int xx), .val (.int ss), .val (.int l'), .val (.ref sel), .val (.int ((xx &&& (3 : Int32)) - (1 : Int32))), .val (.int dd), .val (.int (0 : Int32)), .unset] [])) _
        refine XS.iconst X6.here hx rfl (hb hby at_87) ?_
        show Steps p.tables e below (T6.setTop (mkF m 88 #[.val (.int pp), .val (.int xx), .val (.int ss), .val (.int l'), .val (.ref sel), .val (.int ((xx &&& (3 : Int32)) - (1 : Int32))), .val (.int dd), .val (.int (0 : Int32)), .unset] [(.int (1 : Int32))])) _
        refine XS.goto X6.here hx rfl (pc0 := 88) (pc' := 92) rfl (hb hby at_88) (by decide) (by decide) ?_
        show Steps p.tables e below (T6.setTop (mkF m 92 #[.val (.int pp), .val (.int xx), .val (.int ss), .val (.int l'), .val (.ref sel), .val (.int ((xx &&& (3 : Int32)) - (1 : Int32))), .val (.int dd), .val (.int (0 : Int32)), .unset] [(.int (1 : Int32))])) _
        exact k
      · simp only [if_neg hq] at k
        refine XS.ifYes X6.here hx rfl (pc0 := 84) (pc' := 91) rfl (hb hby at_84) rfl ((if0 _ _).trans (feq hq).2) (by decide) (by decide) ?_
        show Steps p.tables e below (T6.setTop (mkF m 91 #[.val (.int pp), .val (.int xx), .val (.int ss), .val (.int l'), .val (.ref sel), .val (.int ((xx &&& (3 : Int32)) - (1 : Int32))), .val (.int dd), .val (.int (0 : Int32)), .unset] [])) _
        refine XS.iconst X6.here hx rfl (hb hby at_91) ?_
        show Steps p.tables e below (T6.setTop (mkF m 92 #[.val (.int pp), .val (.int xx), .val (.int ss), .val (.int l'), .val (.ref sel), .val (.int ((xx &&& (3 : Int32)) - (1 : Int32))), .val (.int dd), .val (.int (0 : Int32)), .unset] [(.int (0 : Int32))])) _
        exact k
    refine Goes.to (T' := T6) (mkF m 92 #[.val (.int pp), .val (.int xx), .val (.int ss), .val (.int l'), .val (.ref sel), .val (.int ((xx &&& (3 : Int32)) - (1 : Int32))), .val (.int dd), .val (.int (0 : Int32)), .unset] [(.int (if (lcmpW ((dd.toInt64) + (1 : Int64)) (l'.toInt64)) = (0 : Int32) then (1 : Int32) else (0 : Int32)))]) D76_8 ?_
    obtain ⟨al, al_eq⟩ : ∃ z, z = (if (lcmpW ((dd.toInt64) + (1 : Int64)) (l'.toInt64)) = (0 : Int32) then (1 : Int32) else (0 : Int32)) := ⟨_, rfl⟩
    rw [← al_eq]
    refine Goes.to (T' := T6) (mkF m 94 #[.val (.int pp), .val (.int xx), .val (.int ss), .val (.int l'), .val (.ref sel), .val (.int ((xx &&& (3 : Int32)) - (1 : Int32))), .val (.int dd), .val (.int (0 : Int32)), .val (.int al)] []) (fun t k => XS.istore X6.here hx rfl (hb hby at_92) rfl (l' := #[.val (.int pp), .val (.int xx), .val (.int ss), .val (.int l'), .val (.ref sel), .val (.int ((xx &&& (3 : Int32)) - (1 : Int32))), .val (.int dd), .val (.int (0 : Int32)), .val (.int al)]) rfl k) ?_
    refine Goes.to (T' := T6) (mkF m 96 #[.val (.int pp), .val (.int xx), .val (.int ss), .val (.int l'), .val (.ref sel), .val (.int ((xx &&& (3 : Int32)) - (1 : Int32))), .val (.int dd), .val (.int (0 : Int32)), .val (.int al)] [(.ref sel)]) (fun t k => XS.aload X6.here hx rfl (hb hby at_94) rfl rfl k) ?_
    obtain ⟨cq10, kq10, q10a, q10b, q10c⟩ := isOf hZ hs6 E_sel
    obtain ⟨_, _, ⟨T10, L10, k10, n10⟩, -, X10, ⟨Lc10, hQ10, l10, y10, z10⟩, st10⟩ := X6.virtualBack hx (y := (⟨"com/example/forest_in_rows/forestinrows/SiblingGroups$Selection", "fromRoots", "()Z"⟩ : MethodName)) (z := (⟨"com/example/forest_in_rows/forestinrows/SiblingGroups$Selection", "fromRoots", "()Z"⟩ : MethodName)) hown (mvT hZ (hw _ (List.mem_of_getElem? (i := 43) rfl))) (mvT hZ (hw _ (List.mem_of_getElem? (i := 44) rfl))) (notFace_of_selects (args := #[]) (mvT hZ (hw _ (List.mem_of_getElem? (i := 46) rfl)))) (mvT hZ (hw _ (List.mem_of_getElem? (i := 46) rfl))) (mvT hZ (hw _ (List.mem_of_getElem? (i := 45) rfl))) (by decide) (backOf (W := 0) (rm_roots l Z a0 hw [] sel _ T3.heap n0 O F_fromRoots_sel) hZ (hw _ (List.mem_of_getElem? (i := 47) rfl)) (hw _ (List.mem_of_getElem? (i := 3) rfl)) (by decide) (by decide)) q10a q10c (g := (mkF m 96 #[.val (.int pp), .val (.int xx), .val (.int ss), .val (.int l'), .val (.ref sel), .val (.int ((xx &&& (3 : Int32)) - (1 : Int32))), .val (.int dd), .val (.int (0 : Int32)), .val (.int al)] [(.ref sel)])) rfl (by rw [hml]; rfl) (Steps.refl _) (argsL := []) (rest := []) (lenOf pd_5 rfl) rfl (by show 2 * 0 + _ ≤ _; exact Nat.le_of_eq rfl) (hb hby at_96) (fun _ _ => ⟨rfl, hs6, (by decide : 1 + 0 ≤ _), (by decide : 4 + 0 ≤ _)⟩)
    dsimp only [Pt.U, Pt.locs, Pt.cells, Pt.slots] at X10 l10 y10 z10 st10 hQ10
    subst l10 y10 z10
    obtain ⟨rfl, N10, hs10⟩ := hQ10
    have N10' := Fr.app N6' N10
    refine Goes.to (T' := T10) (mkF m 99 #[.val (.int pp), .val (.int xx), .val (.int ss), .val (.int l'), .val (.ref sel), .val (.int ((xx &&& (3 : Int32)) - (1 : Int32))), .val (.int dd), .val (.int (0 : Int32)), .val (.int al)] [(.int (nar .boolean (nar .boolean 1)))]) (fun t k => st10.trans k) ?_
    refine Goes.to (T' := T10) (mkF m 102 #[.val (.int pp), .val (.int xx), .val (.int ss), .val (.int l'), .val (.ref sel), .val (.int ((xx &&& (3 : Int32)) - (1 : Int32))), .val (.int dd), .val (.int (0 : Int32)), .val (.int al)] []) (fun t k => XS.ifNo X10.here hx rfl (hb hby at_99) rfl ((if0 _ _).trans (feq (by decide : ¬ ((nar .boolean (nar .boolean 1)) = (0 : Int32)))).1) k) ?_
    refine Goes.to (T' := T10) (mkF m 104 #[.val (.int pp), .val (.int xx), .val (.int ss), .val (.int l'), .val (.ref sel), .val (.int ((xx &&& (3 : Int32)) - (1 : Int32))), .val (.int dd), .val (.int (0 : Int32)), .val (.int al)] [(.int (0 : Int32))]) (fun t k => XS.iload X10.here hx rfl (hb hby at_102) rfl k) ?_
    refine Goes.to (T' := T10) (mkF m 106 #[.val (.int pp), .val (.int xx), .val (.int ss), .val (.int l'), .val (.ref sel), .val (.int ((xx &&& (3 : Int32)) - (1 : Int32))), .val (.int dd), .val (.int (0 : Int32)), .val (.int al)] [(.int al), (.int (0 : Int32))]) (fun t k => XS.iload X10.here hx rfl (hb hby at_104) rfl k) ?_
    refine Goes.to (T' := T10) (mkF m 109 #[.val (.int pp), .val (.int xx), .val (.int ss), .val (.int l'), .val (.ref sel), .val (.int ((xx &&& (3 : Int32)) - (1 : Int32))), .val (.int dd), .val (.int (0 : Int32)), .val (.int al)] []) (fun t k => XS.icmpNo X10.here hx rfl (hb hby at_106) rfl (teq ((al_eq.trans (if_neg (own_al1 hl hc56_7))).symm : (0 : Int32) = al)).2 k) ?_
    refine Goes.to (T' := T10) (mkF m 110 #[.val (.int pp), .val (.int xx), .val (.int ss), .val (.int l'), .val (.ref sel), .val (.int ((xx &&& (3 : Int32)) - (1 : Int32))), .val (.int dd), .val (.int (0 : Int32)), .val (.int al)] [(.int (1 : Int32))]) (fun t k => XS.iconst X10.here hx rfl (hb hby at_109) k) ?_
    refine Goes.to (T' := T10) (mkF m 114 #[.val (.int pp), .val (.int xx), .val (.int ss), .val (.int l'), .val (.ref sel), .val (.int ((xx &&& (3 : Int32)) - (1 : Int32))), .val (.int dd), .val (.int (0 : Int32)), .val (.int al)] [(.int (1 : Int32))]) (fun t k => XS.goto X10.here hx rfl (pc0 := 110) (pc' := 114) rfl (hb hby at_110) (by decide) (by decide) k) ?_
    refine Goes.retN X10 hx Bd.notSynchronized (t := .boolean) Bd.returns (by simp) (hb hby at_114) (by decide) (by decide) ?_
    rw [hs10]
    exact ⟨rfl, N10'⟩
  · refine Goes.to (T' := T6) (mkF m 59 #[.val (.int pp), .val (.int xx), .val (.int ss), .val (.int l'), .val (.ref sel), .val (.int ((xx &&& (3 : Int32)) - (1 : Int32))), .val (.int dd), .unset, .unset] []) (fun t k => XS.icmpNo X6.here hx rfl (hb hby at_56) rfl (flt hc56_7).2.2.1 k) ?_
    refine Goes.to (T' := T6) (mkF m 61 #[.val (.int pp), .val (.int xx), .val (.int ss), .val (.int l'), .val (.ref sel), .val (.int ((xx &&& (3 : Int32)) - (1 : Int32))), .val (.int dd), .unset, .unset] [(.int dd)]) (fun t k => XS.iload X6.here hx rfl (hb hby at_59) rfl k) ?_
    refine Goes.to (T' := T6) (mkF m 63 #[.val (.int pp), .val (.int xx), .val (.int ss), .val (.int l'), .val (.ref sel), .val (.int ((xx &&& (3 : Int32)) - (1 : Int32))), .val (.int dd), .unset, .unset] [(.ref sel), (.int dd)]) (fun t k => XS.aload X6.here hx rfl (hb hby at_61) rfl rfl k) ?_
    obtain ⟨cq11, kq11, q11a, q11b, q11c⟩ := isOf hZ hs6 E_sel
    obtain ⟨_, _, ⟨T11, L11, k11, n11⟩, -, X11, ⟨Lc11, hQ11, l11, y11, z11⟩, st11⟩ := X6.virtualBack hx (y := (⟨"com/example/forest_in_rows/forestinrows/SiblingGroups$Selection", "farthest", "()I"⟩ : MethodName)) (z := (⟨"com/example/forest_in_rows/forestinrows/SiblingGroups$Selection", "farthest", "()I"⟩ : MethodName)) hown (mvT hZ (hw _ (List.mem_of_getElem? (i := 38) rfl))) (mvT hZ (hw _ (List.mem_of_getElem? (i := 39) rfl))) (notFace_of_selects (args := #[]) (mvT hZ (hw _ (List.mem_of_getElem? (i := 41) rfl)))) (mvT hZ (hw _ (List.mem_of_getElem? (i := 41) rfl))) (mvT hZ (hw _ (List.mem_of_getElem? (i := 40) rfl))) (by decide) (backOf (W := 1) (rm_far l Z a0 hw [] sel _ T3.heap n0 O F_farthest_sel) hZ (hw _ (List.mem_of_getElem? (i := 42) rfl)) (hw _ (List.mem_of_getElem? (i := 3) rfl)) (by decide) (by decide)) q11a q11c (g := (mkF m 63 #[.val (.int pp), .val (.int xx), .val (.int ss), .val (.int l'), .val (.ref sel), .val (.int ((xx &&& (3 : Int32)) - (1 : Int32))), .val (.int dd), .unset, .unset] [(.ref sel), (.int dd)])) rfl (by rw [hml]; rfl) (Steps.refl _) (argsL := []) (rest := [(.int dd)]) (lenOf pd_4 rfl) rfl (by show 2 * 0 + _ ≤ _; exact Nat.le_of_eq rfl) (hb hby at_63) (fun _ _ => ⟨rfl, hs6, (by decide : 1 + 0 ≤ _), (by decide : 4 + 0 ≤ _)⟩)
    dsimp only [Pt.U, Pt.locs, Pt.cells, Pt.slots] at X11 l11 y11 z11 st11 hQ11
    subst l11 y11 z11
    obtain ⟨rfl, N11, hs11⟩ := hQ11
    have N11' := Fr.app N6' N11
    refine Goes.to (T' := T11) (mkF m 66 #[.val (.int pp), .val (.int xx), .val (.int ss), .val (.int l'), .val (.ref sel), .val (.int ((xx &&& (3 : Int32)) - (1 : Int32))), .val (.int dd), .unset, .unset] [(.int (l' - (1 : Int32))), (.int dd)]) (fun t k => st11.trans k) ?_
    by_cases hc66_12 : (l' - (1 : Int32)) < dd
    · refine Goes.to (T' := T11) (mkF m 73 #[.val (.int pp), .val (.int xx), .val (.int ss), .val (.int l'), .val (.ref sel), .val (.int ((xx &&& (3 : Int32)) - (1 : Int32))), .val (.int dd), .unset, .unset] []) (fun t k => XS.icmpYes X11.here hx rfl (pc0 := 66) (pc' := 73) rfl (hb hby at_66) rfl (tlt hc66_12).2.2.1 (by decide) (by decide) k) ?_
      refine Goes.to (T' := T11) (mkF m 74 #[.val (.int pp), .val (.int xx), .val (.int ss), .val (.int l'), .val (.ref sel), .val (.int ((xx &&& (3 : Int32)) - (1 : Int32))), .val (.int dd), .unset, .unset] [(.int (0 : Int32))]) (fun t k => XS.iconst X11.here hx rfl (hb hby at_73) k) ?_
      refine Goes.to (T' := T11) (mkF m 76 #[.val (.int pp), .val (.int xx), .val (.int ss), .val (.int l'), .val (.ref sel), .val (.int ((xx &&& (3 : Int32)) - (1 : Int32))), .val (.int dd), .val (.int (0 : Int32)), .unset] []) (fun t k => XS.istore X11.here hx rfl (hb hby at_74) rfl (l' := #[.val (.int pp), .val (.int xx), .val (.int ss), .val (.int l'), .val (.ref sel), .val (.int ((xx &&& (3 : Int32)) - (1 : Int32))), .val (.int dd), .val (.int (0 : Int32)), .unset]) rfl k) ?_
      have D76_13 : ∀ t, Steps p.tables e below (T11.setTop (mkF m 92 #[.val (.int pp), .val (.int xx), .val (.int ss), .val (.int l'), .val (.ref sel), .val (.int ((xx &&& (3 : Int32)) - (1 : Int32))), .val (.int dd), .val (.int (0 : Int32)), .unset] [(.int (if (lcmpW ((dd.toInt64) + (1 : Int64)) (l'.toInt64)) = (0 : Int32) then (1 : Int32) else (0 : Int32)))])) t → Steps p.tables e below (T11.setTop (mkF m 76 #[.val (.int pp), .val (.int xx), .val (.int ss), .val (.int l'), .val (.ref sel), .val (.int ((xx &&& (3 : Int32)) - (1 : Int32))), .val (.int dd), .val (.int (0 : Int32)), .unset] [])) t := by
        intro t k
        refine XS.iload X11.here hx rfl (hb hby at_76) rfl ?_
        show Steps p.tables e below (T11.setTop (mkF m 78 #[.val (.int pp), .val (.int xx), .val (.int ss), .val (.int l'), .val (.ref sel), .val (.int ((xx &&& (3 : Int32)) - (1 : Int32))), .val (.int dd), .val (.int (0 : Int32)), .unset] [(.int dd)])) _
        refine XS.i2l X11.here hx rfl (hb hby at_78) rfl ?_
        show Steps p.tables e below (T11.setTop (mkF m 79 #[.val (.int pp), .val (.int xx), .val (.int ss), .val (.int l'), .val (.ref sel), .val (.int ((xx &&& (3 : Int32)) - (1 : Int32))), .val (.int dd), .val (.int (0 : Int32)), .unset] [(.long (dd.toInt64))])) _
        refine XS.lconst X11.here hx rfl (hb hby at_79) ?_
        show Steps p.tables e below (T11.setTop (mkF m 80 #[.val (.int pp), .val (.int xx), .val (.int ss), .val (.int l'), .val (.ref sel), .val (.int ((xx &&& (3 : Int32)) - (1 : Int32))), .val (.int dd), .val (.int (0 : Int32)), .unset] [(.long (1 : Int64)), (.long (dd.toInt64))])) _
        refine XS.ladd X11.here hx rfl (hb hby at_80) rfl ?_
        show Steps p.tables e below (T11.setTop (mkF m 81 #[.val (.int pp), .val (.int xx), .val (.int ss), .val (.int l'), .val (.ref sel), .val (.int ((xx &&& (3 : Int32)) - (1 : Int32))), .val (.int dd), .val (.int (0 : Int32)), .unset] [(.long ((dd.toInt64) + (1 : Int64)))])) _
        refine XS.iloadN X11.here hx rfl (hb hby at_81) rfl ?_
        show Steps p.tables e below (T11.setTop (mkF m 82 #[.val (.int pp), .val (.int xx), .val (.int ss), .val (.int l'), .val (.ref sel), .val (.int ((xx &&& (3 : Int32)) - (1 : Int32))), .val (.int dd), .val (.int (0 : Int32)), .unset] [(.int l'), (.long ((dd.toInt64) + (1 : Int64)))])) _
        refine XS.i2l X11.here hx rfl (hb hby at_82) rfl ?_
        show Steps p.tables e below (T11.setTop (mkF m 83 #[.val (.int pp), .val (.int xx), .val (.int ss), .val (.int l'), .val (.ref sel), .val (.int ((xx &&& (3 : Int32)) - (1 : Int32))), .val (.int dd), .val (.int (0 : Int32)), .unset] [(.long (l'.toInt64)), (.long ((dd.toInt64) + (1 : Int64)))])) _
        refine XS.lcmp X11.here hx rfl (hb hby at_83) rfl ?_
        show Steps p.tables e below (T11.setTop (mkF m 84 #[.val (.int pp), .val (.int xx), .val (.int ss), .val (.int l'), .val (.ref sel), .val (.int ((xx &&& (3 : Int32)) - (1 : Int32))), .val (.int dd), .val (.int (0 : Int32)), .unset] [(.int (lcmpW ((dd.toInt64) + (1 : Int64)) (l'.toInt64)))])) _
        by_cases hq : (lcmpW ((dd.toInt64) + (1 : Int64)) (l'.toInt64)) = (0 : Int32)
        · simp only [if_pos hq] at k
          refine XS.ifNo X11.here hx rfl (hb hby at_84) rfl ((if0 _ _).trans (teq hq).2) ?_
          show Steps p.tables e below (T11.setTop (mkF m 87 #[.val (.int pp), .val (.int xx), .val (.int ss), .val (.int l'), .val (.ref sel), .val (.int ((xx &&& (3 : Int32)) - (1 : Int32))), .val (.int dd), .val (.int (0 : Int32)), .unset] [])) _
          refine XS.iconst X11.here hx rfl (hb hby at_87) ?_
          show Steps p.tables e below (T11.setTop (mkF m 88 #[.val (.int pp), .val (.int xx), .val (.int ss), .val (.int l'), .val (.ref sel), .val (.int ((xx &&& (3 : Int32)) - (1 : Int32))), .val (.int dd), .val (.int (0 : Int32)), .unset] [(.int (1 : Int32))])) _
          refine XS.goto X11.here hx rfl (pc0 := 88) (pc' := 92) rfl (hb hby at_88) (by decide) (by decide) ?_
          show Steps p.tables e below (T11.setTop (mkF m 92 #[.val (.int pp), .val (.int xx), .val (.int ss), .val (.int l'), .val (.ref sel), .val (.int ((xx &&& (3 : Int32)) - (1 : Int32))), .val (.int dd), .val (.int (0 : Int32)), .unset] [(.int (1 : Int32))])) _
          exact k
        · simp only [if_neg hq] at k
          refine XS.ifYes X11.here hx rfl (pc0 := 84) (pc' := 91) rfl (hb hby at_84) rfl ((if0 _ _).trans (feq hq).2) (by decide) (by decide) ?_
          show Steps p.tables e below (T11.setTop (mkF m 91 #[.val (.int pp), .val (.int xx), .val (.int ss), .val (.int l'), .val (.ref sel), .val (.int ((xx &&& (3 : Int32)) - (1 : Int32))), .val (.int dd), .val (.int (0 : Int32)), .unset] [])) _
          refine XS.iconst X11.here hx rfl (hb hby at_91) ?_
          show Steps p.tables e below (T11.setTop (mkF m 92 #[.val (.int pp), .val (.int xx), .val (.int ss), .val (.int l'), .val (.ref sel), .val (.int ((xx &&& (3 : Int32)) - (1 : Int32))), .val (.int dd), .val (.int (0 : Int32)), .unset] [(.int (0 : Int32))])) _
          exact k
      refine Goes.to (T' := T11) (mkF m 92 #[.val (.int pp), .val (.int xx), .val (.int ss), .val (.int l'), .val (.ref sel), .val (.int ((xx &&& (3 : Int32)) - (1 : Int32))), .val (.int dd), .val (.int (0 : Int32)), .unset] [(.int (if (lcmpW ((dd.toInt64) + (1 : Int64)) (l'.toInt64)) = (0 : Int32) then (1 : Int32) else (0 : Int32)))]) D76_13 ?_
      obtain ⟨al, al_eq⟩ : ∃ z, z = (if (lcmpW ((dd.toInt64) + (1 : Int64)) (l'.toInt64)) = (0 : Int32) then (1 : Int32) else (0 : Int32)) := ⟨_, rfl⟩
      rw [← al_eq]
      refine Goes.to (T' := T11) (mkF m 94 #[.val (.int pp), .val (.int xx), .val (.int ss), .val (.int l'), .val (.ref sel), .val (.int ((xx &&& (3 : Int32)) - (1 : Int32))), .val (.int dd), .val (.int (0 : Int32)), .val (.int al)] []) (fun t k => XS.istore X11.here hx rfl (hb hby at_92) rfl (l' := #[.val (.int pp), .val (.int xx), .val (.int ss), .val (.int l'), .val (.ref sel), .val (.int ((xx &&& (3 : Int32)) - (1 : Int32))), .val (.int dd), .val (.int (0 : Int32)), .val (.int al)]) rfl k) ?_
      refine Goes.to (T' := T11) (mkF m 96 #[.val (.int pp), .val (.int xx), .val (.int ss), .val (.int l'), .val (.ref sel), .val (.int ((xx &&& (3 : Int32)) - (1 : Int32))), .val (.int dd), .val (.int (0 : Int32)), .val (.int al)] [(.ref sel)]) (fun t k => XS.aload X11.here hx rfl (hb hby at_94) rfl rfl k) ?_
      obtain ⟨cq15, kq15, q15a, q15b, q15c⟩ := isOf hZ hs11 E_sel
      obtain ⟨_, _, ⟨T15, L15, k15, n15⟩, -, X15, ⟨Lc15, hQ15, l15, y15, z15⟩, st15⟩ := X11.virtualBack hx (y := (⟨"com/example/forest_in_rows/forestinrows/SiblingGroups$Selection", "fromRoots", "()Z"⟩ : MethodName)) (z := (⟨"com/example/forest_in_rows/forestinrows/SiblingGroups$Selection", "fromRoots", "()Z"⟩ : MethodName)) hown (mvT hZ (hw _ (List.mem_of_getElem? (i := 43) rfl))) (mvT hZ (hw _ (List.mem_of_getElem? (i := 44) rfl))) (notFace_of_selects (args := #[]) (mvT hZ (hw _ (List.mem_of_getElem? (i := 46) rfl)))) (mvT hZ (hw _ (List.mem_of_getElem? (i := 46) rfl))) (mvT hZ (hw _ (List.mem_of_getElem? (i := 45) rfl))) (by decide) (backOf (W := 0) (rm_roots l Z a0 hw [] sel _ T3.heap n0 O F_fromRoots_sel) hZ (hw _ (List.mem_of_getElem? (i := 47) rfl)) (hw _ (List.mem_of_getElem? (i := 3) rfl)) (by decide) (by decide)) q15a q15c (g := (mkF m 96 #[.val (.int pp), .val (.int xx), .val (.int ss), .val (.int l'), .val (.ref sel), .val (.int ((xx &&& (3 : Int32)) - (1 : Int32))), .val (.int dd), .val (.int (0 : Int32)), .val (.int al)] [(.ref sel)])) rfl (by rw [hml]; rfl) (Steps.refl _) (argsL := []) (rest := []) (lenOf pd_5 rfl) rfl (by show 2 * 0 + _ ≤ _; exact Nat.le_of_eq rfl) (hb hby at_96) (fun _ _ => ⟨rfl, hs11, (by decide : 1 + 0 ≤ _), (by decide : 4 + 0 ≤ _)⟩)
      dsimp only [Pt.U, Pt.locs, Pt.cells, Pt.slots] at X15 l15 y15 z15 st15 hQ15
      subst l15 y15 z15
      obtain ⟨rfl, N15, hs15⟩ := hQ15
      have N15' := Fr.app N11' N15
      refine Goes.to (T' := T15) (mkF m 99 #[.val (.int pp), .val (.int xx), .val (.int ss), .val (.int l'), .val (.ref sel), .val (.int ((xx &&& (3 : Int32)) - (1 : Int32))), .val (.int dd), .val (.int (0 : Int32)), .val (.int al)] [(.int (nar .boolean (nar .boolean 1)))]) (fun t k => st15.trans k) ?_
      refine Goes.to (T' := T15) (mkF m 102 #[.val (.int pp), .val (.int xx), .val (.int ss), .val (.int l'), .val (.ref sel), .val (.int ((xx &&& (3 : Int32)) - (1 : Int32))), .val (.int dd), .val (.int (0 : Int32)), .val (.int al)] []) (fun t k => XS.ifNo X15.here hx rfl (hb hby at_99) rfl ((if0 _ _).trans (feq (by decide : ¬ ((nar .boolean (nar .boolean 1)) = (0 : Int32)))).1) k) ?_
      refine Goes.to (T' := T15) (mkF m 104 #[.val (.int pp), .val (.int xx), .val (.int ss), .val (.int l'), .val (.ref sel), .val (.int ((xx &&& (3 : Int32)) - (1 : Int32))), .val (.int dd), .val (.int (0 : Int32)), .val (.int al)] [(.int (0 : Int32))]) (fun t k => XS.iload X15.here hx rfl (hb hby at_102) rfl k) ?_
      refine Goes.to (T' := T15) (mkF m 106 #[.val (.int pp), .val (.int xx), .val (.int ss), .val (.int l'), .val (.ref sel), .val (.int ((xx &&& (3 : Int32)) - (1 : Int32))), .val (.int dd), .val (.int (0 : Int32)), .val (.int al)] [(.int al), (.int (0 : Int32))]) (fun t k => XS.iload X15.here hx rfl (hb hby at_104) rfl k) ?_
      refine Goes.to (T' := T15) (mkF m 109 #[.val (.int pp), .val (.int xx), .val (.int ss), .val (.int l'), .val (.ref sel), .val (.int ((xx &&& (3 : Int32)) - (1 : Int32))), .val (.int dd), .val (.int (0 : Int32)), .val (.int al)] []) (fun t k => XS.icmpNo X15.here hx rfl (hb hby at_106) rfl (teq ((al_eq.trans (if_neg (own_al2 hl hc66_12))).symm : (0 : Int32) = al)).2 k) ?_
      refine Goes.to (T' := T15) (mkF m 110 #[.val (.int pp), .val (.int xx), .val (.int ss), .val (.int l'), .val (.ref sel), .val (.int ((xx &&& (3 : Int32)) - (1 : Int32))), .val (.int dd), .val (.int (0 : Int32)), .val (.int al)] [(.int (1 : Int32))]) (fun t k => XS.iconst X15.here hx rfl (hb hby at_109) k) ?_
      refine Goes.to (T' := T15) (mkF m 114 #[.val (.int pp), .val (.int xx), .val (.int ss), .val (.int l'), .val (.ref sel), .val (.int ((xx &&& (3 : Int32)) - (1 : Int32))), .val (.int dd), .val (.int (0 : Int32)), .val (.int al)] [(.int (1 : Int32))]) (fun t k => XS.goto X15.here hx rfl (pc0 := 110) (pc' := 114) rfl (hb hby at_110) (by decide) (by decide) k) ?_
      refine Goes.retN X15 hx Bd.notSynchronized (t := .boolean) Bd.returns (by simp) (hb hby at_114) (by decide) (by decide) ?_
      rw [hs15]
      exact ⟨rfl, N15'⟩
    · refine Goes.to (T' := T11) (mkF m 69 #[.val (.int pp), .val (.int xx), .val (.int ss), .val (.int l'), .val (.ref sel), .val (.int ((xx &&& (3 : Int32)) - (1 : Int32))), .val (.int dd), .unset, .unset] []) (fun t k => XS.icmpNo X11.here hx rfl (hb hby at_66) rfl (flt hc66_12).2.2.1 k) ?_
      refine Goes.to (T' := T11) (mkF m 70 #[.val (.int pp), .val (.int xx), .val (.int ss), .val (.int l'), .val (.ref sel), .val (.int ((xx &&& (3 : Int32)) - (1 : Int32))), .val (.int dd), .unset, .unset] [(.int (1 : Int32))]) (fun t k => XS.iconst X11.here hx rfl (hb hby at_69) k) ?_
      refine Goes.to (T' := T11) (mkF m 74 #[.val (.int pp), .val (.int xx), .val (.int ss), .val (.int l'), .val (.ref sel), .val (.int ((xx &&& (3 : Int32)) - (1 : Int32))), .val (.int dd), .unset, .unset] [(.int (1 : Int32))]) (fun t k => XS.goto X11.here hx rfl (pc0 := 70) (pc' := 74) rfl (hb hby at_70) (by decide) (by decide) k) ?_
      refine Goes.to (T' := T11) (mkF m 76 #[.val (.int pp), .val (.int xx), .val (.int ss), .val (.int l'), .val (.ref sel), .val (.int ((xx &&& (3 : Int32)) - (1 : Int32))), .val (.int dd), .val (.int (1 : Int32)), .unset] []) (fun t k => XS.istore X11.here hx rfl (hb hby at_74) rfl (l' := #[.val (.int pp), .val (.int xx), .val (.int ss), .val (.int l'), .val (.ref sel), .val (.int ((xx &&& (3 : Int32)) - (1 : Int32))), .val (.int dd), .val (.int (1 : Int32)), .unset]) rfl k) ?_
      have D76_16 : ∀ t, Steps p.tables e below (T11.setTop (mkF m 92 #[.val (.int pp), .val (.int xx), .val (.int ss), .val (.int l'), .val (.ref sel), .val (.int ((xx &&& (3 : Int32)) - (1 : Int32))), .val (.int dd), .val (.int (1 : Int32)), .unset] [(.int (if (lcmpW ((dd.toInt64) + (1 : Int64)) (l'.toInt64)) = (0 : Int32) then (1 : Int32) else (0 : Int32)))])) t → Steps p.tables e below (T11.setTop (mkF m 76 #[.val (.int pp), .val (.int xx), .val (.int ss), .val (.int l'), .val (.ref sel), .val (.int ((xx &&& (3 : Int32)) - (1 : Int32))), .val (.int dd), .val (.int (1 : Int32)), .unset] [])) t := by
        intro t k
        refine XS.iload X11.here hx rfl (hb hby at_76) rfl ?_
        show Steps p.tables e below (T11.setTop (mkF m 78 #[.val (.int pp), .val (.int xx), .val (.int ss), .val (.int l'), .val (.ref sel), .val (.int ((xx &&& (3 : Int32)) - (1 : Int32))), .val (.int dd), .val (.int (1 : Int32)), .unset] [(.int dd)])) _
        refine XS.i2l X11.here hx rfl (hb hby at_78) rfl ?_
        show Steps p.tables e below (T11.setTop (mkF m 79 #[.val (.int pp), .val (.int xx), .val (.int ss), .val (.int l'), .val (.ref sel), .val (.int ((xx &&& (3 : Int32)) - (1 : Int32))), .val (.int dd), .val (.int (1 : Int32)), .unset] [(.long (dd.toInt64))])) _
        refine XS.lconst X11.here hx rfl (hb hby at_79) ?_
        show Steps p.tables e below (T11.setTop (mkF m 80 #[.val (.int pp), .val (.int xx), .val (.int ss), .val (.int l'), .val (.ref sel), .val (.int ((xx &&& (3 : Int32)) - (1 : Int32))), .val (.int dd), .val (.int (1 : Int32)), .unset] [(.long (1 : Int64)), (.long (dd.toInt64))])) _
        refine XS.ladd X11.here hx rfl (hb hby at_80) rfl ?_
        show Steps p.tables e below (T11.setTop (mkF m 81 #[.val (.int pp), .val (.int xx), .val (.int ss), .val (.int l'), .val (.ref sel), .val (.int ((xx &&& (3 : Int32)) - (1 : Int32))), .val (.int dd), .val (.int (1 : Int32)), .unset] [(.long ((dd.toInt64) + (1 : Int64)))])) _
        refine XS.iloadN X11.here hx rfl (hb hby at_81) rfl ?_
        show Steps p.tables e below (T11.setTop (mkF m 82 #[.val (.int pp), .val (.int xx), .val (.int ss), .val (.int l'), .val (.ref sel), .val (.int ((xx &&& (3 : Int32)) - (1 : Int32))), .val (.int dd), .val (.int (1 : Int32)), .unset] [(.int l'), (.long ((dd.toInt64) + (1 : Int64)))])) _
        refine XS.i2l X11.here hx rfl (hb hby at_82) rfl ?_
        show Steps p.tables e below (T11.setTop (mkF m 83 #[.val (.int pp), .val (.int xx), .val (.int ss), .val (.int l'), .val (.ref sel), .val (.int ((xx &&& (3 : Int32)) - (1 : Int32))), .val (.int dd), .val (.int (1 : Int32)), .unset] [(.long (l'.toInt64)), (.long ((dd.toInt64) + (1 : Int64)))])) _
        refine XS.lcmp X11.here hx rfl (hb hby at_83) rfl ?_
        show Steps p.tables e below (T11.setTop (mkF m 84 #[.val (.int pp), .val (.int xx), .val (.int ss), .val (.int l'), .val (.ref sel), .val (.int ((xx &&& (3 : Int32)) - (1 : Int32))), .val (.int dd), .val (.int (1 : Int32)), .unset] [(.int (lcmpW ((dd.toInt64) + (1 : Int64)) (l'.toInt64)))])) _
        by_cases hq : (lcmpW ((dd.toInt64) + (1 : Int64)) (l'.toInt64)) = (0 : Int32)
        · simp only [if_pos hq] at k
          refine XS.ifNo X11.here hx rfl (hb hby at_84) rfl ((if0 _ _).trans (teq hq).2) ?_
          show Steps p.tables e below (T11.setTop (mkF m 87 #[.val (.int pp), .val (.int xx), .val (.int ss), .val (.int l'), .val (.ref sel), .val (.int ((xx &&& (3 : Int32)) - (1 : Int32))), .val (.int dd), .val (.int (1 : Int32)), .unset] [])) _
          refine XS.iconst X11.here hx rfl (hb hby at_87) ?_
          show Steps p.tables e below (T11.setTop (mkF m 88 #[.val (.int pp), .val (.int xx), .val (.int ss), .val (.int l'), .val (.ref sel), .val (.int ((xx &&& (3 : Int32)) - (1 : Int32))), .val (.int dd), .val (.int (1 : Int32)), .unset] [(.int (1 : Int32))])) _
          refine XS.goto X11.here hx rfl (pc0 := 88) (pc' := 92) rfl (hb hby at_88) (by decide) (by decide) ?_
          show Steps p.tables e below (T11.setTop (mkF m 92 #[.val (.int pp), .val (.int xx), .val (.int ss), .val (.int l'), .val (.ref sel), .val (.int ((xx &&& (3 : Int32)) - (1 : Int32))), .val (.int dd), .val (.int (1 : Int32)), .unset] [(.int (1 : Int32))])) _
          exact k
        · simp only [if_neg hq] at k
          refine XS.ifYes X11.here hx rfl (pc0 := 84) (pc' := 91) rfl (hb hby at_84) rfl ((if0 _ _).trans (feq hq).2) (by decide) (by decide) ?_
          show Steps p.tables e below (T11.setTop (mkF m 91 #[.val (.int pp), .val (.int xx), .val (.int ss), .val (.int l'), .val (.ref sel), .val (.int ((xx &&& (3 : Int32)) - (1 : Int32))), .val (.int dd), .val (.int (1 : Int32)), .unset] [])) _
          refine XS.iconst X11.here hx rfl (hb hby at_91) ?_
          show Steps p.tables e below (T11.setTop (mkF m 92 #[.val (.int pp), .val (.int xx), .val (.int ss), .val (.int l'), .val (.ref sel), .val (.int ((xx &&& (3 : Int32)) - (1 : Int32))), .val (.int dd), .val (.int (1 : Int32)), .unset] [(.int (0 : Int32))])) _
          exact k
      refine Goes.to (T' := T11) (mkF m 92 #[.val (.int pp), .val (.int xx), .val (.int ss), .val (.int l'), .val (.ref sel), .val (.int ((xx &&& (3 : Int32)) - (1 : Int32))), .val (.int dd), .val (.int (1 : Int32)), .unset] [(.int (if (lcmpW ((dd.toInt64) + (1 : Int64)) (l'.toInt64)) = (0 : Int32) then (1 : Int32) else (0 : Int32)))]) D76_16 ?_
      obtain ⟨al, al_eq⟩ : ∃ z, z = (if (lcmpW ((dd.toInt64) + (1 : Int64)) (l'.toInt64)) = (0 : Int32) then (1 : Int32) else (0 : Int32)) := ⟨_, rfl⟩
      rw [← al_eq]
      refine Goes.to (T' := T11) (mkF m 94 #[.val (.int pp), .val (.int xx), .val (.int ss), .val (.int l'), .val (.ref sel), .val (.int ((xx &&& (3 : Int32)) - (1 : Int32))), .val (.int dd), .val (.int (1 : Int32)), .val (.int al)] []) (fun t k => XS.istore X11.here hx rfl (hb hby at_92) rfl (l' := #[.val (.int pp), .val (.int xx), .val (.int ss), .val (.int l'), .val (.ref sel), .val (.int ((xx &&& (3 : Int32)) - (1 : Int32))), .val (.int dd), .val (.int (1 : Int32)), .val (.int al)]) rfl k) ?_
      refine Goes.to (T' := T11) (mkF m 96 #[.val (.int pp), .val (.int xx), .val (.int ss), .val (.int l'), .val (.ref sel), .val (.int ((xx &&& (3 : Int32)) - (1 : Int32))), .val (.int dd), .val (.int (1 : Int32)), .val (.int al)] [(.ref sel)]) (fun t k => XS.aload X11.here hx rfl (hb hby at_94) rfl rfl k) ?_
      obtain ⟨cq18, kq18, q18a, q18b, q18c⟩ := isOf hZ hs11 E_sel
      obtain ⟨_, _, ⟨T18, L18, k18, n18⟩, -, X18, ⟨Lc18, hQ18, l18, y18, z18⟩, st18⟩ := X11.virtualBack hx (y := (⟨"com/example/forest_in_rows/forestinrows/SiblingGroups$Selection", "fromRoots", "()Z"⟩ : MethodName)) (z := (⟨"com/example/forest_in_rows/forestinrows/SiblingGroups$Selection", "fromRoots", "()Z"⟩ : MethodName)) hown (mvT hZ (hw _ (List.mem_of_getElem? (i := 43) rfl))) (mvT hZ (hw _ (List.mem_of_getElem? (i := 44) rfl))) (notFace_of_selects (args := #[]) (mvT hZ (hw _ (List.mem_of_getElem? (i := 46) rfl)))) (mvT hZ (hw _ (List.mem_of_getElem? (i := 46) rfl))) (mvT hZ (hw _ (List.mem_of_getElem? (i := 45) rfl))) (by decide) (backOf (W := 0) (rm_roots l Z a0 hw [] sel _ T3.heap n0 O F_fromRoots_sel) hZ (hw _ (List.mem_of_getElem? (i := 47) rfl)) (hw _ (List.mem_of_getElem? (i := 3) rfl)) (by decide) (by decide)) q18a q18c (g := (mkF m 96 #[.val (.int pp), .val (.int xx), .val (.int ss), .val (.int l'), .val (.ref sel), .val (.int ((xx &&& (3 : Int32)) - (1 : Int32))), .val (.int dd), .val (.int (1 : Int32)), .val (.int al)] [(.ref sel)])) rfl (by rw [hml]; rfl) (Steps.refl _) (argsL := []) (rest := []) (lenOf pd_5 rfl) rfl (by show 2 * 0 + _ ≤ _; exact Nat.le_of_eq rfl) (hb hby at_96) (fun _ _ => ⟨rfl, hs11, (by decide : 1 + 0 ≤ _), (by decide : 4 + 0 ≤ _)⟩)
      dsimp only [Pt.U, Pt.locs, Pt.cells, Pt.slots] at X18 l18 y18 z18 st18 hQ18
      subst l18 y18 z18
      obtain ⟨rfl, N18, hs18⟩ := hQ18
      have N18' := Fr.app N11' N18
      refine Goes.to (T' := T18) (mkF m 99 #[.val (.int pp), .val (.int xx), .val (.int ss), .val (.int l'), .val (.ref sel), .val (.int ((xx &&& (3 : Int32)) - (1 : Int32))), .val (.int dd), .val (.int (1 : Int32)), .val (.int al)] [(.int (nar .boolean (nar .boolean 1)))]) (fun t k => st18.trans k) ?_
      refine Goes.to (T' := T18) (mkF m 102 #[.val (.int pp), .val (.int xx), .val (.int ss), .val (.int l'), .val (.ref sel), .val (.int ((xx &&& (3 : Int32)) - (1 : Int32))), .val (.int dd), .val (.int (1 : Int32)), .val (.int al)] []) (fun t k => XS.ifNo X18.here hx rfl (hb hby at_99) rfl ((if0 _ _).trans (feq (by decide : ¬ ((nar .boolean (nar .boolean 1)) = (0 : Int32)))).1) k) ?_
      refine Goes.to (T' := T18) (mkF m 104 #[.val (.int pp), .val (.int xx), .val (.int ss), .val (.int l'), .val (.ref sel), .val (.int ((xx &&& (3 : Int32)) - (1 : Int32))), .val (.int dd), .val (.int (1 : Int32)), .val (.int al)] [(.int (1 : Int32))]) (fun t k => XS.iload X18.here hx rfl (hb hby at_102) rfl k) ?_
      refine Goes.to (T' := T18) (mkF m 106 #[.val (.int pp), .val (.int xx), .val (.int ss), .val (.int l'), .val (.ref sel), .val (.int ((xx &&& (3 : Int32)) - (1 : Int32))), .val (.int dd), .val (.int (1 : Int32)), .val (.int al)] [(.int al), (.int (1 : Int32))]) (fun t k => XS.iload X18.here hx rfl (hb hby at_104) rfl k) ?_
      refine Goes.to (T' := T18) (mkF m 109 #[.val (.int pp), .val (.int xx), .val (.int ss), .val (.int l'), .val (.ref sel), .val (.int ((xx &&& (3 : Int32)) - (1 : Int32))), .val (.int dd), .val (.int (1 : Int32)), .val (.int al)] []) (fun t k => XS.icmpNo X18.here hx rfl (hb hby at_106) rfl (teq ((al_eq.trans (if_pos (own_al3 hl hc56_7 hc66_12))).symm : (1 : Int32) = al)).2 k) ?_
      refine Goes.to (T' := T18) (mkF m 110 #[.val (.int pp), .val (.int xx), .val (.int ss), .val (.int l'), .val (.ref sel), .val (.int ((xx &&& (3 : Int32)) - (1 : Int32))), .val (.int dd), .val (.int (1 : Int32)), .val (.int al)] [(.int (1 : Int32))]) (fun t k => XS.iconst X18.here hx rfl (hb hby at_109) k) ?_
      refine Goes.to (T' := T18) (mkF m 114 #[.val (.int pp), .val (.int xx), .val (.int ss), .val (.int l'), .val (.ref sel), .val (.int ((xx &&& (3 : Int32)) - (1 : Int32))), .val (.int dd), .val (.int (1 : Int32)), .val (.int al)] [(.int (1 : Int32))]) (fun t k => XS.goto X18.here hx rfl (pc0 := 110) (pc' := 114) rfl (hb hby at_110) (by decide) (by decide) k) ?_
      refine Goes.retN X18 hx Bd.notSynchronized (t := .boolean) Bd.returns (by simp) (hb hby at_114) (by decide) (by decide) ?_
      rw [hs18]
      exact ⟨rfl, N18'⟩
set_option maxRecDepth 65536 in
set_option maxHeartbeats 40000000 in
theorem comes_1 {Post : Tables → Env → Array Value → State → Outcome → State → Prop} (hpost : ∀ tb e args s v u, (limb_1_1.after args s (.returned v) u = true ∧ limb_1_2.after args s (.returned v) u = true ∧ True) → FrameEnd s (.returned v) u (Jvm.fieldLocs frame_1_writes args s ++ Jvm.arrayLocs frame_1_arrays args s ++ Jvm.staticLocs frame_1_statics s) 16 128 → Post tb e args s (.returned v) u) :
    ArmFor flags0 classFile x code maxLocals ret World_1 tables_1 room_1 Calls_1 rest_1 Pre_1 Post := by
  intro l hfl _ _ p e ha hc hk s m args below hf hA hF happ hP
  obtain ⟨hcalls, hrest, hpre⟩ := hP
  obtain ⟨-, -, -, hnamed, -, -, -, hat⟩ := (Spec.applies_iff hf).mp happ
  obtain ⟨hg, hn⟩ := and_e (Cond.before_iff.mp (show (Jvm.Cond.and given_1 narrow_1).before args s = true from hpre))
  obtain ⟨gg0, gr0⟩ := and_e hg
  obtain ⟨gg1, gr1⟩ := and_e gr0
  obtain ⟨gg2, gr2⟩ := and_e gr1
  have gg3 := gr2
  obtain ⟨w0, w1, w2, rfl⟩ : ∃ w0 w1 w2 : Value, args = #[w0, w1, w2] := by
    have hs : args.size = 3 := by simpa [Cond.value, given_1] using gg0
    obtain ⟨L⟩ := args
    match L, hs with
    | [w0, w1, w2], _ => exact ⟨w0, w1, w2, rfl⟩
  have hw := fun d (hd : d ∈ tables_1) => atoms_spec (ws := Jvm.Cond.code x code maxLocals ret :: tables_1) hat d (List.mem_cons_of_mem _ hd)
  have hfit : Fit s := fun {y c} hc i hi => by
    obtain ⟨ha, rfl⟩ := Array.getElem?_eq_some_iff.mp hc
    have q := List.all_eq_true.mp ((Array.all_eq_true_iff_forall_mem.mp hF) _ (Array.getElem_mem ha)) i (List.mem_range.mpr hi)
    simpa [Array.getElem?_eq_getElem hi] using q
  obtain ⟨hsets, hown0⟩ := atoms_of _ (rest_1_c_eq ▸ (show rest_1_c.before _ s = true from hrest))
  have hr0 := Cond.before_iff.mp hown0
  obtain ⟨a_EMPTY_SET, ev_EMPTY_SET⟩ := exa_v (Cond.before_iff.mp (hsets _ (List.mem_of_getElem? (i := 2) rfl)))
  have S_EMPTY_SET : Sta s s.heap "java/util/ImmutableCollections" "EMPTY_SET" "Ljava/util/ImmutableCollections$SetN;" (.ref a_EMPTY_SET) := Sta.start ev_EMPTY_SET (Or.inl (hsets _ (List.mem_of_getElem? (i := 1) rfl)))
  have E_EMPTY_SET : Exa s s.heap a_EMPTY_SET "java/util/ImmutableCollections$SetN" := Exa.start ev_EMPTY_SET (Cond.before_iff.mp (hsets _ (List.mem_of_getElem? (i := 2) rfl)))
  obtain ⟨i0, ei0⟩ := is_v gg1
  obtain rfl : w0 = (.int i0) := Option.some.inj ei0
  obtain ⟨i1, ei1⟩ := is_v gg2
  obtain rfl : w1 = (.int i1) := Option.some.inj ei1
  obtain ⟨i2, ei2⟩ := is_v gg3
  obtain rfl : w2 = (.int i2) := Option.some.inj ei2
  obtain ⟨n, o, h1, h2, h3, _, L, rfl, ⟨rfl, N⟩, hq⟩ := rm_law l s _ hw tables_1 i0 i1 i2 a_EMPTY_SET s.heap s.heap.size (Old.start s) S_EMPTY_SET p e ha hc hk s m _ below hf ((Spec.applies_iff_loose hf).mp happ).1 ⟨rfl, State.Warmed39.refl s, rfl⟩ trivial
  refine ⟨n, _, h1, h2, h3, hpost _ _ _ _ _ _ ⟨Cond.after_iff.mpr rfl, Cond.after_iff.mpr (eq_i res_at (Term.int_eval (1)) rfl), trivial⟩ ⟨hq.1, hq.2.1, (hq.2.2.sift fun y hy => Or.inr (N y hy)).mono (by decide) (by decide)⟩⟩
theorem main_1_1 : Claimed_1_1 := comes_1 fun _ _ _ _ _ _ h hF => ⟨h.1, hF⟩
theorem main_1_2 : Claimed_1_2 := comes_1 fun _ _ _ _ _ _ h hF => ⟨h.2.1, hF⟩

end Jvm.Pilot.@@N@@
namespace Jvm.Pilot.@@N@@
open Jvm Jvm.ClassFile Sem Op Lib Jvm.Free Jvm.Stand Jvm.Pilot.@@N@@.Jvm.D
/-! MADE BY PROGRAM (witnessworld.py) out of the Statement's table words and the real class files: 19 classes; the members and pool entries that the words name. The judged class is class 1, her method 1. -/
namespace start1
open Jvm.ClassFile
def u (s : String) : CpInfo := .utf8 (stringToUtf16 s)
/-- a pool by its gaps: so many unusable entries, then the entry; so many at the end -/
def gap : Nat → List CpInfo → List CpInfo
  | 0, r => r
  | n + 1, r => .unusable :: gap n r
def poolList (es : List (Nat × CpInfo)) (last : Nat) : List CpInfo := es.foldr (fun e r => gap e.1 (e.2 :: r)) (gap last [])
def pool (es : List (Nat × CpInfo)) (last : Nat) : Array CpInfo := ⟨poolList es last⟩
def fileOf (pool : Array CpInfo) (this : Nat) (attrs : Array Attribute := #[]) (ms : Array MethodInfo := #[]) (fl : Nat := 33) (sup : Nat := 0) (ifs : Array Nat := #[]) (fds : Array FieldInfo := #[]) : ClassFile where
  minorVersion := 0
  majorVersion := 65
  constantPool := pool
  accessFlags := fl
  thisClass := this
  superClass := sup
  interfaces := ifs
  fields := fds
  methods := ms
  attributes := attrs
def plain (name : String) (sup : Option ClassId) : Class where
  name := name
  kind := .ordinary
  loader := none
  accessFlags := 33
  super := sup
  interfaces := #[]
  cf := none
  fields := #[]
  methods := #[]
  instanceTypes := #[]
  staticTypes := #[]
  resolved := #[]
  callSites := []
  init := .initialized
  statics := none
  mirror := none

def pool0 : Array CpInfo := pool [(5, u "<init>"), (0, u "()V"), (1, .class_ 10), (1, u "java/lang/Object")] 113

def k0c0 : Code := { maxStack := 0, maxLocals := 1, code := object_method_1_code, exceptionTable := #[], attributes := #[] }
def k0m0 : Method := { name := "<init>", desc := "()V", sig := { parameters := [], returnType := none }, accessFlags := 1, code := some k0c0 }
/-- java/lang/Object -/
def k0 : Class := { plain "java/lang/Object" none with
  accessFlags := 33
  interfaces := #[]
  cf := some (fileOf pool0 8 #[] #[{ accessFlags := 1, nameIndex := 5, descriptorIndex := 6, attributes := #[] }] 33 0 #[] #[])
  fields := #[]
  methods := #[k0m0]
  instanceTypes := #[]
  staticTypes := #[]
  resolved := Array.replicate 124 none
  statics := none }

def pool1 : Array CpInfo := pool [(2, .class_ 4), (1, u "java/lang/Object"), (0, u "<init>"), (0, u "()V"), (2, .integer 2147483648), (0, .methodref 11 12), (0, .class_ 13), (0, .nameAndType 14 15), (0, u "com/example/forest_in_rows/forestinrows/SiblingGroups$Selection"), (0, u "level"), (0, u "(I)Lcom/example/forest_in_rows/forestinrows/SiblingGroups$Selection;"), (0, .integer 2147483647), (0, .methodref 11 18), (0, .nameAndType 19 20), (0, u "nearest"), (0, u "()I"), (0, .methodref 11 22), (0, .nameAndType 23 20), (0, u "farthest"), (0, .methodref 11 25), (0, .nameAndType 26 27), (0, u "fromRoots"), (0, u "()Z"), (0, .class_ 29), (0, u "com/example/forest_in_rows/forestinrows/SiblingGroupsLevelPinLaw"), (2, u "law"), (0, u "(III)Z")] 7

def k1m0 : Method := { name := "<init>", desc := "()V", sig := { parameters := [], returnType := none }, accessFlags := 2, code := none }
def k1c1 : Code := { maxStack := 4, maxLocals := 9, code := code, exceptionTable := #[], attributes := #[] }
def k1m1 : Method := { name := "law", desc := "(III)Z", sig := { parameters := [.int, .int, .int], returnType := some .boolean }, accessFlags := 9, code := some k1c1 }
/-- com/example/forest_in_rows/forestinrows/SiblingGroupsLevelPinLaw -/
def k1 : Class := { plain "com/example/forest_in_rows/forestinrows/SiblingGroupsLevelPinLaw" (some 0) with
  accessFlags := 49
  interfaces := #[]
  cf := some (fileOf pool1 28 #[] #[{ accessFlags := 2, nameIndex := 5, descriptorIndex := 6, attributes := #[] }, { accessFlags := 9, nameIndex := 32, descriptorIndex := 33, attributes := #[] }] 49 2 #[] #[])
  fields := #[]
  methods := #[k1m0, k1m1]
  instanceTypes := #[]
  staticTypes := #[]
  resolved := Array.replicate 41 none
  statics := none }

def pool2 : Array CpInfo := pool [(1, .methodref 2 3), (0, .class_ 4), (0, .nameAndType 5 6), (0, u "java/lang/Object"), (0, u "<init>"), (0, u "()V"), (0, .class_ 8), (0, u "java/lang/Record")] 13

def k2c0 : Code := { maxStack := 1, maxLocals := 1, code := jdk_30_method_1_code, exceptionTable := #[], attributes := #[] }
def k2m0 : Method := { name := "<init>", desc := "()V", sig := { parameters := [], returnType := none }, accessFlags := 4, code := some k2c0 }
/-- java/lang/Record -/
def k2 : Class := { plain "java/lang/Record" (some 0) with
  accessFlags := 1057
  interfaces := #[]
  cf := some (fileOf pool2 7 #[] #[{ accessFlags := 4, nameIndex := 5, descriptorIndex := 6, attributes := #[] }] 1057 2 #[] #[])
  fields := #[]
  methods := #[k2m0]
  instanceTypes := #[]
  staticTypes := #[]
  resolved := Array.replicate 22 none
  statics := none }

def pool3 : Array CpInfo := pool [(1, .methodref 2 3), (0, .class_ 4), (0, .nameAndType 5 6), (0, u "java/lang/Record"), (0, u "<init>"), (0, u "()V"), (0, .fieldref 8 9), (0, .class_ 10), (0, .nameAndType 11 12), (0, u "com/example/forest_in_rows/forestinrows/SiblingGroups$Selection"), (0, u "fromRoots"), (0, u "Z"), (0, .fieldref 8 14), (0, .nameAndType 15 16), (0, u "anchors"), (0, u "Ljava/util/Set;"), (0, .fieldref 8 18), (0, .nameAndType 19 20), (0, u "nearest"), (0, u "I"), (0, .fieldref 8 22), (0, .nameAndType 23 20), (0, u "farthest"), (0, .interfaceMethodref 25 26), (0, .class_ 27), (0, .nameAndType 28 29), (0, u "java/util/Set"), (0, u "of"), (0, u "()Ljava/util/Set;"), (3, .methodref 8 34), (0, .nameAndType 5 35), (0, u "(ZLjava/util/Set;II)V"), (37, u "level"), (0, u "(I)Lcom/example/forest_in_rows/forestinrows/SiblingGroups$Selection;"), (9, u "()I"), (0, u "()Z"), (4, .class_ 91), (0, u "com/example/forest_in_rows/forestinrows/SiblingGroups")] 22

def k3c0 : Code := { maxStack := 2, maxLocals := 5, code := prog_62_method_1_code, exceptionTable := #[], attributes := #[] }
def k3m0 : Method := { name := "<init>", desc := "(ZLjava/util/Set;II)V", sig := { parameters := [.boolean, (.object "java/util/Set"), .int, .int], returnType := none }, accessFlags := 0, code := some k3c0 }
def k3c1 : Code := { maxStack := 7, maxLocals := 1, code := prog_62_method_3_code, exceptionTable := #[], attributes := #[] }
def k3m1 : Method := { name := "level", desc := "(I)Lcom/example/forest_in_rows/forestinrows/SiblingGroups$Selection;", sig := { parameters := [.int], returnType := some (.object "com/example/forest_in_rows/forestinrows/SiblingGroups$Selection") }, accessFlags := 8, code := some k3c1 }
def k3c2 : Code := { maxStack := 1, maxLocals := 1, code := prog_62_method_10_code, exceptionTable := #[], attributes := #[] }
def k3m2 : Method := { name := "fromRoots", desc := "()Z", sig := { parameters := [], returnType := some .boolean }, accessFlags := 1, code := some k3c2 }
def k3c3 : Code := { maxStack := 1, maxLocals := 1, code := prog_62_method_12_code, exceptionTable := #[], attributes := #[] }
def k3m3 : Method := { name := "nearest", desc := "()I", sig := { parameters := [], returnType := some .int }, accessFlags := 1, code := some k3c3 }
def k3c4 : Code := { maxStack := 1, maxLocals := 1, code := prog_62_method_13_code, exceptionTable := #[], attributes := #[] }
def k3m4 : Method := { name := "farthest", desc := "()I", sig := { parameters := [], returnType := some .int }, accessFlags := 1, code := some k3c4 }
/-- com/example/forest_in_rows/forestinrows/SiblingGroups$Selection -/
def k3 : Class := { plain "com/example/forest_in_rows/forestinrows/SiblingGroups$Selection" (some 2) with
  accessFlags := 48
  interfaces := #[]
  cf := some (fileOf pool3 8 #[.nestHost 90] #[{ accessFlags := 0, nameIndex := 5, descriptorIndex := 35, attributes := #[] }, { accessFlags := 8, nameIndex := 73, descriptorIndex := 74, attributes := #[] }, { accessFlags := 1, nameIndex := 11, descriptorIndex := 85, attributes := #[] }, { accessFlags := 1, nameIndex := 19, descriptorIndex := 84, attributes := #[] }, { accessFlags := 1, nameIndex := 23, descriptorIndex := 84, attributes := #[] }] 48 2 #[] #[{ accessFlags := 18, nameIndex := 11, descriptorIndex := 12, attributes := #[] }, { accessFlags := 18, nameIndex := 15, descriptorIndex := 16, attributes := #[] }, { accessFlags := 18, nameIndex := 19, descriptorIndex := 20, attributes := #[] }, { accessFlags := 18, nameIndex := 23, descriptorIndex := 20, attributes := #[] }])
  fields := #[{ name := "fromRoots", type := .boolean, accessFlags := 18, slot := 0, constantValue := 0 }, { name := "anchors", type := (.object "java/util/Set"), accessFlags := 18, slot := 1, constantValue := 0 }, { name := "nearest", type := .int, accessFlags := 18, slot := 2, constantValue := 0 }, { name := "farthest", type := .int, accessFlags := 18, slot := 3, constantValue := 0 }]
  methods := #[k3m0, k3m1, k3m2, k3m3, k3m4]
  instanceTypes := #[.boolean, (.object "java/util/Set"), .int, .int]
  staticTypes := #[]
  resolved := Array.replicate 114 none
  statics := none }

def pool4 : Array CpInfo := pool [(8, .class_ 10), (1, u "java/lang/Iterable"), (24, .class_ 36), (0, u "java/lang/Object")] 25

/-- java/lang/Iterable -/
def k4 : Class := { plain "java/lang/Iterable" (some 0) with
  accessFlags := 1537
  interfaces := #[]
  cf := some (fileOf pool4 8 #[] #[] 1537 35 #[] #[])
  fields := #[]
  methods := #[]
  instanceTypes := #[]
  staticTypes := #[]
  resolved := Array.replicate 62 none
  statics := none }

def pool5 : Array CpInfo := pool [(10, .class_ 12), (1, u "java/util/Collection"), (47, .class_ 61), (0, u "java/lang/Object"), (0, .class_ 63), (0, u "java/lang/Iterable")] 51

/-- java/util/Collection -/
def k5 : Class := { plain "java/util/Collection" (some 0) with
  accessFlags := 1537
  interfaces := #[4]
  cf := some (fileOf pool5 10 #[] #[] 1537 60 #[62] #[])
  fields := #[]
  methods := #[]
  instanceTypes := #[]
  staticTypes := #[]
  resolved := Array.replicate 115 none
  statics := none }

def pool6 : Array CpInfo := pool [(9, .fieldref 10 11), (0, .class_ 12), (0, .nameAndType 13 14), (0, u "java/util/ImmutableCollections"), (0, u "EMPTY_SET"), (0, u "Ljava/util/ImmutableCollections$SetN;"), (11, .class_ 27), (0, u "java/lang/Object"), (5, .class_ 34), (0, u "java/util/Set"), (1, .class_ 38), (1, u "java/util/Collection"), (4, u "of"), (0, u "()Ljava/util/Set;")] 99

def k6c0 : Code := { maxStack := 1, maxLocals := 0, code := jdk_96_method_17_code, exceptionTable := #[], attributes := #[] }
def k6m0 : Method := { name := "of", desc := "()Ljava/util/Set;", sig := { parameters := [], returnType := some (.object "java/util/Set") }, accessFlags := 9, code := some k6c0 }
/-- java/util/Set -/
def k6 : Class := { plain "java/util/Set" (some 0) with
  accessFlags := 1537
  interfaces := #[5]
  cf := some (fileOf pool6 33 #[] #[{ accessFlags := 9, nameIndex := 43, descriptorIndex := 44, attributes := #[] }] 1537 26 #[36] #[])
  fields := #[]
  methods := #[k6m0]
  instanceTypes := #[]
  staticTypes := #[]
  resolved := Array.replicate 144 none
  statics := none }

def pool7 : Array CpInfo := pool [(2, .class_ 4), (1, u "java/lang/Object"), (0, u "<init>"), (0, u "()V"), (3, .class_ 11), (0, u "java/util/ImmutableCollections$List12"), (0, .class_ 13), (0, u "java/util/ImmutableCollections$ListN"), (3, u "Z"), (29, .class_ 49), (1, u "java/util/ImmutableCollections"), (0, u "$assertionsDisabled"), (5, u "[Ljava/lang/Object;"), (5, u "EMPTY_LIST"), (0, u "Ljava/util/ImmutableCollections$ListN;"), (8, u "EMPTY_LIST_NULLS"), (22, u "SALT32L"), (0, u "J"), (2, u "REVERSE"), (6, u "archivedObjects"), (2, u "EMPTY"), (0, u "Ljava/lang/Object;"), (0, .class_ 112), (0, u "java/util/ImmutableCollections$SetN"), (5, u "EMPTY_SET"), (0, u "Ljava/util/ImmutableCollections$SetN;"), (0, .class_ 121), (0, u "java/util/ImmutableCollections$MapN"), (3, u "EMPTY_MAP"), (0, u "Ljava/util/ImmutableCollections$MapN;"), (4, u "EXPAND_FACTOR"), (0, u "I"), (36, .class_ 170), (0, u "java/util/ImmutableCollections$MapN$MapNIterator"), (0, .class_ 172), (0, u "java/util/ImmutableCollections$MapN$1"), (0, .class_ 174), (0, u "java/util/ImmutableCollections$Map1"), (0, .class_ 176), (0, u "java/util/ImmutableCollections$AbstractImmutableMap"), (0, .class_ 178), (0, u "java/util/ImmutableCollections$SetN$SetNIterator"), (0, .class_ 180), (0, u "java/util/ImmutableCollections$Set12"), (0, .class_ 182), (0, u "java/util/ImmutableCollections$Set12$1"), (0, .class_ 184), (0, u "java/util/ImmutableCollections$AbstractImmutableSet"), (0, .class_ 186), (0, u "java/util/ImmutableCollections$SubList"), (0, .class_ 188), (0, u "java/util/ImmutableCollections$ListItr"), (0, .class_ 190), (0, u "java/util/ImmutableCollections$AbstractImmutableList"), (0, .class_ 192), (0, u "java/util/ImmutableCollections$AbstractImmutableCollection"), (0, .class_ 194), (0, u "java/util/ImmutableCollections$Access"), (0, .class_ 196), (0, u "java/util/ImmutableCollections$Access$1")] 16

def k7m0 : Method := { name := "<init>", desc := "()V", sig := { parameters := [], returnType := none }, accessFlags := 2, code := none }
/-- java/util/ImmutableCollections -/
def k7 : Class := { plain "java/util/ImmutableCollections" (some 0) with
  accessFlags := 32
  interfaces := #[]
  cf := some (fileOf pool7 47 #[.nestMembers #[120, 169, 171, 173, 175, 111, 177, 179, 181, 183, 12, 10, 185, 187, 189, 191, 193, 195]] #[{ accessFlags := 2, nameIndex := 5, descriptorIndex := 6, attributes := #[] }] 32 2 #[] #[{ accessFlags := 26, nameIndex := 95, descriptorIndex := 96, attributes := #[] }, { accessFlags := 26, nameIndex := 99, descriptorIndex := 17, attributes := #[] }, { accessFlags := 10, nameIndex := 106, descriptorIndex := 56, attributes := #[] }, { accessFlags := 26, nameIndex := 109, descriptorIndex := 110, attributes := #[] }, { accessFlags := 24, nameIndex := 62, descriptorIndex := 63, attributes := #[] }, { accessFlags := 24, nameIndex := 72, descriptorIndex := 63, attributes := #[] }, { accessFlags := 24, nameIndex := 118, descriptorIndex := 119, attributes := #[] }, { accessFlags := 24, nameIndex := 125, descriptorIndex := 126, attributes := #[] }, { accessFlags := 24, nameIndex := 131, descriptorIndex := 132, attributes := #[] }, { accessFlags := 4120, nameIndex := 50, descriptorIndex := 17, attributes := #[] }])
  fields := #[{ name := "SALT32L", type := .long, accessFlags := 26, slot := 0, constantValue := 0 }, { name := "REVERSE", type := .boolean, accessFlags := 26, slot := 1, constantValue := 0 }, { name := "archivedObjects", type := (.array (.object "java/lang/Object")), accessFlags := 10, slot := 2, constantValue := 0 }, { name := "EMPTY", type := (.object "java/lang/Object"), accessFlags := 26, slot := 3, constantValue := 0 }, { name := "EMPTY_LIST", type := (.object "java/util/ImmutableCollections$ListN"), accessFlags := 24, slot := 4, constantValue := 0 }, { name := "EMPTY_LIST_NULLS", type := (.object "java/util/ImmutableCollections$ListN"), accessFlags := 24, slot := 5, constantValue := 0 }, { name := "EMPTY_SET", type := (.object "java/util/ImmutableCollections$SetN"), accessFlags := 24, slot := 6, constantValue := 0 }, { name := "EMPTY_MAP", type := (.object "java/util/ImmutableCollections$MapN"), accessFlags := 24, slot := 7, constantValue := 0 }, { name := "EXPAND_FACTOR", type := .int, accessFlags := 24, slot := 8, constantValue := 0 }, { name := "$assertionsDisabled", type := .boolean, accessFlags := 4120, slot := 9, constantValue := 0 }]
  methods := #[k7m0]
  instanceTypes := #[]
  staticTypes := #[.long, .boolean, (.array (.object "java/lang/Object")), (.object "java/lang/Object"), (.object "java/util/ImmutableCollections$ListN"), (.object "java/util/ImmutableCollections$ListN"), (.object "java/util/ImmutableCollections$SetN"), (.object "java/util/ImmutableCollections$MapN"), .int, .boolean]
  resolved := Array.replicate 213 none
  statics := some 0 }

def pool8 : Array CpInfo := pool [(2, .class_ 4), (1, u "java/lang/Object"), (0, u "<init>"), (0, u "()V"), (1, .class_ 10), (1, u "java/util/AbstractCollection"), (66, .class_ 78), (0, u "java/util/Collection")] 81

def k8m0 : Method := { name := "<init>", desc := "()V", sig := { parameters := [], returnType := none }, accessFlags := 4, code := none }
/-- java/util/AbstractCollection -/
def k8 : Class := { plain "java/util/AbstractCollection" (some 0) with
  accessFlags := 1057
  interfaces := #[5]
  cf := some (fileOf pool8 8 #[] #[{ accessFlags := 4, nameIndex := 5, descriptorIndex := 6, attributes := #[] }] 1057 2 #[77] #[])
  fields := #[]
  methods := #[k8m0]
  instanceTypes := #[]
  staticTypes := #[]
  resolved := Array.replicate 160 none
  statics := none }

def pool9 : Array CpInfo := pool [(2, .class_ 4), (1, u "java/util/AbstractCollection"), (0, u "<init>"), (0, u "()V"), (1, .class_ 10), (1, u "java/util/ImmutableCollections"), (2, .class_ 14), (0, u "java/util/ImmutableCollections$AbstractImmutableCollection")] 41

def k9m0 : Method := { name := "<init>", desc := "()V", sig := { parameters := [], returnType := none }, accessFlags := 0, code := none }
/-- java/util/ImmutableCollections$AbstractImmutableCollection -/
def k9 : Class := { plain "java/util/ImmutableCollections$AbstractImmutableCollection" (some 8) with
  accessFlags := 1056
  interfaces := #[]
  cf := some (fileOf pool9 13 #[.nestHost 8] #[{ accessFlags := 0, nameIndex := 5, descriptorIndex := 6, attributes := #[] }] 1056 2 #[] #[])
  fields := #[]
  methods := #[k9m0]
  instanceTypes := #[]
  staticTypes := #[]
  resolved := Array.replicate 56 none
  statics := none }

def pool10 : Array CpInfo := pool [(2, .class_ 4), (1, u "java/util/ImmutableCollections$AbstractImmutableCollection"), (0, u "<init>"), (0, u "()V"), (0, .class_ 8), (0, u "java/util/Set"), (7, .class_ 17), (0, u "java/util/ImmutableCollections$AbstractImmutableSet"), (43, .class_ 62), (0, u "java/util/ImmutableCollections")] 3

def k10m0 : Method := { name := "<init>", desc := "()V", sig := { parameters := [], returnType := none }, accessFlags := 0, code := none }
/-- java/util/ImmutableCollections$AbstractImmutableSet -/
def k10 : Class := { plain "java/util/ImmutableCollections$AbstractImmutableSet" (some 9) with
  accessFlags := 1056
  interfaces := #[6]
  cf := some (fileOf pool10 16 #[.nestHost 61] #[{ accessFlags := 0, nameIndex := 5, descriptorIndex := 6, attributes := #[] }] 1056 2 #[7] #[])
  fields := #[]
  methods := #[k10m0]
  instanceTypes := #[]
  staticTypes := #[]
  resolved := Array.replicate 66 none
  statics := none }

def pool11 : Array CpInfo := pool [(1, .class_ 2), (0, u "java/io/Serializable"), (0, .class_ 4), (0, u "java/lang/Object")] 2

/-- java/io/Serializable -/
def k11 : Class := { plain "java/io/Serializable" (some 0) with
  accessFlags := 1537
  interfaces := #[]
  cf := some (fileOf pool11 1 #[] #[] 1537 3 #[] #[])
  fields := #[]
  methods := #[]
  instanceTypes := #[]
  staticTypes := #[]
  resolved := Array.replicate 7 none
  statics := none }

def pool12 : Array CpInfo := pool [(1, .class_ 2), (0, u "java/util/ImmutableCollections"), (1, .class_ 6), (1, u "java/util/ImmutableCollections$AbstractImmutableSet"), (3, .class_ 12), (1, u "java/util/ImmutableCollections$SetN"), (0, u "size"), (0, u "I"), (4, u "elements"), (0, u "[Ljava/lang/Object;"), (86, .class_ 108), (0, u "java/io/Serializable")] 59

/-- java/util/ImmutableCollections$SetN -/
def k12 : Class := { plain "java/util/ImmutableCollections$SetN" (some 10) with
  accessFlags := 48
  interfaces := #[11]
  cf := some (fileOf pool12 10 #[.nestHost 1] #[] 48 4 #[107] #[{ accessFlags := 16, nameIndex := 19, descriptorIndex := 20, attributes := #[] }, { accessFlags := 16, nameIndex := 13, descriptorIndex := 14, attributes := #[] }])
  fields := #[{ name := "elements", type := (.array (.object "java/lang/Object")), accessFlags := 16, slot := 0, constantValue := 0 }, { name := "size", type := .int, accessFlags := 16, slot := 1, constantValue := 0 }]
  methods := #[]
  instanceTypes := #[(.array (.object "java/lang/Object")), .int]
  staticTypes := #[]
  resolved := Array.replicate 168 none
  statics := none }

def pool13 : Array CpInfo := pool [(1, u "java/lang/Cloneable"), (0, .class_ 1), (0, u "java/lang/Object"), (0, .class_ 3)] 3

/-- java/lang/Cloneable -/
def k13 : Class := { plain "java/lang/Cloneable" (some 0) with
  accessFlags := 1537
  interfaces := #[]
  cf := some (fileOf pool13 2 #[] #[] 1537 4 #[] #[])
  fields := #[]
  methods := #[]
  instanceTypes := #[]
  staticTypes := #[]
  resolved := Array.replicate 8 none
  statics := none }

/-- the primitive byte -/
def k14 : Class := { plain "byte" none with kind := .primitive 'B', accessFlags := 0x411 }
/-- [B -/
def k15 : Class := { plain "[B" (some 0) with kind := .array 14 .byte, interfaces := #[13, 11], accessFlags := 1041 }

/-- the primitive int -/
def k16 : Class := { plain "int" none with kind := .primitive 'I', accessFlags := 0x411 }
/-- [I -/
def k17 : Class := { plain "[I" (some 0) with kind := .array 16 .int, interfaces := #[13, 11], accessFlags := 1041 }

/-- [Ljava/lang/Object; -/
def k18 : Class := { plain "[Ljava/lang/Object;" (some 0) with kind := .array 0 (.object "java/lang/Object"), interfaces := #[13, 11], accessFlags := 1041 }

def heap : Heap := #[{ cls := 7, slots := #[.long 0, .int 0, .null, .null, .null, .null, .ref 2, .null, .int 0, .int 0], vm := .statics 7 },
  { cls := 18, slots := #[], vm := .none },
  { cls := 12, slots := #[.ref 1, .int 0], vm := .none }]
def classes : Array Class := #[k0, k1, k2, k3, k4, k5, k6, k7, k8, k9, k10, k11, k12, k13, k14, k15, k16, k17, k18]
def interned : List (Array UInt16 × Addr) := []
def slotsUsed : Nat := 12
def theMethod : MethodId := ⟨1, 1⟩
def args0 : Array Value := #[.int 5, .int 6, .int 1]
def aboutOver (below : List Frame) : State where
  vm := { classes := classes, interned := interned.toArray }
  heap := heap
  slotsUsed := slotsUsed
  threads := #[{ frames := .invoking theMethod args0 :: below }]
def below0 : List Frame := [.native { method := ⟨0, 0⟩, args := #[] }]
def about1 : State := aboutOver below0
def p0 : Program := .bare "" "" ""
def e0 : Env := launch0.env 0 0 0
theorem w_frames : about1.frames = Frame.invoking theMethod args0 :: below0 := rfl
set_option maxRecDepth 65536 in
theorem w_args : argsFit about1.vm theMethod args0 = true := by decide +kernel
set_option maxRecDepth 65536 in
theorem w_heap : heapFits about1 = true := by decide +kernel
set_option maxRecDepth 65536 in
theorem w_runnable : about1.curStatus? = some .runnable := by decide +kernel
set_option maxRecDepth 65536 in
theorem w_alone : about1.alone = true := by decide +kernel
set_option maxRecDepth 65536 in
theorem w_named : about1.methodNamed? x = some theMethod := by decide +kernel
set_option maxRecDepth 65536 in
theorem w_hears : about1.hears theMethod below0 = true := by decide +kernel
set_option maxRecDepth 65536 in
theorem w_ripe : about1.ripe theMethod args0 below0 = true := by decide +kernel
theorem w_running : about1.status = .running := rfl
set_option maxRecDepth 65536 in
theorem w_room : about1.hasRoom e0.platform room_1 = true :=
  launch0.hasRoom_least _ room_1 (by decide +kernel) (by decide +kernel) (by decide +kernel) (by decide +kernel) (by decide +kernel) (by decide +kernel)
theorem allAtoms_all (ts : List Jvm.Cond) (a : Array Jvm.Value) (st : Jvm.State) : (allAtoms ts).before a st = ts.all (fun c => c.before a st) := by
  induction ts with
  | nil => rfl
  | cons c t ih =>
    show (Jvm.Cond.and c (allAtoms t)).before a st = _
    rw [Jvm.Cond.before_and, ih, List.all_cons]
def words1 : List Jvm.Cond := Jvm.Cond.code x code maxLocals ret :: tables_1
/-- a 'code' word, met by the world's own term for the bytes: nothing is compared byte by byte -/
theorem code_word {y : MethodName} {bytes : ByteArray} {mx : Nat} {rt : Option FieldType} {a : Array Value} {s : State} {m : MethodId} {meth : Method} {c : Code} (h1 : s.methodNamed? y = some m) (h2 : s.vm.method? m = some meth) (h3 : meth.code = some c) (h4 : c.code = bytes)
    (h5 : (c.maxLocals == mx && c.exceptionTable.isEmpty && decide (c.maxStack ≤ mostOperands) && decide (meth.sig.returnType = rt) && !meth.locks && decide (parseMethodDescriptor y.desc = some meth.sig)) = true) : (Jvm.Cond.code y bytes mx rt).before a s = true := by
  simp only [Bool.and_eq_true, beq_iff_eq, Bool.not_eq_true', decide_eq_true_eq] at h5
  obtain ⟨⟨⟨⟨⟨g1, g2⟩, g3⟩, g4⟩, g5⟩, g6⟩ := h5
  simp [Cond.before, Cond.holds, Cond.value, h1, h2, h3, h4, g1, g2, g3, g4, g5, g6]
def isCode : Jvm.Cond → Bool
  | .code _ _ _ _ => true
  | _ => false
theorem all_split {L : List Jvm.Cond} {P : Jvm.Cond → Bool} (h1 : L.all (fun c => isCode c || P c) = true) (h2 : ∀ c ∈ L.filter isCode, P c = true) : L.all P = true := by
  refine List.all_eq_true.mpr fun c hc => ?_
  have h := List.all_eq_true.mp h1 c hc
  rcases Bool.eq_false_or_eq_true (isCode c) with hi | hi
  · exact h2 c (List.mem_filter.mpr ⟨hc, hi⟩)
  · simpa [hi] using h
set_option maxRecDepth 65536 in
theorem w_c0 : (Jvm.Cond.code x code maxLocals ret).before args0 about1 = true := code_word (m := ⟨1, 1⟩) (meth := k1m1) (c := k1c1) (by decide +kernel) rfl rfl rfl (by decide +kernel)
set_option maxRecDepth 65536 in
theorem w_c1 : (Jvm.Cond.code ({ cls := "com/example/forest_in_rows/forestinrows/SiblingGroups$Selection", name := "level", desc := "(I)Lcom/example/forest_in_rows/forestinrows/SiblingGroups$Selection;" } : Jvm.MethodName) prog_62_method_3_code (1 : Nat) (Option.some (Jvm.ClassFile.FieldType.object "com/example/forest_in_rows/forestinrows/SiblingGroups$Selection"))).before args0 about1 = true := code_word (m := ⟨3, 1⟩) (meth := k3m1) (c := k3c1) (by decide +kernel) rfl rfl rfl (by decide +kernel)
set_option maxRecDepth 65536 in
theorem w_c2 : (Jvm.Cond.code ({ cls := "java/util/Set", name := "of", desc := "()Ljava/util/Set;" } : Jvm.MethodName) jdk_96_method_17_code (0 : Nat) (Option.some (Jvm.ClassFile.FieldType.object "java/util/Set"))).before args0 about1 = true := code_word (m := ⟨6, 0⟩) (meth := k6m0) (c := k6c0) (by decide +kernel) rfl rfl rfl (by decide +kernel)
set_option maxRecDepth 65536 in
theorem w_c3 : (Jvm.Cond.code ({ cls := "com/example/forest_in_rows/forestinrows/SiblingGroups$Selection", name := "<init>", desc := "(ZLjava/util/Set;II)V" } : Jvm.MethodName) prog_62_method_1_code (5 : Nat) (Option.none : Option Jvm.ClassFile.FieldType)).before args0 about1 = true := code_word (m := ⟨3, 0⟩) (meth := k3m0) (c := k3c0) (by decide +kernel) rfl rfl rfl (by decide +kernel)
set_option maxRecDepth 65536 in
theorem w_c4 : (Jvm.Cond.code ({ cls := "java/lang/Record", name := "<init>", desc := "()V" } : Jvm.MethodName) jdk_30_method_1_code (1 : Nat) (Option.none : Option Jvm.ClassFile.FieldType)).before args0 about1 = true := code_word (m := ⟨2, 0⟩) (meth := k2m0) (c := k2c0) (by decide +kernel) rfl rfl rfl (by decide +kernel)
set_option maxRecDepth 65536 in
theorem w_c5 : (Jvm.Cond.code ({ cls := "java/lang/Object", name := "<init>", desc := "()V" } : Jvm.MethodName) object_method_1_code (1 : Nat) (Option.none : Option Jvm.ClassFile.FieldType)).before args0 about1 = true := code_word (m := ⟨0, 0⟩) (meth := k0m0) (c := k0c0) (by decide +kernel) rfl rfl rfl (by decide +kernel)
set_option maxRecDepth 65536 in
theorem w_c6 : (Jvm.Cond.code ({ cls := "com/example/forest_in_rows/forestinrows/SiblingGroups$Selection", name := "nearest", desc := "()I" } : Jvm.MethodName) prog_62_method_12_code (1 : Nat) (Option.some Jvm.ClassFile.FieldType.int)).before args0 about1 = true := code_word (m := ⟨3, 3⟩) (meth := k3m3) (c := k3c3) (by decide +kernel) rfl rfl rfl (by decide +kernel)
set_option maxRecDepth 65536 in
theorem w_c7 : (Jvm.Cond.code ({ cls := "com/example/forest_in_rows/forestinrows/SiblingGroups$Selection", name := "farthest", desc := "()I" } : Jvm.MethodName) prog_62_method_13_code (1 : Nat) (Option.some Jvm.ClassFile.FieldType.int)).before args0 about1 = true := code_word (m := ⟨3, 4⟩) (meth := k3m4) (c := k3c4) (by decide +kernel) rfl rfl rfl (by decide +kernel)
set_option maxRecDepth 65536 in
theorem w_c8 : (Jvm.Cond.code ({ cls := "com/example/forest_in_rows/forestinrows/SiblingGroups$Selection", name := "fromRoots", desc := "()Z" } : Jvm.MethodName) prog_62_method_10_code (1 : Nat) (Option.some Jvm.ClassFile.FieldType.boolean)).before args0 about1 = true := code_word (m := ⟨3, 2⟩) (meth := k3m2) (c := k3c2) (by decide +kernel) rfl rfl rfl (by decide +kernel)
def codes1 : List Jvm.Cond := [Jvm.Cond.code x code maxLocals ret, Jvm.Cond.code ({ cls := "com/example/forest_in_rows/forestinrows/SiblingGroups$Selection", name := "level", desc := "(I)Lcom/example/forest_in_rows/forestinrows/SiblingGroups$Selection;" } : Jvm.MethodName) prog_62_method_3_code (1 : Nat) (Option.some (Jvm.ClassFile.FieldType.object "com/example/forest_in_rows/forestinrows/SiblingGroups$Selection")), Jvm.Cond.code ({ cls := "java/util/Set", name := "of", desc := "()Ljava/util/Set;" } : Jvm.MethodName) jdk_96_method_17_code (0 : Nat) (Option.some (Jvm.ClassFile.FieldType.object "java/util/Set")), Jvm.Cond.code ({ cls := "com/example/forest_in_rows/forestinrows/SiblingGroups$Selection", name := "<init>", desc := "(ZLjava/util/Set;II)V" } : Jvm.MethodName) prog_62_method_1_code (5 : Nat) (Option.none : Option Jvm.ClassFile.FieldType), Jvm.Cond.code ({ cls := "java/lang/Record", name := "<init>", desc := "()V" } : Jvm.MethodName) jdk_30_method_1_code (1 : Nat) (Option.none : Option Jvm.ClassFile.FieldType), Jvm.Cond.code ({ cls := "java/lang/Object", name := "<init>", desc := "()V" } : Jvm.MethodName) object_method_1_code (1 : Nat) (Option.none : Option Jvm.ClassFile.FieldType), Jvm.Cond.code ({ cls := "com/example/forest_in_rows/forestinrows/SiblingGroups$Selection", name := "nearest", desc := "()I" } : Jvm.MethodName) prog_62_method_12_code (1 : Nat) (Option.some Jvm.ClassFile.FieldType.int), Jvm.Cond.code ({ cls := "com/example/forest_in_rows/forestinrows/SiblingGroups$Selection", name := "farthest", desc := "()I" } : Jvm.MethodName) prog_62_method_13_code (1 : Nat) (Option.some Jvm.ClassFile.FieldType.int), Jvm.Cond.code ({ cls := "com/example/forest_in_rows/forestinrows/SiblingGroups$Selection", name := "fromRoots", desc := "()Z" } : Jvm.MethodName) prog_62_method_10_code (1 : Nat) (Option.some Jvm.ClassFile.FieldType.boolean)]
set_option maxRecDepth 65536 in
theorem codes_eq : words1.filter isCode = codes1 := rfl
theorem w_codes : ∀ c ∈ words1.filter isCode, c.before args0 about1 = true := by
  rw [codes_eq]
  intro c hc
  simp only [codes1, List.mem_cons, List.not_mem_nil, or_false] at hc
  rcases hc with rfl | rfl | rfl | rfl | rfl | rfl | rfl | rfl | rfl
  · exact w_c0
  · exact w_c1
  · exact w_c2
  · exact w_c3
  · exact w_c4
  · exact w_c5
  · exact w_c6
  · exact w_c7
  · exact w_c8
set_option maxRecDepth 65536 in
theorem w_t1 : (words1.take 24).all (fun c => isCode c || c.before args0 about1) = true := by decide +kernel
set_option maxRecDepth 65536 in
theorem w_t2 : ((words1.drop 24).take 24).all (fun c => isCode c || c.before args0 about1) = true := by decide +kernel
set_option maxRecDepth 65536 in
theorem w_t3 : ((words1.drop 24).drop 24).all (fun c => isCode c || c.before args0 about1) = true := by decide +kernel
theorem w_tables : (allAtoms (Jvm.Cond.code x code maxLocals ret :: tables_1)).before args0 about1 = true := by
  rw [allAtoms_all]
  show words1.all (fun c => c.before args0 about1) = true
  refine all_split ?_ w_codes
  rw [← List.take_append_drop 24 words1, List.all_append, w_t1, ← List.take_append_drop 24 (words1.drop 24), List.all_append, w_t2, w_t3]
  rfl
set_option maxRecDepth 65536 in
theorem w_rest : rest_1_c.before args0 about1 = true := by decide +kernel
set_option maxRecDepth 65536 in
theorem w_case : (Jvm.Cond.and given_1 narrow_1).before args0 about1 = true := by decide +kernel
theorem w_applies : (headSpec (Jvm.Cond.code x code maxLocals ret :: tables_1) room_1).applies x e0.platform about1 = true :=
  (Spec.applies_iff w_frames).mpr ⟨w_running, w_runnable, w_alone, w_named, w_hears, w_ripe, w_room, w_tables⟩
theorem atStart : AtStart classFile x code maxLocals ret World_1 tables_1 room_1 Calls_1 rest_1 Pre_1 launch0 p0 e0 about1 theMethod args0 below0 :=
  ⟨lists_1, trivial, launch0.admits_env _ _ _, launch0.least_env, fairChoices_fair.cas, fairChoices_fair.clock, w_frames, w_args, w_heap, w_applies, trivial, w_rest, w_case⟩
end start1
theorem witness_1 : WitnessClaimed_1 := ⟨start1.p0, start1.e0, start1.about1, start1.theMethod, start1.args0, start1.below0, start1.atStart⟩
end Jvm.Pilot.@@N@@
