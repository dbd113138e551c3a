import JvmDerived
import JvmDerived.Pilot.@@N@@Statement
import JvmDerived.Pilot.@@N@@Code
set_option linter.unusedVariables false
set_option linter.unusedSimpArgs false
namespace Jvm.RoadKit
open Sem ClassFile Op Lib Jvm.Stand Jvm.Free Jvm.LawKit
section New
variable {p : Program} {l : Launch} {e : Env} {R : Room} {s : State} {m : MethodId} {args : Array Value} {below : List Frame} {meth : Method} {c : Code} {T : State} {locs : List Loc} {cells slots : Nat}
theorem retI (X : Stand p l e R s m args below meth c T locs cells slots) (hx : p.tables.exec = Jvm.exec) {pc : Nat} {Ls : Array Slot} {z : Int32} {rest : List Value} (hret : meth.sig.returnType = some .int) (hd : decode c.code pc = .ok (.ireturn, 1)) {fs : List Frame}
    (hl : ∀ (f : JFrame) (acts : List Action), f.method = m → f.locked = none → f.entered = [] → (doReturn e (T.setTop f) acts (some (.int z))).1 = T.setFrames fs) : Steps p.tables e below (T.setTop (mkF m pc Ls (.int z :: rest))) (T.setFrames fs) := by
  have hm' : T.vm.method? m = some meth := X.method'
  have hn : narrow .int (.int z) = .int z := rfl
  show Steps p.tables e below (T.setTop { method := m, pc := pc, locals := Ls, stack := _ :: rest, locked := none }) _
  jvm_step X.here [X.here.top, hx, hd, hm', hret, hn]
  first | (intro acts; rw [hl _ acts rfl rfl rfl]) | rw [hl _ _ rfl rfl rfl]
  exact Steps.refl _
theorem own_retJ (X : Stand p l e R s m args below meth c T locs cells slots) (hx : p.tables.exec = Jvm.exec) {pc : Nat} {Ls : Array Slot} {z : Int64} {rest : List Value} (hret : meth.sig.returnType = some .long) (hd : decode c.code pc = .ok (.lreturn, 1)) {fs : List Frame}
    (hl : ∀ (f : JFrame) (acts : List Action), f.method = m → f.locked = none → f.entered = [] → (doReturn e (T.setTop f) acts (some (.long z))).1 = T.setFrames fs) : Steps p.tables e below (T.setTop (mkF m pc Ls (.long z :: rest))) (T.setFrames fs) := by
  have hm' : T.vm.method? m = some meth := X.method'
  show Steps p.tables e below (T.setTop { method := m, pc := pc, locals := Ls, stack := _ :: rest, locked := none }) _
  jvm_step X.here [X.here.top, hx, hd, hm', hret, narrow]
  first | (intro acts; rw [hl _ acts rfl rfl rfl]) | rw [hl _ _ rfl rfl rfl]
  exact Steps.refl _
theorem own_retD (X : Stand p l e R s m args below meth c T locs cells slots) (hx : p.tables.exec = Jvm.exec) {pc : Nat} {Ls : Array Slot} {z : UInt64} {rest : List Value} (hret : meth.sig.returnType = some .double) (hd : decode c.code pc = .ok (.dreturn, 1)) {fs : List Frame}
    (hl : ∀ (f : JFrame) (acts : List Action), f.method = m → f.locked = none → f.entered = [] → (doReturn e (T.setTop f) acts (some (.double z))).1 = T.setFrames fs) : Steps p.tables e below (T.setTop (mkF m pc Ls (.double z :: rest))) (T.setFrames fs) := by
  have hm' : T.vm.method? m = some meth := X.method'
  show Steps p.tables e below (T.setTop { method := m, pc := pc, locals := Ls, stack := _ :: rest, locked := none }) _
  jvm_step X.here [X.here.top, hx, hd, hm', hret, narrow]
  first | (intro acts; rw [hl _ acts rfl rfl rfl]) | rw [hl _ _ rfl rfl rfl]
  exact Steps.refl _
/-- from T, with the frame g on top, the run comes to an end of the kind that Q tells; Fe: the frame of that end -/
def Goes (p : Program) (e : Env) (below : List Frame) (s : State) (Fe : State → Outcome → State → List Loc → Nat → Nat → Prop) (kc ks : Nat) (Q : Option Value → Heap → List Loc → Prop) (T : State) (g : JFrame) : Prop :=
  ∃ s₂ o, Steps p.tables e below (T.setTop g) s₂ ∧ s₂.status = .running ∧ Ended s₂ below o ∧ ∃ v L, o = .returned v ∧ Q v s₂.heap L ∧ Fe s o s₂ L kc ks
/-- a wide end that keeps the invariant of the held constants -/
def HeldEnd (Z : State) (EL : List (String × Nat)) (s : State) (o : Outcome) (t : State) (L : List Loc) (k n : Nat) : Prop := CHr Z EL s.vm s.heap t.vm t.heap ∧ ReturnedEndW s o t L k n
variable {kc ks : Nat} {Q : Option Value → Heap → List Loc → Prop} {T' : State} {Fe : State → Outcome → State → List Loc → Nat → Nat → Prop}
theorem Goes.go {g g' : JFrame} (h : ∀ t, Steps p.tables e below (T'.setTop g') t → Steps p.tables e below (T.setTop g) t) (k : Goes p e below s Fe kc ks Q T' g') : Goes p e below s Fe kc ks Q T g := by
  obtain ⟨s₂, o, h1, h2⟩ := k
  exact ⟨s₂, o, h _ h1, h2⟩
theorem Goes.to {g : JFrame} (g' : JFrame) (h : ∀ t, Steps p.tables e below (T'.setTop g') t → Steps p.tables e below (T.setTop g) t) (k : Goes p e below s Fe kc ks Q T' g') : Goes p e below s Fe kc ks Q T g := k.go h
theorem Goes.cast {g g' : JFrame} (q : g = g') (k : Goes p e below s Fe kc ks Q T g') : Goes p e below s Fe kc ks Q T g := q ▸ k
theorem Goes.retN (X : Stand p l e R s m args below meth c T locs cells slots) (hx : p.tables.exec = Jvm.exec) (hlk : meth.locks = false) {pc : Nat} {Ls : Array Slot} {z : Int32} {t : FieldType} {rest : List Value} (hret : meth.sig.returnType = some t) (ht : t = .boolean ∨ t = .byte ∨ t = .char ∨ t = .short) (hd : decode c.code pc = .ok (.ireturn, 1)) (hc : cells ≤ kc) (hs : slots ≤ ks) (hQ : Q (some (.int (nar t z))) T.heap locs) : Goes p e below s FrameEnd kc ks Q T (mkF m pc Ls (.int z :: rest)) := by
  obtain ⟨fs, hr, hrun, hended, hW, hsame⟩ := X.leave (v := some (.int (nar t z))) (fun h => by rw [hret] at h; cases h) hlk
  exact ⟨_, _, RoadKit.retN X hx hret ht hd hr, hrun, hended, _, _, rfl, hQ, ⟨_, rfl⟩, hW, hsame.mono hc hs⟩
theorem Goes.retNW {vm1 : Vm} {k0 : Nat} (X : Stand p l e R (s.setVm vm1) m args below meth c T locs cells slots) (hx : p.tables.exec = Jvm.exec) (hlk : meth.locks = false) (hS : s.Since vm1 k0) (hk : k0 ≤ T.heap.size) {pc : Nat} {Ls : Array Slot} {z : Int32} {t : FieldType} {rest : List Value} (hret : meth.sig.returnType = some t) (ht : t = .boolean ∨ t = .byte ∨ t = .char ∨ t = .short) (hd : decode c.code pc = .ok (.ireturn, 1)) (hc : cells ≤ kc) (hs : slots ≤ ks) (hQ : Q (some (.int (nar t z))) T.heap locs) : Goes p e below s ReturnedEndW kc ks Q T (mkF m pc Ls (.int z :: rest)) := by
  obtain ⟨fs, hr, hrun, hended, h1, h2, h3, hsame⟩ := X.leaveW hS hk (v := some (.int (nar t z))) (fun h => by rw [hret] at h; cases h) hlk
  exact ⟨_, _, RoadKit.retN X hx hret ht hd hr, hrun, hended, _, _, rfl, hQ, h1, h2, h3, hsame.mono hc hs⟩
theorem Goes.retI (X : Stand p l e R s m args below meth c T locs cells slots) (hx : p.tables.exec = Jvm.exec) (hlk : meth.locks = false) {pc : Nat} {Ls : Array Slot} {z : Int32} {rest : List Value} (hret : meth.sig.returnType = some .int) (hd : decode c.code pc = .ok (.ireturn, 1)) (hc : cells ≤ kc) (hs : slots ≤ ks) (hQ : Q (some (.int z)) T.heap locs) : Goes p e below s FrameEnd kc ks Q T (mkF m pc Ls (.int z :: rest)) := by
  obtain ⟨fs, hr, hrun, hended, hW, hsame⟩ := X.leave (v := some (.int z)) (fun h => by rw [hret] at h; cases h) hlk
  exact ⟨_, _, RoadKit.retI X hx hret hd hr, hrun, hended, _, _, rfl, hQ, ⟨_, rfl⟩, hW, hsame.mono hc hs⟩
theorem Goes.retIW {vm1 : Vm} {k0 : Nat} (X : Stand p l e R (s.setVm vm1) m args below meth c T locs cells slots) (hx : p.tables.exec = Jvm.exec) (hlk : meth.locks = false) (hS : s.Since vm1 k0) (hk : k0 ≤ T.heap.size) {pc : Nat} {Ls : Array Slot} {z : Int32} {rest : List Value} (hret : meth.sig.returnType = some .int) (hd : decode c.code pc = .ok (.ireturn, 1)) (hc : cells ≤ kc) (hs : slots ≤ ks) (hQ : Q (some (.int z)) T.heap locs) : Goes p e below s ReturnedEndW kc ks Q T (mkF m pc Ls (.int z :: rest)) := by
  obtain ⟨fs, hr, hrun, hended, h1, h2, h3, hsame⟩ := X.leaveW hS hk (v := some (.int z)) (fun h => by rw [hret] at h; cases h) hlk
  exact ⟨_, _, RoadKit.retI X hx hret hd hr, hrun, hended, _, _, rfl, hQ, h1, h2, h3, hsame.mono hc hs⟩
theorem Goes.retJ (X : Stand p l e R s m args below meth c T locs cells slots) (hx : p.tables.exec = Jvm.exec) (hlk : meth.locks = false) {pc : Nat} {Ls : Array Slot} {z : Int64} {rest : List Value} (hret : meth.sig.returnType = some .long) (hd : decode c.code pc = .ok (.lreturn, 1)) (hc : cells ≤ kc) (hs : slots ≤ ks) (hQ : Q (some (.long z)) T.heap locs) : Goes p e below s FrameEnd kc ks Q T (mkF m pc Ls (.long z :: rest)) := by
  obtain ⟨fs, hr, hrun, hended, hW, hsame⟩ := X.leave (v := some (.long z)) (fun h => by rw [hret] at h; cases h) hlk
  exact ⟨_, _, own_retJ X hx hret hd hr, hrun, hended, _, _, rfl, hQ, ⟨_, rfl⟩, hW, hsame.mono hc hs⟩
theorem Goes.retJW {vm1 : Vm} {k0 : Nat} (X : Stand p l e R (s.setVm vm1) m args below meth c T locs cells slots) (hx : p.tables.exec = Jvm.exec) (hlk : meth.locks = false) (hS : s.Since vm1 k0) (hk : k0 ≤ T.heap.size) {pc : Nat} {Ls : Array Slot} {z : Int64} {rest : List Value} (hret : meth.sig.returnType = some .long) (hd : decode c.code pc = .ok (.lreturn, 1)) (hc : cells ≤ kc) (hs : slots ≤ ks) (hQ : Q (some (.long z)) T.heap locs) : Goes p e below s ReturnedEndW kc ks Q T (mkF m pc Ls (.long z :: rest)) := by
  obtain ⟨fs, hr, hrun, hended, h1, h2, h3, hsame⟩ := X.leaveW hS hk (v := some (.long z)) (fun h => by rw [hret] at h; cases h) hlk
  exact ⟨_, _, own_retJ X hx hret hd hr, hrun, hended, _, _, rfl, hQ, h1, h2, h3, hsame.mono hc hs⟩
theorem Goes.retD (X : Stand p l e R s m args below meth c T locs cells slots) (hx : p.tables.exec = Jvm.exec) (hlk : meth.locks = false) {pc : Nat} {Ls : Array Slot} {z : UInt64} {rest : List Value} (hret : meth.sig.returnType = some .double) (hd : decode c.code pc = .ok (.dreturn, 1)) (hc : cells ≤ kc) (hs : slots ≤ ks) (hQ : Q (some (.double z)) T.heap locs) : Goes p e below s FrameEnd kc ks Q T (mkF m pc Ls (.double z :: rest)) := by
  obtain ⟨fs, hr, hrun, hended, hW, hsame⟩ := X.leave (v := some (.double z)) (fun h => by rw [hret] at h; cases h) hlk
  exact ⟨_, _, own_retD X hx hret hd hr, hrun, hended, _, _, rfl, hQ, ⟨_, rfl⟩, hW, hsame.mono hc hs⟩
theorem Goes.retDW {vm1 : Vm} {k0 : Nat} (X : Stand p l e R (s.setVm vm1) m args below meth c T locs cells slots) (hx : p.tables.exec = Jvm.exec) (hlk : meth.locks = false) (hS : s.Since vm1 k0) (hk : k0 ≤ T.heap.size) {pc : Nat} {Ls : Array Slot} {z : UInt64} {rest : List Value} (hret : meth.sig.returnType = some .double) (hd : decode c.code pc = .ok (.dreturn, 1)) (hc : cells ≤ kc) (hs : slots ≤ ks) (hQ : Q (some (.double z)) T.heap locs) : Goes p e below s ReturnedEndW kc ks Q T (mkF m pc Ls (.double z :: rest)) := by
  obtain ⟨fs, hr, hrun, hended, h1, h2, h3, hsame⟩ := X.leaveW hS hk (v := some (.double z)) (fun h => by rw [hret] at h; cases h) hlk
  exact ⟨_, _, own_retD X hx hret hd hr, hrun, hended, _, _, rfl, hQ, h1, h2, h3, hsame.mono hc hs⟩
theorem Goes.retA (X : Stand p l e R s m args below meth c T locs cells slots) (hx : p.tables.exec = Jvm.exec) (hlk : meth.locks = false) {pc : Nat} {Ls : Array Slot} {w : Value} {t : FieldType} (hw : w.isRef = true) (hret : meth.sig.returnType = some t) (ht : t.isReference = true) (hd : decode c.code pc = .ok (.areturn, 1)) (hc : cells ≤ kc) (hs : slots ≤ ks) (hQ : Q (some w) T.heap locs) : Goes p e below s FrameEnd kc ks Q T (mkF m pc Ls [w]) := by
  obtain ⟨fs, hr, hrun, hended, hW, hsame⟩ := X.leave (v := some w) (fun h => by rw [hret] at h; cases h) hlk
  exact ⟨_, _, X.areturnOut hx hw hret ht hd hr, hrun, hended, _, _, rfl, hQ, ⟨_, rfl⟩, hW, hsame.mono hc hs⟩
theorem Goes.retAW {vm1 : Vm} {k0 : Nat} (X : Stand p l e R (s.setVm vm1) m args below meth c T locs cells slots) (hx : p.tables.exec = Jvm.exec) (hlk : meth.locks = false) (hS : s.Since vm1 k0) (hk : k0 ≤ T.heap.size) {pc : Nat} {Ls : Array Slot} {w : Value} {t : FieldType} (hw : w.isRef = true) (hret : meth.sig.returnType = some t) (ht : t.isReference = true) (hd : decode c.code pc = .ok (.areturn, 1)) (hc : cells ≤ kc) (hs : slots ≤ ks) (hQ : Q (some w) T.heap locs) : Goes p e below s ReturnedEndW kc ks Q T (mkF m pc Ls [w]) := by
  obtain ⟨fs, hr, hrun, hended, h1, h2, h3, hsame⟩ := X.leaveW hS hk (v := some w) (fun h => by rw [hret] at h; cases h) hlk
  exact ⟨_, _, X.areturnOut hx hw hret ht hd hr, hrun, hended, _, _, rfl, hQ, h1, h2, h3, hsame.mono hc hs⟩
theorem Goes.retV (X : Stand p l e R s m args below meth c T locs cells slots) (hx : p.tables.exec = Jvm.exec) (hlk : meth.locks = false) {pc : Nat} {Ls : Array Slot} (hret : meth.sig.returnType = none) (hd : decode c.code pc = .ok (.return_, 1)) (hc : cells ≤ kc) (hs : slots ≤ ks) (hQ : Q (none) T.heap locs) : Goes p e below s FrameEnd kc ks Q T (mkF m pc Ls []) := by
  obtain ⟨fs, hr, hrun, hended, hW, hsame⟩ := X.leave (v := none) (fun _ => rfl) hlk
  exact ⟨_, _, X.returnOut hx hret hd hr, hrun, hended, _, _, rfl, hQ, ⟨_, rfl⟩, hW, hsame.mono hc hs⟩
theorem Goes.retVW {vm1 : Vm} {k0 : Nat} (X : Stand p l e R (s.setVm vm1) m args below meth c T locs cells slots) (hx : p.tables.exec = Jvm.exec) (hlk : meth.locks = false) (hS : s.Since vm1 k0) (hk : k0 ≤ T.heap.size) {pc : Nat} {Ls : Array Slot} (hret : meth.sig.returnType = none) (hd : decode c.code pc = .ok (.return_, 1)) (hc : cells ≤ kc) (hs : slots ≤ ks) (hQ : Q (none) T.heap locs) : Goes p e below s ReturnedEndW kc ks Q T (mkF m pc Ls []) := by
  obtain ⟨fs, hr, hrun, hended, h1, h2, h3, hsame⟩ := X.leaveW hS hk (v := none) (fun _ => rfl) hlk
  exact ⟨_, _, X.returnOut hx hret hd hr, hrun, hended, _, _, rfl, hQ, h1, h2, h3, hsame.mono hc hs⟩
theorem Goes.retNH {vm1 : Vm} {k0 : Nat} {Z : State} {a0 : Array Value} {EL : List (String × Nat)} (X : Stand p l e R (s.setVm vm1) m args below meth c T locs cells slots) (hx : p.tables.exec = Jvm.exec) (hlk : meth.locks = false) (hS : s.Since vm1 k0) (hk : k0 ≤ T.heap.size) (hZ : Z.Warmed39 vm1) (hEL : EW Z a0 EL) (C : CHr Z EL s.vm s.heap vm1 T.heap) {pc : Nat} {Ls : Array Slot} {z : Int32} {t : FieldType} {rest : List Value} (hret : meth.sig.returnType = some t) (ht : t = .boolean ∨ t = .byte ∨ t = .char ∨ t = .short) (hd : decode c.code pc = .ok (.ireturn, 1)) (hc : cells ≤ kc) (hs : slots ≤ ks) (hQ : Q (some (.int (nar t z))) T.heap locs) : Goes p e below s (HeldEnd Z EL) kc ks Q T (mkF m pc Ls (.int z :: rest)) := by
  obtain ⟨fs, hr, hrun, hended, h1, h2, h3, hsame⟩ := X.leaveW hS hk (v := some (.int (nar t z))) (fun h => by rw [hret] at h; cases h) hlk
  exact ⟨_, _, RoadKit.retN X hx hret ht hd hr, hrun, hended, _, _, rfl, hQ, C.trans (CHv.at (T := T) X hZ hEL C.1), h1, h2, h3, hsame.mono hc hs⟩
theorem Goes.retIH {vm1 : Vm} {k0 : Nat} {Z : State} {a0 : Array Value} {EL : List (String × Nat)} (X : Stand p l e R (s.setVm vm1) m args below meth c T locs cells slots) (hx : p.tables.exec = Jvm.exec) (hlk : meth.locks = false) (hS : s.Since vm1 k0) (hk : k0 ≤ T.heap.size) (hZ : Z.Warmed39 vm1) (hEL : EW Z a0 EL) (C : CHr Z EL s.vm s.heap vm1 T.heap) {pc : Nat} {Ls : Array Slot} {z : Int32} {rest : List Value} (hret : meth.sig.returnType = some .int) (hd : decode c.code pc = .ok (.ireturn, 1)) (hc : cells ≤ kc) (hs : slots ≤ ks) (hQ : Q (some (.int z)) T.heap locs) : Goes p e below s (HeldEnd Z EL) kc ks Q T (mkF m pc Ls (.int z :: rest)) := by
  obtain ⟨fs, hr, hrun, hended, h1, h2, h3, hsame⟩ := X.leaveW hS hk (v := some (.int z)) (fun h => by rw [hret] at h; cases h) hlk
  exact ⟨_, _, RoadKit.retI X hx hret hd hr, hrun, hended, _, _, rfl, hQ, C.trans (CHv.at (T := T) X hZ hEL C.1), h1, h2, h3, hsame.mono hc hs⟩
theorem Goes.retAH {vm1 : Vm} {k0 : Nat} {Z : State} {a0 : Array Value} {EL : List (String × Nat)} (X : Stand p l e R (s.setVm vm1) m args below meth c T locs cells slots) (hx : p.tables.exec = Jvm.exec) (hlk : meth.locks = false) (hS : s.Since vm1 k0) (hk : k0 ≤ T.heap.size) (hZ : Z.Warmed39 vm1) (hEL : EW Z a0 EL) (C : CHr Z EL s.vm s.heap vm1 T.heap) {pc : Nat} {Ls : Array Slot} {w : Value} {t : FieldType} (hw : w.isRef = true) (hret : meth.sig.returnType = some t) (ht : t.isReference = true) (hd : decode c.code pc = .ok (.areturn, 1)) (hc : cells ≤ kc) (hs : slots ≤ ks) (hQ : Q (some w) T.heap locs) : Goes p e below s (HeldEnd Z EL) kc ks Q T (mkF m pc Ls [w]) := by
  obtain ⟨fs, hr, hrun, hended, h1, h2, h3, hsame⟩ := X.leaveW hS hk (v := some w) (fun h => by rw [hret] at h; cases h) hlk
  exact ⟨_, _, X.areturnOut hx hw hret ht hd hr, hrun, hended, _, _, rfl, hQ, C.trans (CHv.at (T := T) X hZ hEL C.1), h1, h2, h3, hsame.mono hc hs⟩
theorem Goes.retVH {vm1 : Vm} {k0 : Nat} {Z : State} {a0 : Array Value} {EL : List (String × Nat)} (X : Stand p l e R (s.setVm vm1) m args below meth c T locs cells slots) (hx : p.tables.exec = Jvm.exec) (hlk : meth.locks = false) (hS : s.Since vm1 k0) (hk : k0 ≤ T.heap.size) (hZ : Z.Warmed39 vm1) (hEL : EW Z a0 EL) (C : CHr Z EL s.vm s.heap vm1 T.heap) {pc : Nat} {Ls : Array Slot} (hret : meth.sig.returnType = none) (hd : decode c.code pc = .ok (.return_, 1)) (hc : cells ≤ kc) (hs : slots ≤ ks) (hQ : Q (none) T.heap locs) : Goes p e below s (HeldEnd Z EL) kc ks Q T (mkF m pc Ls []) := by
  obtain ⟨fs, hr, hrun, hended, h1, h2, h3, hsame⟩ := X.leaveW hS hk (v := none) (fun _ => rfl) hlk
  exact ⟨_, _, X.returnOut hx hret hd hr, hrun, hended, _, _, rfl, hQ, C.trans (CHv.at (T := T) X hZ hEL C.1), h1, h2, h3, hsame.mono hc hs⟩
end New
/-- a boolean as the machine holds it -/
def bit (P : Prop) [Decidable P] : Int32 := if P then 1 else 0
theorem bit_t {P : Prop} [Decidable P] (h : P) : bit P = 1 := if_pos h
theorem bit_f {P : Prop} [Decidable P] (h : ¬ P) : bit P = 0 := if_neg h
theorem nar_bit (P : Prop) [Decidable P] : nar .boolean (bit P) = bit P := by unfold bit; split <;> rfl
theorem bit_ne {P : Prop} [Decidable P] : ¬ bit P = 0 ↔ P := by unfold bit; split <;> simp_all
theorem bit_eq {P R : Prop} [Decidable P] [Decidable R] : bit P = bit R ↔ (P ↔ R) := by unfold bit; split <;> split <;> simp_all
theorem own_selPriv {Z s : State} {a0 args : Array Value} {y : MethodName} {n : Nat} (hZ : Z.Warmed39 s.vm) (wi : (Cond.instantiable y.cls n).before a0 Z = true) (wp : (Cond.privateMethod y).before a0 Z = true) (wm : (Cond.instanceMethod y).before a0 Z = true) (hy : y.cls ≠ "java/lang/invoke/MethodHandle" ∧ y.cls ≠ "java/lang/invoke/VarHandle") : (Cond.selects y.cls y y).before args s = true := by
  obtain ⟨c, k, h1, h2, h3, h4, -⟩ := Cond.instantiable_spec (mv hZ wi : (Cond.instantiable y.cls n).before args s = true)
  exact selects_self_of_private h1 h2 (Bool.or_eq_false_iff.mp h4).1 (Cond.privateMethod_at (mvP hZ wp (args := args))) (mv hZ wm) hy
theorem own_fldI {s : State} {args : Array Value} {t : Term} {a : Addr} {C n d : String} {k : Int32} (ev : t.eval args s none [] s = some (.ref a)) (h : (Jvm.Cond.eq (Term.field t C n d) (Term.int k)).value args s none s [] = some true) : Fld s s.heap a C n d (.int k) := by
  obtain ⟨x, y, h1, h2, h3, h4⟩ := cmp_v (Or.inl h)
  obtain rfl : Value.int k = y := Option.some.inj h2
  obtain ⟨z, rfl⟩ := h4
  have q : z = k := by simpa [Cond.value, h1, h2] using h
  subst q
  exact Fld.start ((fld_at ev).symm.trans h1)
end Jvm.RoadKit
namespace Jvm.Pilot.@@N@@
open Jvm Jvm.ClassFile Sem Op Lib Jvm.Free Jvm.Stand Jvm.LawKit Jvm.RoadKit Bundle Jvm.Pilot.@@N@@.Jvm.D
theorem pn_com_example_marktide_marktide_engine_HourlyAverage : plainName "com/example/marktide/marktide/engine/HourlyAverage" = true := by first | (simp [plainName, overriddenIn]; done) | decide +kernel
theorem ef_rm_init (m : MethodId) (x0 : Addr) : entryFrame m #[(.ref x0)] 1 = mkF m 0 #[.val (.ref x0)] [] := by first | (simp [entryFrame, mkF, argsToLocals, Value.category]; done) | rfl
def Q_rm_init (Z : State) (a : Addr) (u : Int64) (h0 : Heap) (n0 : Nat) (v : Option Value) (h : Heap) (L : List Loc) : Prop := v = none ∧ Fr n0 L ∧ Keep h0 h [a] ∧ Exa Z h a "com/example/marktide/marktide/engine/HourlyAverage" ∧ Fld Z h a "com/example/marktide/marktide/engine/HourlyAverage" "through" "J" (.long (-9223372036854775808)) ∧ Fld Z h a "com/example/marktide/marktide/engine/HourlyAverage" "lastClosing" "Ljava/math/BigDecimal;" .null ∧ Fld Z h a "com/example/marktide/marktide/engine/HourlyAverage" "weighted" "Lcom/example/marktide/marktide/engine/Sum;" .null
theorem d1_0 : decode prog_11_method_1_code 0 = .ok (.aload_n 0, 1) := by decide +kernel
theorem d1_1 : decode prog_11_method_1_code 1 = .ok (.invokespecial 1, 3) := by decide +kernel
theorem d1_4 : decode prog_11_method_1_code 4 = .ok (.aload_n 0, 1) := by decide +kernel
theorem d1_5 : decode prog_11_method_1_code 5 = .ok (.ldc2_w 9, 3) := by decide +kernel
theorem d1_8 : decode prog_11_method_1_code 8 = .ok (.putfield 11, 3) := by decide +kernel
theorem d1_11 : decode prog_11_method_1_code 11 = .ok (.return_, 1) := by decide +kernel
set_option maxRecDepth 65536 in
set_option maxHeartbeats 40000000 in
theorem rm_init (l : Launch) (Z : State) (a0 : Array Value) (hw : ∀ d ∈ tables_1, d.before a0 Z = true) (ws : List Jvm.Cond) (a : Addr) (u : Int64) (h0 : Heap) (n0 : Nat) (O : Old Z n0 h0) (F_through_a : Fld Z h0 a "com/example/marktide/marktide/engine/HourlyAverage" "through" "J" (.long u)) (F_lastClosing_a : Fld Z h0 a "com/example/marktide/marktide/engine/HourlyAverage" "lastClosing" "Ljava/math/BigDecimal;" .null) (F_weighted_a : Fld Z h0 a "com/example/marktide/marktide/engine/HourlyAverage" "weighted" "Lcom/example/marktide/marktide/engine/Sum;" .null) (E_a : Exa Z h0 a "com/example/marktide/marktide/engine/HourlyAverage") (g_a : n0 ≤ a) :
    MetFree l (⟨"com/example/marktide/marktide/engine/HourlyAverage", "<init>", "()V"⟩ : MethodName) (head1 (Jvm.Cond.code (⟨"com/example/marktide/marktide/engine/HourlyAverage", "<init>", "()V"⟩ : MethodName) prog_11_method_1_code 1 none :: ws) ({ frames := 1, cells := 0, slots := 0, locals := 12 } : Room)) (fun aa U => aa = #[(.ref a)] ∧ Z.Warmed39 U.vm ∧ U.heap = h0) (fun _ _ _ _ _ => True) (fun _ U o U' => ∃ v L, o = .returned v ∧ Q_rm_init Z a u h0 n0 v U'.heap L ∧ FrameEnd U o U' L ({ frames := 1, cells := 0, slots := 0, locals := 12 } : Room).cells ({ frames := 1, cells := 0, slots := 0, locals := 12 } : Room).slots) := by
  refine MetFree.of_bodySF (plainFor_of_name pn_com_example_marktide_marktide_engine_HourlyAverage) hisR ?_
  intro p e s m args below meth c s₁ Bd hml0 hP hK
  obtain ⟨rfl, hZ, hh⟩ := hP
  have hx := Bd.exec
  have hby := Bd.bytes
  have hml : c.maxLocals = 1 := hml0
  have hown : s.vm.findClass "com/example/marktide/marktide/engine/HourlyAverage" = some m.cls := findClass_of_methodNamed Bd.named
  have hnm := (name_of_methodNamed Bd.named Bd.method).1
  have X0 : Stand p l e ({ frames := 1, cells := 0, slots := 0, locals := 12 } : Room) s m #[(.ref a)] below meth c s₁ [] 0 0 := Stand.of_body Bd
  have e0 : s₁.heap = h0 := by rw [← hh, Bd.state]; rfl
  have N0 := Fr.nil n0
  have K : Keep h0 h0 [a] := Keep.refl _ _
  show Goes p e below s FrameEnd ({ frames := 1, cells := 0, slots := 0, locals := 12 } : Room).cells ({ frames := 1, cells := 0, slots := 0, locals := 12 } : Room).slots (Q_rm_init Z a u h0 n0) s₁ (entryFrame m #[(.ref a)] 1)
  refine Goes.cast (ef_rm_init m a) ?_
  refine Goes.to (T' := s₁) (mkF m 1 #[.val (.ref a)] [(.ref a)]) (fun t k => XS.aloadN X0.here hx rfl (hb hby d1_0) rfl rfl k) ?_
  obtain ⟨T1, X1, e1, st1⟩ := initO X0 hx hZ hown (hw _ (List.mem_of_getElem? (i := 6) rfl)) (hw _ (List.mem_of_getElem? (i := 7) rfl)) (hw _ (List.mem_of_getElem? (i := 8) rfl)) e0 (g := (mkF m 1 #[.val (.ref a)] [(.ref a)])) rfl (by rw [hml]; rfl) rfl (hb hby d1_1) (by decide) (W := 0) (by show 2 * 0 + _ ≤ _; exact Nat.le_of_eq rfl) (by decide)
  refine Goes.to (T' := T1) (mkF m 4 #[.val (.ref a)] []) st1 ?_
  refine Goes.to (T' := T1) (mkF m 5 #[.val (.ref a)] [(.ref a)]) (fun t k => XS.aloadN X1.here hx rfl (hb hby d1_4) rfl rfl k) ?_
  refine Goes.to (T' := T1) (mkF m 8 #[.val (.ref a)] [(.long (-9223372036854775808 : Int64)), (.ref a)]) (fun t k => X1.ldc2Long hx hown (mvT hZ (hw _ (List.mem_of_getElem? (i := 9) rfl))) (g := (mkF m 5 #[.val (.ref a)] [(.ref a)])) rfl (hb hby d1_5) _ k) ?_
  obtain ⟨T2, h2, X2, e2, W2, st2⟩ := putF X1 hx hZ hown (host := "") (Or.inl (hw _ (List.mem_of_getElem? (i := 10) rfl))) Via.refl e1 F_through_a E_a (Or.inl (hw _ (List.mem_of_getElem? (i := 11) rfl))) (hw _ (List.mem_of_getElem? (i := 1) rfl)) (ty := .long) (by decide) rfl rfl (g := (mkF m 8 #[.val (.ref a)] [(.long (-9223372036854775808 : Int64)), (.ref a)])) rfl rfl (hb hby d1_8)
  replace E_a := E_a.wr W2
  replace F_through_a := F_through_a.same W2
  replace F_lastClosing_a := F_lastClosing_a.other W2 (Or.inr (slot_ne (Or.inl (hw _ (List.mem_of_getElem? (i := 26) rfl))) (Or.inl (hw _ (List.mem_of_getElem? (i := 11) rfl))) (by decide) (t := (.object "java/math/BigDecimal")) (t' := .long) (by decide) (by decide)))
  replace F_weighted_a := F_weighted_a.other W2 (Or.inr (slot_ne (Or.inl (hw _ (List.mem_of_getElem? (i := 28) rfl))) (Or.inl (hw _ (List.mem_of_getElem? (i := 11) rfl))) (by decide) (t := (.object "com/example/marktide/marktide/engine/Sum")) (t' := .long) (by decide) (by decide)))
  replace O := O.wr W2 g_a
  replace K := K.wr W2 (Or.inl (by simp))
  have N2 := Fr.snoc X2 N0 g_a
  refine Goes.to (T' := T2) (mkF m 11 #[.val (.ref a)] []) st2 ?_
  refine Goes.retV X2 hx Bd.notSynchronized Bd.returns (hb hby d1_11) (by decide) (by decide) ?_
  rw [e2]
  exact ⟨rfl, N2, K, E_a, F_through_a, F_lastClosing_a, F_weighted_a⟩
def own_max (x y : Int64) : Int64 := if x < y then y else x
theorem ef_rm_max (m : MethodId) (x0 : Int64) (x1 : Int64) : entryFrame m #[(.long x0), (.long x1)] 4 = mkF m 0 #[.val (.long x0), .second, .val (.long x1), .second] [] := by first | (simp [entryFrame, mkF, argsToLocals, Value.category]; done) | rfl
def Q_rm_max (Z : State) (q1 q2 : Int64) (h0 : Heap) (n0 : Nat) (v : Option Value) (h : Heap) (L : List Loc) : Prop := v = some (.long (own_max q1 q2)) ∧ Fr n0 L ∧ h = h0
theorem d3_0 : decode jdk_29_method_66_code 0 = .ok (.lload_n 0, 1) := by decide +kernel
theorem d3_1 : decode jdk_29_method_66_code 1 = .ok (.lload_n 2, 1) := by decide +kernel
theorem d3_2 : decode jdk_29_method_66_code 2 = .ok (.lcmp, 1) := by decide +kernel
theorem d3_3 : decode jdk_29_method_66_code 3 = .ok (.ifCond .lt 7, 3) := by decide +kernel
theorem d3_10 : decode jdk_29_method_66_code 10 = .ok (.lload_n 2, 1) := by decide +kernel
theorem d3_11 : decode jdk_29_method_66_code 11 = .ok (.lreturn, 1) := by decide +kernel
theorem d3_6 : decode jdk_29_method_66_code 6 = .ok (.lload_n 0, 1) := by decide +kernel
theorem d3_7 : decode jdk_29_method_66_code 7 = .ok (.goto 4, 3) := by decide +kernel
set_option maxRecDepth 65536 in
set_option maxHeartbeats 40000000 in
theorem rm_max (l : Launch) (Z : State) (a0 : Array Value) (hw : ∀ d ∈ tables_1, d.before a0 Z = true) (ws : List Jvm.Cond) (q1 q2 : Int64) (h0 : Heap) (n0 : Nat) (O : Old Z n0 h0) :
    MetFree l (⟨"java/lang/Math", "max", "(JJ)J"⟩ : MethodName) (head1 (Jvm.Cond.code (⟨"java/lang/Math", "max", "(JJ)J"⟩ : MethodName) jdk_29_method_66_code 4 (some .long) :: ws) ({ frames := 0, cells := 0, slots := 0, locals := 0 } : Room)) (fun aa U => aa = #[(.long q1), (.long q2)] ∧ Z.Warmed39 U.vm ∧ U.heap = h0) (fun _ _ _ _ _ => True) (fun _ U o U' => ∃ v L, o = .returned v ∧ Q_rm_max Z q1 q2 h0 n0 v U'.heap L ∧ FrameEnd U o U' L ({ frames := 0, cells := 0, slots := 0, locals := 0 } : Room).cells ({ frames := 0, cells := 0, slots := 0, locals := 0 } : Room).slots) := by
  refine MetFree.of_bodySF (Jvm.Free.JP.mathPlain rfl (by decide +kernel)) hisR ?_
  intro p e s m args below meth c s₁ Bd hml0 hP hK
  obtain ⟨rfl, hZ, hh⟩ := hP
  have hx := Bd.exec
  have hby := Bd.bytes
  have hml : c.maxLocals = 4 := hml0
  have hown : s.vm.findClass "java/lang/Math" = some m.cls := findClass_of_methodNamed Bd.named
  have hnm := (name_of_methodNamed Bd.named Bd.method).1
  have X0 : Stand p l e ({ frames := 0, cells := 0, slots := 0, locals := 0 } : Room) s m #[(.long q1), (.long q2)] below meth c s₁ [] 0 0 := Stand.of_body Bd
  have e0 : s₁.heap = h0 := by rw [← hh, Bd.state]; rfl
  have N0 := Fr.nil n0
  show Goes p e below s FrameEnd ({ frames := 0, cells := 0, slots := 0, locals := 0 } : Room).cells ({ frames := 0, cells := 0, slots := 0, locals := 0 } : Room).slots (Q_rm_max Z q1 q2 h0 n0) s₁ (entryFrame m #[(.long q1), (.long q2)] 4)
  refine Goes.cast (ef_rm_max m q1 q2) ?_
  refine Goes.to (T' := s₁) (mkF m 1 #[.val (.long q1), .second, .val (.long q2), .second] [(.long q1)]) (fun t k => XS.lloadN X0.here hx rfl (hb hby d3_0) rfl k) ?_
  refine Goes.to (T' := s₁) (mkF m 2 #[.val (.long q1), .second, .val (.long q2), .second] [(.long q2), (.long q1)]) (fun t k => XS.lloadN X0.here hx rfl (hb hby d3_1) rfl k) ?_
  refine Goes.to (T' := s₁) (mkF m 3 #[.val (.long q1), .second, .val (.long q2), .second] [(.int (lcmpW q1 q2))]) (fun t k => XS.lcmp X0.here hx rfl (hb hby d3_2) rfl k) ?_
  by_cases hc3_1 : (lcmpW q1 q2) < (0 : Int32)
  · refine Goes.to (T' := s₁) (mkF m 10 #[.val (.long q1), .second, .val (.long q2), .second] []) (fun t k => XS.ifYes X0.here hx rfl (pc0 := 3) (pc' := 10) rfl (hb hby d3_3) rfl ((if0 _ _).trans (tlt hc3_1).1) (by decide) (by decide) k) ?_
    refine Goes.to (T' := s₁) (mkF m 11 #[.val (.long q1), .second, .val (.long q2), .second] [(.long q2)]) (fun t k => XS.lloadN X0.here hx rfl (hb hby d3_10) rfl k) ?_
    refine Goes.retJ X0 hx Bd.notSynchronized Bd.returns (hb hby d3_11) (by decide) (by decide) ?_
    rw [e0]
    exact ⟨by rw [own_max, if_pos ((lw_lt q1 q2).mp hc3_1)], N0, rfl⟩
  · refine Goes.to (T' := s₁) (mkF m 6 #[.val (.long q1), .second, .val (.long q2), .second] []) (fun t k => XS.ifNo X0.here hx rfl (hb hby d3_3) rfl ((if0 _ _).trans (flt hc3_1).1) k) ?_
    refine Goes.to (T' := s₁) (mkF m 7 #[.val (.long q1), .second, .val (.long q2), .second] [(.long q1)]) (fun t k => XS.lloadN X0.here hx rfl (hb hby d3_6) rfl k) ?_
    refine Goes.to (T' := s₁) (mkF m 11 #[.val (.long q1), .second, .val (.long q2), .second] [(.long q1)]) (fun t k => XS.goto X0.here hx rfl (pc0 := 7) (pc' := 11) rfl (hb hby d3_7) (by decide) (by decide) k) ?_
    refine Goes.retJ X0 hx Bd.notSynchronized Bd.returns (hb hby d3_11) (by decide) (by decide) ?_
    rw [e0]
    exact ⟨by rw [own_max, if_neg (fun z => hc3_1 ((lw_lt q1 q2).mpr z))], N0, rfl⟩
theorem ef_rm_noHour (m : MethodId) (x0 : Addr) (x1 : Int64) : entryFrame m #[(.ref x0), (.long x1)] 5 = mkF m 0 #[.val (.ref x0), .val (.long x1), .second, .unset, .unset] [] := by first | (simp [entryFrame, mkF, argsToLocals, Value.category]; done) | rfl
def Q_rm_noHour (Z : State) (a : Addr) (q : Int64) (h0 : Heap) (n0 : Nat) (v : Option Value) (h : Heap) (L : List Loc) : Prop := v = none ∧ Fr n0 L ∧ h = h0
theorem d5_0 : decode prog_11_method_6_code 0 = .ok (.aload_n 0, 1) := by decide +kernel
theorem d5_1 : decode prog_11_method_6_code 1 = .ok (.getfield 65, 3) := by decide +kernel
theorem d5_4 : decode prog_11_method_6_code 4 = .ok (.ifnonnull 4, 3) := by decide +kernel
theorem d5_7 : decode prog_11_method_6_code 7 = .ok (.return_, 1) := by decide +kernel
set_option maxRecDepth 65536 in
set_option maxHeartbeats 40000000 in
theorem rm_noHour (l : Launch) (Z : State) (a0 : Array Value) (hw : ∀ d ∈ tables_1, d.before a0 Z = true) (ws : List Jvm.Cond) (a : Addr) (q : Int64) (h0 : Heap) (n0 : Nat) (O : Old Z n0 h0) (F_lastClosing_a : Fld Z h0 a "com/example/marktide/marktide/engine/HourlyAverage" "lastClosing" "Ljava/math/BigDecimal;" .null) :
    MetFree l (⟨"com/example/marktide/marktide/engine/HourlyAverage", "requireNoHourWithoutSample", "(J)V"⟩ : MethodName) (head1 (Jvm.Cond.code (⟨"com/example/marktide/marktide/engine/HourlyAverage", "requireNoHourWithoutSample", "(J)V"⟩ : MethodName) prog_11_method_6_code 5 none :: ws) ({ frames := 0, cells := 0, slots := 0, locals := 0 } : Room)) (fun aa U => aa = #[(.ref a), (.long q)] ∧ Z.Warmed39 U.vm ∧ U.heap = h0) (fun _ _ _ _ _ => True) (fun _ U o U' => ∃ v L, o = .returned v ∧ Q_rm_noHour Z a q h0 n0 v U'.heap L ∧ FrameEnd U o U' L ({ frames := 0, cells := 0, slots := 0, locals := 0 } : Room).cells ({ frames := 0, cells := 0, slots := 0, locals := 0 } : Room).slots) := by
  refine MetFree.of_bodySF (plainFor_of_name pn_com_example_marktide_marktide_engine_HourlyAverage) hisR ?_
  intro p e s m args below meth c s₁ Bd hml0 hP hK
  obtain ⟨rfl, hZ, hh⟩ := hP
  have hx := Bd.exec
  have hby := Bd.bytes
  have hml : c.maxLocals = 5 := hml0
  have hown : s.vm.findClass "com/example/marktide/marktide/engine/HourlyAverage" = some m.cls := findClass_of_methodNamed Bd.named
  have hnm := (name_of_methodNamed Bd.named Bd.method).1
  have X0 : Stand p l e ({ frames := 0, cells := 0, slots := 0, locals := 0 } : Room) s m #[(.ref a), (.long q)] below meth c s₁ [] 0 0 := Stand.of_body Bd
  have e0 : s₁.heap = h0 := by rw [← hh, Bd.state]; rfl
  have N0 := Fr.nil n0
  show Goes p e below s FrameEnd ({ frames := 0, cells := 0, slots := 0, locals := 0 } : Room).cells ({ frames := 0, cells := 0, slots := 0, locals := 0 } : Room).slots (Q_rm_noHour Z a q h0 n0) s₁ (entryFrame m #[(.ref a), (.long q)] 5)
  refine Goes.cast (ef_rm_noHour m a q) ?_
  refine Goes.to (T' := s₁) (mkF m 1 #[.val (.ref a), .val (.long q), .second, .unset, .unset] [(.ref a)]) (fun t k => XS.aloadN X0.here hx rfl (hb hby d5_0) rfl rfl k) ?_
  obtain ⟨T1, X1, e1, st1⟩ := getF X0 hx hZ hown (host := "") (Or.inl (hw _ (List.mem_of_getElem? (i := 25) rfl))) Via.refl e0 F_lastClosing_a (g := (mkF m 1 #[.val (.ref a), .val (.long q), .second, .unset, .unset] [(.ref a)])) rfl rfl (hb hby d5_1)
  refine Goes.to (T' := T1) (mkF m 4 #[.val (.ref a), .val (.long q), .second, .unset, .unset] [.null]) st1 ?_
  refine Goes.to (T' := T1) (mkF m 7 #[.val (.ref a), .val (.long q), .second, .unset, .unset] []) (fun t k => XS.ifnonnullNo X1.here hx rfl (hb hby d5_4) rfl k) ?_
  refine Goes.retV X1 hx Bd.notSynchronized Bd.returns (hb hby d5_7) (by decide) (by decide) ?_
  rw [e1]
  exact ⟨rfl, N0, rfl⟩
theorem pn_java_util_Optional : plainName "java/util/Optional" = true := by first | (simp [plainName, overriddenIn]; done) | decide +kernel
theorem ef_rm_empty (m : MethodId)  : entryFrame m #[] 1 = mkF m 0 #[.unset] [] := by first | (simp [entryFrame, mkF, argsToLocals, Value.category]; done) | rfl
def Q_rm_empty (Z : State) (em : Addr) (h0 : Heap) (n0 : Nat) (v : Option Value) (h : Heap) (L : List Loc) : Prop := v = some (.ref em) ∧ Fr n0 L ∧ h = h0
theorem d6_0 : decode jdk_32_method_1_code 0 = .ok (.getstatic 1, 3) := by decide +kernel
theorem d6_3 : decode jdk_32_method_1_code 3 = .ok (.astore_n 0, 1) := by decide +kernel
theorem d6_4 : decode jdk_32_method_1_code 4 = .ok (.aload_n 0, 1) := by decide +kernel
theorem d6_5 : decode jdk_32_method_1_code 5 = .ok (.areturn, 1) := by decide +kernel
set_option maxRecDepth 65536 in
set_option maxHeartbeats 40000000 in
theorem rm_empty (l : Launch) (Z : State) (a0 : Array Value) (hw : ∀ d ∈ tables_1, d.before a0 Z = true) (ws : List Jvm.Cond) (em : Addr) (h0 : Heap) (n0 : Nat) (O : Old Z n0 h0) (S_EMPTY : Sta Z Z.heap "java/util/Optional" "EMPTY" "Ljava/util/Optional;" (.ref em)) :
    MetFree l (⟨"java/util/Optional", "empty", "()Ljava/util/Optional;"⟩ : MethodName) (head1 (Jvm.Cond.code (⟨"java/util/Optional", "empty", "()Ljava/util/Optional;"⟩ : MethodName) jdk_32_method_1_code 1 (some (.object "java/util/Optional")) :: ws) ({ frames := 0, cells := 0, slots := 0, locals := 0 } : Room)) (fun aa U => aa = #[] ∧ Z.Warmed39 U.vm ∧ U.heap = h0) (fun _ _ _ _ _ => True) (fun _ U o U' => ∃ v L, o = .returned v ∧ Q_rm_empty Z em h0 n0 v U'.heap L ∧ FrameEnd U o U' L ({ frames := 0, cells := 0, slots := 0, locals := 0 } : Room).cells ({ frames := 0, cells := 0, slots := 0, locals := 0 } : Room).slots) := by
  refine MetFree.of_bodySF (plainFor_of_name pn_java_util_Optional) hisR ?_
  intro p e s m args below meth c s₁ Bd hml0 hP hK
  obtain ⟨rfl, hZ, hh⟩ := hP
  have hx := Bd.exec
  have hby := Bd.bytes
  have hml : c.maxLocals = 1 := hml0
  have hown : s.vm.findClass "java/util/Optional" = some m.cls := findClass_of_methodNamed Bd.named
  have hnm := (name_of_methodNamed Bd.named Bd.method).1
  have X0 : Stand p l e ({ frames := 0, cells := 0, slots := 0, locals := 0 } : Room) s m #[] below meth c s₁ [] 0 0 := Stand.of_body Bd
  have e0 : s₁.heap = h0 := by rw [← hh, Bd.state]; rfl
  have N0 := Fr.nil n0
  show Goes p e below s FrameEnd ({ frames := 0, cells := 0, slots := 0, locals := 0 } : Room).cells ({ frames := 0, cells := 0, slots := 0, locals := 0 } : Room).slots (Q_rm_empty Z em h0 n0) s₁ (entryFrame m #[] 1)
  refine Goes.cast (ef_rm_empty m ) ?_
  obtain ⟨T1, X1, e1, st1⟩ := getS2 X0 hx hZ hown (host := "") (Or.inl (hw _ (List.mem_of_getElem? (i := 33) rfl))) Via.refl e0 (S_EMPTY.ext O.2) (g := (mkF m 0 #[.unset] [])) rfl (hb hby d6_0)
  refine Goes.to (T' := T1) (mkF m 3 #[.unset] [(.ref em)]) st1 ?_
  refine Goes.to (T' := T1) (mkF m 4 #[.val (.ref em)] []) (fun t k => XS.astoreN X1.here hx rfl (hb hby d6_3) rfl rfl (l' := #[.val (.ref em)]) rfl k) ?_
  refine Goes.to (T' := T1) (mkF m 5 #[.val (.ref em)] [(.ref em)]) (fun t k => XS.aloadN X1.here hx rfl (hb hby d6_4) rfl rfl k) ?_
  refine Goes.retA X1 hx Bd.notSynchronized rfl Bd.returns rfl (hb hby d6_5) (by decide) (by decide) ?_
  rw [e1]
  exact ⟨rfl, N0, rfl⟩
theorem ef_rm_close (m : MethodId) (x0 : Addr) (x1 : Int64) : entryFrame m #[(.ref x0), (.long x1)] 3 = mkF m 0 #[.val (.ref x0), .val (.long x1), .second] [] := by first | (simp [entryFrame, mkF, argsToLocals, Value.category]; done) | rfl
def Q_rm_close (Z : State) (a : Addr) (q u : Int64) (em : Addr) (h0 : Heap) (n0 : Nat) (v : Option Value) (h : Heap) (L : List Loc) : Prop := v = some (.ref em) ∧ Fr n0 L ∧ Keep h0 h [a] ∧ Fld Z h a "com/example/marktide/marktide/engine/HourlyAverage" "through" "J" (.long q) ∧ Fld Z h a "com/example/marktide/marktide/engine/HourlyAverage" "lastClosing" "Ljava/math/BigDecimal;" .null ∧ Fld Z h a "com/example/marktide/marktide/engine/HourlyAverage" "weighted" "Lcom/example/marktide/marktide/engine/Sum;" .null
theorem d4_0 : decode prog_11_method_4_code 0 = .ok (.lload_n 1, 1) := by decide +kernel
theorem d4_1 : decode prog_11_method_4_code 1 = .ok (.aload_n 0, 1) := by decide +kernel
theorem d4_2 : decode prog_11_method_4_code 2 = .ok (.getfield 11, 3) := by decide +kernel
theorem d4_5 : decode prog_11_method_4_code 5 = .ok (.lcmp, 1) := by decide +kernel
theorem d4_6 : decode prog_11_method_4_code 6 = .ok (.ifCond .ge 33, 3) := by decide +kernel
theorem d4_39 : decode prog_11_method_4_code 39 = .ok (.aload_n 0, 1) := by decide +kernel
theorem d4_40 : decode prog_11_method_4_code 40 = .ok (.lload_n 1, 1) := by decide +kernel
theorem d4_41 : decode prog_11_method_4_code 41 = .ok (.invokevirtual 49, 3) := by decide +kernel
theorem pd_0 : parseMethodDescriptor "(J)V" = some ⟨[.long], none⟩ := by decide +kernel
theorem d4_44 : decode prog_11_method_4_code 44 = .ok (.aload_n 0, 1) := by decide +kernel
theorem d4_45 : decode prog_11_method_4_code 45 = .ok (.lload_n 1, 1) := by decide +kernel
theorem d4_46 : decode prog_11_method_4_code 46 = .ok (.putfield 11, 3) := by decide +kernel
theorem d4_49 : decode prog_11_method_4_code 49 = .ok (.aload_n 0, 1) := by decide +kernel
theorem d4_50 : decode prog_11_method_4_code 50 = .ok (.getfield 58, 3) := by decide +kernel
theorem d4_53 : decode prog_11_method_4_code 53 = .ok (.ifnull 24, 3) := by decide +kernel
theorem d4_77 : decode prog_11_method_4_code 77 = .ok (.invokestatic 52, 3) := by decide +kernel
theorem pd_1 : parseMethodDescriptor "()Ljava/util/Optional;" = some ⟨[], some (.object "java/util/Optional")⟩ := by decide +kernel
theorem d4_80 : decode prog_11_method_4_code 80 = .ok (.areturn, 1) := by decide +kernel
set_option maxRecDepth 65536 in
set_option maxHeartbeats 40000000 in
theorem rm_close (l : Launch) (Z : State) (a0 : Array Value) (hw : ∀ d ∈ tables_1, d.before a0 Z = true) (ws : List Jvm.Cond) (a : Addr) (q u : Int64) (em : Addr) (h0 : Heap) (n0 : Nat) (O : Old Z n0 h0) (F_through_a : Fld Z h0 a "com/example/marktide/marktide/engine/HourlyAverage" "through" "J" (.long u)) (F_lastClosing_a : Fld Z h0 a "com/example/marktide/marktide/engine/HourlyAverage" "lastClosing" "Ljava/math/BigDecimal;" .null) (F_weighted_a : Fld Z h0 a "com/example/marktide/marktide/engine/HourlyAverage" "weighted" "Lcom/example/marktide/marktide/engine/Sum;" .null) (E_a : Exa Z h0 a "com/example/marktide/marktide/engine/HourlyAverage") (g_a : n0 ≤ a) (S_EMPTY : Sta Z Z.heap "java/util/Optional" "EMPTY" "Ljava/util/Optional;" (.ref em)) (hq : ¬ q < u) :
    MetFree l (⟨"com/example/marktide/marktide/engine/HourlyAverage", "closeThrough", "(J)Ljava/util/Optional;"⟩ : MethodName) (head1 (Jvm.Cond.code (⟨"com/example/marktide/marktide/engine/HourlyAverage", "closeThrough", "(J)Ljava/util/Optional;"⟩ : MethodName) prog_11_method_4_code 3 (some (.object "java/util/Optional")) :: ws) ({ frames := 1, cells := 0, slots := 0, locals := 16 } : Room)) (fun aa U => aa = #[(.ref a), (.long q)] ∧ Z.Warmed39 U.vm ∧ U.heap = h0) (fun _ _ _ _ _ => True) (fun _ U o U' => ∃ v L, o = .returned v ∧ Q_rm_close Z a q u em h0 n0 v U'.heap L ∧ FrameEnd U o U' L ({ frames := 1, cells := 0, slots := 0, locals := 16 } : Room).cells ({ frames := 1, cells := 0, slots := 0, locals := 16 } : Room).slots) := by
  refine MetFree.of_bodySF (plainFor_of_name pn_com_example_marktide_marktide_engine_HourlyAverage) hisR ?_
  intro p e s m args below meth c s₁ Bd hml0 hP hK
  obtain ⟨rfl, hZ, hh⟩ := hP
  have hx := Bd.exec
  have hby := Bd.bytes
  have hml : c.maxLocals = 3 := hml0
  have hown : s.vm.findClass "com/example/marktide/marktide/engine/HourlyAverage" = some m.cls := findClass_of_methodNamed Bd.named
  have hnm := (name_of_methodNamed Bd.named Bd.method).1
  have X0 : Stand p l e ({ frames := 1, cells := 0, slots := 0, locals := 16 } : Room) s m #[(.ref a), (.long q)] below meth c s₁ [] 0 0 := Stand.of_body Bd
  have e0 : s₁.heap = h0 := by rw [← hh, Bd.state]; rfl
  have N0 := Fr.nil n0
  have K : Keep h0 h0 [a] := Keep.refl _ _
  show Goes p e below s FrameEnd ({ frames := 1, cells := 0, slots := 0, locals := 16 } : Room).cells ({ frames := 1, cells := 0, slots := 0, locals := 16 } : Room).slots (Q_rm_close Z a q u em h0 n0) s₁ (entryFrame m #[(.ref a), (.long q)] 3)
  refine Goes.cast (ef_rm_close m a q) ?_
  refine Goes.to (T' := s₁) (mkF m 1 #[.val (.ref a), .val (.long q), .second] [(.long q)]) (fun t k => XS.lloadN X0.here hx rfl (hb hby d4_0) rfl k) ?_
  refine Goes.to (T' := s₁) (mkF m 2 #[.val (.ref a), .val (.long q), .second] [(.ref a), (.long q)]) (fun t k => XS.aloadN X0.here hx rfl (hb hby d4_1) rfl rfl k) ?_
  obtain ⟨T1, X1, e1, st1⟩ := getF X0 hx hZ hown (host := "") (Or.inl (hw _ (List.mem_of_getElem? (i := 10) rfl))) Via.refl e0 F_through_a (g := (mkF m 2 #[.val (.ref a), .val (.long q), .second] [(.ref a), (.long q)])) rfl rfl (hb hby d4_2)
  refine Goes.to (T' := T1) (mkF m 5 #[.val (.ref a), .val (.long q), .second] [(.long u), (.long q)]) st1 ?_
  refine Goes.to (T' := T1) (mkF m 6 #[.val (.ref a), .val (.long q), .second] [(.int (lcmpW q u))]) (fun t k => XS.lcmp X1.here hx rfl (hb hby d4_5) rfl k) ?_
  refine Goes.to (T' := T1) (mkF m 39 #[.val (.ref a), .val (.long q), .second] []) (fun t k => XS.ifYes X1.here hx rfl (pc0 := 6) (pc' := 39) rfl (hb hby d4_6) rfl ((if0 _ _).trans (flt ((fun z => hq ((lw_lt q u).mp z)) : ¬ ((lcmpW q u) < (0 : Int32)))).2.1) (by decide) (by decide) k) ?_
  refine Goes.to (T' := T1) (mkF m 40 #[.val (.ref a), .val (.long q), .second] [(.ref a)]) (fun t k => XS.aloadN X1.here hx rfl (hb hby d4_39) rfl rfl k) ?_
  refine Goes.to (T' := T1) (mkF m 41 #[.val (.ref a), .val (.long q), .second] [(.long q), (.ref a)]) (fun t k => XS.lloadN X1.here hx rfl (hb hby d4_40) rfl k) ?_
  obtain ⟨cq2, q2, q2'⟩ := E_a.cell
  obtain ⟨_, _, ⟨T2, L2, k2, n2⟩, -, X2, ⟨Lc2, hQ2, l2, y2, z2⟩, st2⟩ := X1.privateBack hx (y := (⟨"com/example/marktide/marktide/engine/HourlyAverage", "requireNoHourWithoutSample", "(J)V"⟩ : MethodName)) hown (mvT hZ (hw _ (List.mem_of_getElem? (i := 21) rfl))) (mvT hZ (hw _ (List.mem_of_getElem? (i := 22) rfl))) (own_selPriv hZ (hw _ (List.mem_of_getElem? (i := 1) rfl)) (hw _ (List.mem_of_getElem? (i := 23) rfl)) (hw _ (List.mem_of_getElem? (i := 22) rfl)) (by decide)) (Cond.privateMethod_at (mvP hZ (hw _ (List.mem_of_getElem? (i := 23) rfl)) (args := #[]))) (mvT hZ (hw _ (List.mem_of_getElem? (i := 24) rfl))) (by decide) (backOf (W := 0) (rm_noHour l Z a0 hw [] a q h0 n0 O F_lastClosing_a) hZ (hw _ (List.mem_of_getElem? (i := 24) rfl)) (hw _ (List.mem_of_getElem? (i := 2) rfl)) (by decide) (by decide)) (g := (mkF m 41 #[.val (.ref a), .val (.long q), .second] [(.long q), (.ref a)])) rfl (by rw [hml]; rfl) (Steps.refl _) (a := a) (by rw [e1]; exact q2) q2' (argsL := [(.long q)]) (rest := []) (lenOf pd_0 rfl) rfl (by show 2 * 0 + _ ≤ _; exact Nat.le_of_eq rfl) (hb hby d4_41) (fun _ _ => ⟨rfl, e1, (by decide : 0 + 0 ≤ _), (by decide : 0 + 0 ≤ _)⟩)
  dsimp only [Pt.U, Pt.locs, Pt.cells, Pt.slots] at X2 l2 y2 z2 st2 hQ2
  subst l2 y2 z2
  obtain ⟨rfl, N2, hs2⟩ := hQ2
  have N2' := Fr.app N0 N2
  refine Goes.to (T' := T2) (mkF m 44 #[.val (.ref a), .val (.long q), .second] []) (fun t k => st2.trans k) ?_
  refine Goes.to (T' := T2) (mkF m 45 #[.val (.ref a), .val (.long q), .second] [(.ref a)]) (fun t k => XS.aloadN X2.here hx rfl (hb hby d4_44) rfl rfl k) ?_
  refine Goes.to (T' := T2) (mkF m 46 #[.val (.ref a), .val (.long q), .second] [(.long q), (.ref a)]) (fun t k => XS.lloadN X2.here hx rfl (hb hby d4_45) rfl k) ?_
  obtain ⟨T3, h3, X3, e3, W3, st3⟩ := putF X2 hx hZ hown (host := "") (Or.inl (hw _ (List.mem_of_getElem? (i := 10) rfl))) Via.refl hs2 F_through_a E_a (Or.inl (hw _ (List.mem_of_getElem? (i := 11) rfl))) (hw _ (List.mem_of_getElem? (i := 1) rfl)) (ty := .long) (by decide) rfl rfl (g := (mkF m 46 #[.val (.ref a), .val (.long q), .second] [(.long q), (.ref a)])) rfl rfl (hb hby d4_46)
  replace E_a := E_a.wr W3
  replace F_through_a := F_through_a.same W3
  replace F_lastClosing_a := F_lastClosing_a.other W3 (Or.inr (slot_ne (Or.inl (hw _ (List.mem_of_getElem? (i := 26) rfl))) (Or.inl (hw _ (List.mem_of_getElem? (i := 11) rfl))) (by decide) (t := (.object "java/math/BigDecimal")) (t' := .long) (by decide) (by decide)))
  replace F_weighted_a := F_weighted_a.other W3 (Or.inr (slot_ne (Or.inl (hw _ (List.mem_of_getElem? (i := 28) rfl))) (Or.inl (hw _ (List.mem_of_getElem? (i := 11) rfl))) (by decide) (t := (.object "com/example/marktide/marktide/engine/Sum")) (t' := .long) (by decide) (by decide)))
  replace O := O.wr W3 g_a
  replace K := K.wr W3 (Or.inl (by simp))
  have N3 := Fr.snoc X3 N2' g_a
  refine Goes.to (T' := T3) (mkF m 49 #[.val (.ref a), .val (.long q), .second] []) st3 ?_
  refine Goes.to (T' := T3) (mkF m 50 #[.val (.ref a), .val (.long q), .second] [(.ref a)]) (fun t k => XS.aloadN X3.here hx rfl (hb hby d4_49) rfl rfl k) ?_
  obtain ⟨T4, X4, e4, st4⟩ := getF X3 hx hZ hown (host := "") (Or.inl (hw _ (List.mem_of_getElem? (i := 27) rfl))) Via.refl e3 F_weighted_a (g := (mkF m 50 #[.val (.ref a), .val (.long q), .second] [(.ref a)])) rfl rfl (hb hby d4_50)
  refine Goes.to (T' := T4) (mkF m 53 #[.val (.ref a), .val (.long q), .second] [.null]) st4 ?_
  refine Goes.to (T' := T4) (mkF m 77 #[.val (.ref a), .val (.long q), .second] []) (fun t k => XS.ifnullYes X4.here hx rfl (pc0 := 53) (pc' := 77) rfl (hb hby d4_53) rfl (by decide) (by decide) k) ?_
  obtain ⟨_, _, ⟨T5, L5, k5, n5⟩, -, X5, ⟨Lc5, hQ5, l5, y5, z5⟩, st5⟩ := Jvm.LawKit.callS X4 hx (y := (⟨"java/util/Optional", "empty", "()Ljava/util/Optional;"⟩ : MethodName)) hown (mvT hZ (hw _ (List.mem_of_getElem? (i := 29) rfl))) (mvT hZ (hw _ (List.mem_of_getElem? (i := 30) rfl))) (mvT hZ (hw _ (List.mem_of_getElem? (i := 31) rfl))) (mvT hZ (hw _ (List.mem_of_getElem? (i := 32) rfl))) (by decide) (backOf (W := 0) (rm_empty l Z a0 hw [] em h3 n0 O S_EMPTY) hZ (hw _ (List.mem_of_getElem? (i := 32) rfl)) (hw _ (List.mem_of_getElem? (i := 31) rfl)) (by decide) (by decide)) (g := (mkF m 77 #[.val (.ref a), .val (.long q), .second] [])) rfl (by rw [hml]; rfl) (argsL := []) (rest := []) (lenOf pd_1 rfl) rfl (by show 2 * 0 + _ ≤ _; exact Nat.le_of_eq rfl) (hb hby d4_77) (fun _ _ => ⟨rfl, e4, (by decide : 0 + 0 ≤ _), (by decide : 0 + 0 ≤ _)⟩)
  dsimp only [Pt.U, Pt.locs, Pt.cells, Pt.slots] at X5 l5 y5 z5 st5 hQ5
  subst l5 y5 z5
  obtain ⟨rfl, N5, hs5⟩ := hQ5
  have N5' := Fr.app N3 N5
  refine Goes.to (T' := T5) (mkF m 80 #[.val (.ref a), .val (.long q), .second] [(.ref em)]) (fun t k => st5 t k) ?_
  refine Goes.retA X5 hx Bd.notSynchronized rfl Bd.returns rfl (hb hby d4_80) (by decide) (by decide) ?_
  rw [hs5]
  exact ⟨rfl, N5', K, F_through_a, F_lastClosing_a, F_weighted_a⟩
theorem ef_rm_later (m : MethodId) (x0 : Addr) (x1 : Int64) : entryFrame m #[(.ref x0), (.long x1)] 4 = mkF m 0 #[.val (.ref x0), .val (.long x1), .second, .unset] [] := by first | (simp [entryFrame, mkF, argsToLocals, Value.category]; done) | rfl
def Q_rm_later (Z : State) (a : Addr) (q u : Int64) (h0 : Heap) (n0 : Nat) (v : Option Value) (h : Heap) (L : List Loc) : Prop := v = none ∧ Fr n0 L ∧ h = h0
theorem d7_0 : decode prog_11_method_2_code 0 = .ok (.lload_n 1, 1) := by decide +kernel
theorem d7_1 : decode prog_11_method_2_code 1 = .ok (.aload_n 0, 1) := by decide +kernel
theorem d7_2 : decode prog_11_method_2_code 2 = .ok (.getfield 11, 3) := by decide +kernel
theorem d7_5 : decode prog_11_method_2_code 5 = .ok (.lcmp, 1) := by decide +kernel
theorem d7_6 : decode prog_11_method_2_code 6 = .ok (.ifCond .gt 54, 3) := by decide +kernel
theorem d7_60 : decode prog_11_method_2_code 60 = .ok (.return_, 1) := by decide +kernel
set_option maxRecDepth 65536 in
set_option maxHeartbeats 40000000 in
theorem rm_later (l : Launch) (Z : State) (a0 : Array Value) (hw : ∀ d ∈ tables_1, d.before a0 Z = true) (ws : List Jvm.Cond) (a : Addr) (q u : Int64) (h0 : Heap) (n0 : Nat) (O : Old Z n0 h0) (F_through_a : Fld Z h0 a "com/example/marktide/marktide/engine/HourlyAverage" "through" "J" (.long u)) (hq : u < q) :
    MetFree l (⟨"com/example/marktide/marktide/engine/HourlyAverage", "requireLater", "(J)V"⟩ : MethodName) (head1 (Jvm.Cond.code (⟨"com/example/marktide/marktide/engine/HourlyAverage", "requireLater", "(J)V"⟩ : MethodName) prog_11_method_2_code 4 none :: ws) ({ frames := 0, cells := 0, slots := 0, locals := 0 } : Room)) (fun aa U => aa = #[(.ref a), (.long q)] ∧ Z.Warmed39 U.vm ∧ U.heap = h0) (fun _ _ _ _ _ => True) (fun _ U o U' => ∃ v L, o = .returned v ∧ Q_rm_later Z a q u h0 n0 v U'.heap L ∧ FrameEnd U o U' L ({ frames := 0, cells := 0, slots := 0, locals := 0 } : Room).cells ({ frames := 0, cells := 0, slots := 0, locals := 0 } : Room).slots) := by
  refine MetFree.of_bodySF (plainFor_of_name pn_com_example_marktide_marktide_engine_HourlyAverage) hisR ?_
  intro p e s m args below meth c s₁ Bd hml0 hP hK
  obtain ⟨rfl, hZ, hh⟩ := hP
  have hx := Bd.exec
  have hby := Bd.bytes
  have hml : c.maxLocals = 4 := hml0
  have hown : s.vm.findClass "com/example/marktide/marktide/engine/HourlyAverage" = some m.cls := findClass_of_methodNamed Bd.named
  have hnm := (name_of_methodNamed Bd.named Bd.method).1
  have X0 : Stand p l e ({ frames := 0, cells := 0, slots := 0, locals := 0 } : Room) s m #[(.ref a), (.long q)] below meth c s₁ [] 0 0 := Stand.of_body Bd
  have e0 : s₁.heap = h0 := by rw [← hh, Bd.state]; rfl
  have N0 := Fr.nil n0
  show Goes p e below s FrameEnd ({ frames := 0, cells := 0, slots := 0, locals := 0 } : Room).cells ({ frames := 0, cells := 0, slots := 0, locals := 0 } : Room).slots (Q_rm_later Z a q u h0 n0) s₁ (entryFrame m #[(.ref a), (.long q)] 4)
  refine Goes.cast (ef_rm_later m a q) ?_
  refine Goes.to (T' := s₁) (mkF m 1 #[.val (.ref a), .val (.long q), .second, .unset] [(.long q)]) (fun t k => XS.lloadN X0.here hx rfl (hb hby d7_0) rfl k) ?_
  refine Goes.to (T' := s₁) (mkF m 2 #[.val (.ref a), .val (.long q), .second, .unset] [(.ref a), (.long q)]) (fun t k => XS.aloadN X0.here hx rfl (hb hby d7_1) rfl rfl k) ?_
  obtain ⟨T1, X1, e1, st1⟩ := getF X0 hx hZ hown (host := "") (Or.inl (hw _ (List.mem_of_getElem? (i := 10) rfl))) Via.refl e0 F_through_a (g := (mkF m 2 #[.val (.ref a), .val (.long q), .second, .unset] [(.ref a), (.long q)])) rfl rfl (hb hby d7_2)
  refine Goes.to (T' := T1) (mkF m 5 #[.val (.ref a), .val (.long q), .second, .unset] [(.long u), (.long q)]) st1 ?_
  refine Goes.to (T' := T1) (mkF m 6 #[.val (.ref a), .val (.long q), .second, .unset] [(.int (lcmpW q u))]) (fun t k => XS.lcmp X1.here hx rfl (hb hby d7_5) rfl k) ?_
  refine Goes.to (T' := T1) (mkF m 60 #[.val (.ref a), .val (.long q), .second, .unset] []) (fun t k => XS.ifYes X1.here hx rfl (pc0 := 6) (pc' := 60) rfl (hb hby d7_6) rfl ((if0 _ _).trans (tlt ((lw_gt q u).mpr hq : (0 : Int32) < (lcmpW q u))).2.2.1) (by decide) (by decide) k) ?_
  refine Goes.retV X1 hx Bd.notSynchronized Bd.returns (hb hby d7_60) (by decide) (by decide) ?_
  rw [e1]
  exact ⟨rfl, N0, rfl⟩
theorem own_ge_min (x : Int64) : ¬ x < (-9223372036854775808 : Int64) := by
  rw [Int64.lt_iff_toInt_lt]
  have h1 := (rng64 x).1
  have h2 : (-9223372036854775808 : Int64).toInt = -9223372036854775808 := by decide
  omega
theorem own_ge_self (x : Int64) : ¬ x < x := by rw [Int64.lt_iff_toInt_lt]; omega
theorem own_ge_max (x y : Int64) : ¬ own_max x y < x := by
  unfold own_max
  split
  · rename_i h; rw [Int64.lt_iff_toInt_lt] at *; omega
  · exact own_ge_self x
theorem own_later (d t : Int64) (k : Int32) (h : ¬ t = 9223372036854775807) : t < (if k = (0 : Int32) then (if (0 : Int32) < lcmpW d t then d else t + (1 : Int64)) else t + (1 : Int64)) := by
  have h1 : t < t + 1 := by
    rw [← Int64.toInt_inj, show (9223372036854775807 : Int64).toInt = 9223372036854775807 from by decide] at h
    rw [Int64.lt_iff_toInt_lt]
    have h2 := rng64 t
    have h3 := c_ladd t 1
    have h4 := rng64 (t + 1)
    have h5 : (1 : Int64).toInt = 1 := by decide
    omega
  split
  · split
    · rename_i h2; exact (lw_gt d t).mp h2
    · exact h1
  · exact h1
theorem pn_com_example_marktide_marktide_engine_HourlyAverageRequireLaterPinLaw : plainName "com/example/marktide/marktide/engine/HourlyAverageRequireLaterPinLaw" = true := by first | (simp [plainName, overriddenIn]; done) | decide +kernel
theorem ef_rm_law (m : MethodId) (x0 : Int64) (x1 : Int64) (x2 : Int64) (x3 : Int32) : entryFrame m #[(.long x0), (.long x1), (.long x2), (.int x3)] maxLocals = mkF m 0 #[.val (.long x0), .second, .val (.long x1), .second, .val (.long x2), .second, .val (.int x3), .unset, .unset, .unset, .unset, .unset, .unset, .unset] [] := by first | (simp [entryFrame, mkF, argsToLocals, Value.category, maxLocals]; done) | rfl
def Q_rm_law (Z : State) (t0 t1 d : Int64) (fl : Int32) (em : Addr) (h0 : Heap) (n0 : Nat) (v : Option Value) (h : Heap) (L : List Loc) : Prop := v = some (.int 1) ∧ Fr n0 L
theorem pd_2 : parseMethodDescriptor "()V" = some ⟨[], none⟩ := by decide +kernel
theorem pd_3 : parseMethodDescriptor "(J)Ljava/util/Optional;" = some ⟨[.long], some (.object "java/util/Optional")⟩ := by decide +kernel
theorem pd_4 : parseMethodDescriptor "(JJ)J" = some ⟨[.long, .long], some .long⟩ := by decide +kernel
set_option maxRecDepth 65536 in
set_option maxHeartbeats 40000000 in
theorem rm_law (l : Launch) (Z : State) (a0 : Array Value) (hw : ∀ d ∈ tables_1, d.before a0 Z = true) (ws : List Jvm.Cond) (t0 t1 d : Int64) (fl : Int32) (em : Addr) (h0 : Heap) (n0 : Nat) (O : Old Z n0 h0) (S_EMPTY : Sta Z Z.heap "java/util/Optional" "EMPTY" "Ljava/util/Optional;" (.ref em)) :
    MetFree l x (head1 (Jvm.Cond.code x code maxLocals ret :: ws) room_1) (fun aa U => aa = #[(.long t0), (.long t1), (.long d), (.int fl)] ∧ Z.Warmed39 U.vm ∧ U.heap = h0) (fun _ _ _ _ _ => True) (fun _ U o U' => ∃ v L, o = .returned v ∧ Q_rm_law Z t0 t1 d fl em h0 n0 v U'.heap L ∧ FrameEnd U o U' L room_1.cells room_1.slots) := by
  refine MetFree.of_bodySF (plainFor_of_name pn_com_example_marktide_marktide_engine_HourlyAverageRequireLaterPinLaw) hisR ?_
  intro p e s m args below meth c s₁ Bd hml0 hP hK
  obtain ⟨rfl, hZ, hh⟩ := hP
  have hx := Bd.exec
  have hby := Bd.bytes
  have hml : c.maxLocals = 14 := hml0
  have hown : s.vm.findClass "com/example/marktide/marktide/engine/HourlyAverageRequireLaterPinLaw" = some m.cls := findClass_of_methodNamed Bd.named
  have hnm := (name_of_methodNamed Bd.named Bd.method).1
  have X0 : Stand p l e room_1 s m #[(.long t0), (.long t1), (.long d), (.int fl)] below meth c s₁ [] 0 0 := Stand.of_body Bd
  have e0 : s₁.heap = h0 := by rw [← hh, Bd.state]; rfl
  have N0 := Fr.nil n0
  show Goes p e below s FrameEnd room_1.cells room_1.slots (Q_rm_law Z t0 t1 d fl em h0 n0) s₁ (entryFrame m #[(.long t0), (.long t1), (.long d), (.int fl)] maxLocals)
  refine Goes.cast (ef_rm_law m t0 t1 d fl) ?_
  obtain ⟨T1, h1, X1, e1, E1, A1, D1, -, st1⟩ := newO X0 hx hZ hown (hw _ (List.mem_of_getElem? (i := 0) rfl)) (hw _ (List.mem_of_getElem? (i := 1) rfl)) (hw _ (List.mem_of_getElem? (i := 2) rfl)) e0 (g := (mkF m 0 #[.val (.long t0), .second, .val (.long t1), .second, .val (.long d), .second, .val (.int fl), .unset, .unset, .unset, .unset, .unset, .unset, .unset] [])) rfl (hb hby at_0) (by decide) (by decide)
  obtain ⟨b1, g1⟩ : ∃ z, z = h0.size := ⟨_, rfl⟩
  rw [← g1] at A1 D1 st1
  have g_b1 : n0 ≤ b1 := Nat.le_trans (O.1 ▸ O.2.1) (Nat.le_of_eq g1.symm)
  replace O := O.ext E1
  have E_b1 : Exa Z h1 b1 "com/example/marktide/marktide/engine/HourlyAverage" := A1
  have F_through_b1 : Fld Z h1 b1 "com/example/marktide/marktide/engine/HourlyAverage" "through" "J" (.long (0 : Int64)) := D1 (Or.inl (hw _ (List.mem_of_getElem? (i := 11) rfl))) (ty := .long) (by decide)
  have F_lastClosing_b1 : Fld Z h1 b1 "com/example/marktide/marktide/engine/HourlyAverage" "lastClosing" "Ljava/math/BigDecimal;" .null := D1 (Or.inl (hw _ (List.mem_of_getElem? (i := 26) rfl))) (ty := (.object "java/math/BigDecimal")) (by decide)
  have F_weighted_b1 : Fld Z h1 b1 "com/example/marktide/marktide/engine/HourlyAverage" "weighted" "Lcom/example/marktide/marktide/engine/Sum;" .null := D1 (Or.inl (hw _ (List.mem_of_getElem? (i := 28) rfl))) (ty := (.object "com/example/marktide/marktide/engine/Sum")) (by decide)
  have F_hourEnd_b1 : Fld Z h1 b1 "com/example/marktide/marktide/engine/HourlyAverage" "hourEnd" "J" (.long (0 : Int64)) := D1 (Or.inl (hw _ (List.mem_of_getElem? (i := 42) rfl))) (ty := .long) (by decide)
  refine Goes.to (T' := T1) (mkF m 3 #[.val (.long t0), .second, .val (.long t1), .second, .val (.long d), .second, .val (.int fl), .unset, .unset, .unset, .unset, .unset, .unset, .unset] [(.ref b1)]) st1 ?_
  refine Goes.to (T' := T1) (mkF m 4 #[.val (.long t0), .second, .val (.long t1), .second, .val (.long d), .second, .val (.int fl), .unset, .unset, .unset, .unset, .unset, .unset, .unset] [(.ref b1), (.ref b1)]) (fun t k => XS.dup X1.here hx rfl (hb hby at_3) rfl rfl k) ?_
  obtain ⟨_, _, ⟨T2, L2, k2, n2⟩, -, X2, ⟨Lc2, hQ2, l2, y2, z2⟩, st2⟩ := X1.specialBack hx (y := (⟨"com/example/marktide/marktide/engine/HourlyAverage", "<init>", "()V"⟩ : MethodName)) rfl hown (mvT hZ (hw _ (List.mem_of_getElem? (i := 3) rfl))) (mvT hZ (hw _ (List.mem_of_getElem? (i := 4) rfl))) (mvT hZ (hw _ (List.mem_of_getElem? (i := 5) rfl))) (by decide) (backOf (W := 1) (rm_init l Z a0 hw [] b1 _ h1 n0 O F_through_b1 F_lastClosing_b1 F_weighted_b1 E_b1 g_b1) hZ (hw _ (List.mem_of_getElem? (i := 5) rfl)) (hw _ (List.mem_of_getElem? (i := 2) rfl)) (by decide) (by decide)) (g := (mkF m 4 #[.val (.long t0), .second, .val (.long t1), .second, .val (.long d), .second, .val (.int fl), .unset, .unset, .unset, .unset, .unset, .unset, .unset] [(.ref b1), (.ref b1)])) rfl (by rw [hml]; rfl) (Steps.refl _) (a := b1) (argsL := []) (rest := [(.ref b1)]) (lenOf pd_2 rfl) rfl (by show 2 * 0 + _ ≤ _; exact Nat.le_of_eq rfl) (hb hby at_4) (fun _ _ => ⟨rfl, e1, (by decide : 1 + 0 ≤ _), (by decide : 7 + 0 ≤ _)⟩)
  dsimp only [Pt.U, Pt.locs, Pt.cells, Pt.slots] at X2 l2 y2 z2 st2 hQ2
  subst l2 y2 z2
  obtain ⟨rfl, N2, K2, -, F_through_b1, F_lastClosing_b1, F_weighted_b1⟩ := hQ2
  have N2' := Fr.app N0 N2
  replace E_b1 := E_b1.keep K2
  replace O := O.keep K2 (allS g_b1 all0)
  refine Goes.to (T' := T2) (mkF m 7 #[.val (.long t0), .second, .val (.long t1), .second, .val (.long d), .second, .val (.int fl), .unset, .unset, .unset, .unset, .unset, .unset, .unset] [(.ref b1)]) (fun t k => st2.trans k) ?_
  refine Goes.to (T' := T2) (mkF m 9 #[.val (.long t0), .second, .val (.long t1), .second, .val (.long d), .second, .val (.int fl), .val (.ref b1), .unset, .unset, .unset, .unset, .unset, .unset] []) (fun t k => XS.astore X2.here hx rfl (hb hby at_7) rfl rfl (l' := #[.val (.long t0), .second, .val (.long t1), .second, .val (.long d), .second, .val (.int fl), .val (.ref b1), .unset, .unset, .unset, .unset, .unset, .unset]) rfl k) ?_
  refine Goes.to (T' := T2) (mkF m 11 #[.val (.long t0), .second, .val (.long t1), .second, .val (.long d), .second, .val (.int fl), .val (.ref b1), .unset, .unset, .unset, .unset, .unset, .unset] [(.int fl)]) (fun t k => XS.iload X2.here hx rfl (hb hby at_9) rfl k) ?_
  refine Goes.to (T' := T2) (mkF m 12 #[.val (.long t0), .second, .val (.long t1), .second, .val (.long d), .second, .val (.int fl), .val (.ref b1), .unset, .unset, .unset, .unset, .unset, .unset] [(.int (3 : Int32)), (.int fl)]) (fun t k => XS.iconst X2.here hx rfl (hb hby at_11) k) ?_
  refine Goes.to (T' := T2) (mkF m 13 #[.val (.long t0), .second, .val (.long t1), .second, .val (.long d), .second, .val (.int fl), .val (.ref b1), .unset, .unset, .unset, .unset, .unset, .unset] [(.int (fl &&& (3 : Int32)))]) (fun t k => XS.iand X2.here hx rfl (hb hby at_12) rfl k) ?_
  refine Goes.to (T' := T2) (mkF m 15 #[.val (.long t0), .second, .val (.long t1), .second, .val (.long d), .second, .val (.int fl), .val (.ref b1), .val (.int (fl &&& (3 : Int32))), .unset, .unset, .unset, .unset, .unset] []) (fun t k => XS.istore X2.here hx rfl (hb hby at_13) rfl (l' := #[.val (.long t0), .second, .val (.long t1), .second, .val (.long d), .second, .val (.int fl), .val (.ref b1), .val (.int (fl &&& (3 : Int32))), .unset, .unset, .unset, .unset, .unset]) rfl k) ?_
  refine Goes.to (T' := T2) (mkF m 17 #[.val (.long t0), .second, .val (.long t1), .second, .val (.long d), .second, .val (.int fl), .val (.ref b1), .val (.int (fl &&& (3 : Int32))), .unset, .unset, .unset, .unset, .unset] [(.int (fl &&& (3 : Int32)))]) (fun t k => XS.iload X2.here hx rfl (hb hby at_15) rfl k) ?_
  by_cases hc17_3 : (fl &&& (3 : Int32)) = (0 : Int32)
  · refine Goes.to (T' := T2) (mkF m 20 #[.val (.long t0), .second, .val (.long t1), .second, .val (.long d), .second, .val (.int fl), .val (.ref b1), .val (.int (fl &&& (3 : Int32))), .unset, .unset, .unset, .unset, .unset] []) (fun t k => XS.ifNo X2.here hx rfl (hb hby at_17) rfl ((if0 _ _).trans (teq hc17_3).2) k) ?_
    refine Goes.to (T' := T2) (mkF m 23 #[.val (.long t0), .second, .val (.long t1), .second, .val (.long d), .second, .val (.int fl), .val (.ref b1), .val (.int (fl &&& (3 : Int32))), .unset, .unset, .unset, .unset, .unset] [(.long (-9223372036854775808 : Int64))]) (fun t k => X2.ldc2Long hx hown (mvT hZ (hw _ (List.mem_of_getElem? (i := 40) rfl))) (g := (mkF m 20 #[.val (.long t0), .second, .val (.long t1), .second, .val (.long d), .second, .val (.int fl), .val (.ref b1), .val (.int (fl &&& (3 : Int32))), .unset, .unset, .unset, .unset, .unset] [])) rfl (hb hby at_20) _ k) ?_
    refine Goes.to (T' := T2) (mkF m 25 #[.val (.long t0), .second, .val (.long t1), .second, .val (.long d), .second, .val (.int fl), .val (.ref b1), .val (.int (fl &&& (3 : Int32))), .val (.long (-9223372036854775808 : Int64)), .second, .unset, .unset, .unset] []) (fun t k => XS.lstore X2.here hx rfl (hb hby at_23) rfl (l' := #[.val (.long t0), .second, .val (.long t1), .second, .val (.long d), .second, .val (.int fl), .val (.ref b1), .val (.int (fl &&& (3 : Int32))), .val (.long (-9223372036854775808 : Int64)), .second, .unset, .unset, .unset]) rfl k) ?_
    refine Goes.to (T' := T2) (mkF m 99 #[.val (.long t0), .second, .val (.long t1), .second, .val (.long d), .second, .val (.int fl), .val (.ref b1), .val (.int (fl &&& (3 : Int32))), .val (.long (-9223372036854775808 : Int64)), .second, .unset, .unset, .unset] []) (fun t k => XS.goto X2.here hx rfl (pc0 := 25) (pc' := 99) rfl (hb hby at_25) (by decide) (by decide) k) ?_
    refine Goes.to (T' := T2) (mkF m 101 #[.val (.long t0), .second, .val (.long t1), .second, .val (.long d), .second, .val (.int fl), .val (.ref b1), .val (.int (fl &&& (3 : Int32))), .val (.long (-9223372036854775808 : Int64)), .second, .unset, .unset, .unset] [(.long (-9223372036854775808 : Int64))]) (fun t k => XS.lload X2.here hx rfl (hb hby at_99) rfl k) ?_
    refine Goes.to (T' := T2) (mkF m 104 #[.val (.long t0), .second, .val (.long t1), .second, .val (.long d), .second, .val (.int fl), .val (.ref b1), .val (.int (fl &&& (3 : Int32))), .val (.long (-9223372036854775808 : Int64)), .second, .unset, .unset, .unset] [(.long (9223372036854775807 : Int64)), (.long (-9223372036854775808 : Int64))]) (fun t k => X2.ldc2Long hx hown (mvT hZ (hw _ (List.mem_of_getElem? (i := 34) rfl))) (g := (mkF m 101 #[.val (.long t0), .second, .val (.long t1), .second, .val (.long d), .second, .val (.int fl), .val (.ref b1), .val (.int (fl &&& (3 : Int32))), .val (.long (-9223372036854775808 : Int64)), .second, .unset, .unset, .unset] [(.long (-9223372036854775808 : Int64))])) rfl (hb hby at_101) _ k) ?_
    refine Goes.to (T' := T2) (mkF m 105 #[.val (.long t0), .second, .val (.long t1), .second, .val (.long d), .second, .val (.int fl), .val (.ref b1), .val (.int (fl &&& (3 : Int32))), .val (.long (-9223372036854775808 : Int64)), .second, .unset, .unset, .unset] [(.int (lcmpW (-9223372036854775808 : Int64) (9223372036854775807 : Int64)))]) (fun t k => XS.lcmp X2.here hx rfl (hb hby at_104) rfl k) ?_
    by_cases hc105_4 : (lcmpW (-9223372036854775808 : Int64) (9223372036854775807 : Int64)) = (0 : Int32)
    · refine Goes.to (T' := T2) (mkF m 108 #[.val (.long t0), .second, .val (.long t1), .second, .val (.long d), .second, .val (.int fl), .val (.ref b1), .val (.int (fl &&& (3 : Int32))), .val (.long (-9223372036854775808 : Int64)), .second, .unset, .unset, .unset] []) (fun t k => XS.ifNo X2.here hx rfl (hb hby at_105) rfl ((if0 _ _).trans (teq hc105_4).2) k) ?_
      refine Goes.to (T' := T2) (mkF m 109 #[.val (.long t0), .second, .val (.long t1), .second, .val (.long d), .second, .val (.int fl), .val (.ref b1), .val (.int (fl &&& (3 : Int32))), .val (.long (-9223372036854775808 : Int64)), .second, .unset, .unset, .unset] [(.int (1 : Int32))]) (fun t k => XS.iconst X2.here hx rfl (hb hby at_108) k) ?_
      refine Goes.retN X2 hx Bd.notSynchronized (t := .boolean) Bd.returns (by simp) (hb hby at_109) (by decide) (by decide) ?_
      exact ⟨rfl, N2'⟩
    · refine Goes.to (T' := T2) (mkF m 110 #[.val (.long t0), .second, .val (.long t1), .second, .val (.long d), .second, .val (.int fl), .val (.ref b1), .val (.int (fl &&& (3 : Int32))), .val (.long (-9223372036854775808 : Int64)), .second, .unset, .unset, .unset] []) (fun t k => XS.ifYes X2.here hx rfl (pc0 := 105) (pc' := 110) rfl (hb hby at_105) rfl ((if0 _ _).trans (feq hc105_4).2) (by decide) (by decide) k) ?_
      refine Goes.to (T' := T2) (mkF m 112 #[.val (.long t0), .second, .val (.long t1), .second, .val (.long d), .second, .val (.int fl), .val (.ref b1), .val (.int (fl &&& (3 : Int32))), .val (.long (-9223372036854775808 : Int64)), .second, .unset, .unset, .unset] [(.int fl)]) (fun t k => XS.iload X2.here hx rfl (hb hby at_110) rfl k) ?_
      refine Goes.to (T' := T2) (mkF m 113 #[.val (.long t0), .second, .val (.long t1), .second, .val (.long d), .second, .val (.int fl), .val (.ref b1), .val (.int (fl &&& (3 : Int32))), .val (.long (-9223372036854775808 : Int64)), .second, .unset, .unset, .unset] [(.int (4 : Int32)), (.int fl)]) (fun t k => XS.iconst X2.here hx rfl (hb hby at_112) k) ?_
      refine Goes.to (T' := T2) (mkF m 114 #[.val (.long t0), .second, .val (.long t1), .second, .val (.long d), .second, .val (.int fl), .val (.ref b1), .val (.int (fl &&& (3 : Int32))), .val (.long (-9223372036854775808 : Int64)), .second, .unset, .unset, .unset] [(.int (fl &&& (4 : Int32)))]) (fun t k => XS.iand X2.here hx rfl (hb hby at_113) rfl k) ?_
      have D114_5 : ∀ t, Steps p.tables e below (T2.setTop (mkF m 122 #[.val (.long t0), .second, .val (.long t1), .second, .val (.long d), .second, .val (.int fl), .val (.ref b1), .val (.int (fl &&& (3 : Int32))), .val (.long (-9223372036854775808 : Int64)), .second, .unset, .unset, .unset] [(.int (if (fl &&& (4 : Int32)) = (0 : Int32) then (0 : Int32) else (1 : Int32)))])) t → Steps p.tables e below (T2.setTop (mkF m 114 #[.val (.long t0), .second, .val (.long t1), .second, .val (.long d), .second, .val (.int fl), .val (.ref b1), .val (.int (fl &&& (3 : Int32))), .val (.long (-9223372036854775808 : Int64)), .second, .unset, .unset, .unset] [(.int (fl &&& (4 : Int32)))])) t := by
        intro t k
        by_cases hq : (fl &&& (4 : Int32)) = (0 : Int32)
        · simp only [if_pos hq] at k
          refine XS.ifYes X2.here hx rfl (pc0 := 114) (pc' := 121) rfl (hb hby at_114) rfl ((if0 _ _).trans (teq hq).1) (by decide) (by decide) ?_
          show Steps p.tables e below (T2.setTop (mkF m 121 #[.val (.long t0), .second, .val (.long t1), .second, .val (.long d), .second, .val (.int fl), .val (.ref b1), .val (.int (fl &&& (3 : Int32))), .val (.long (-9223372036854775808 : Int64)), .second, .unset, .unset, .unset] [])) _
          refine XS.iconst X2.here hx rfl (hb hby at_121) ?_
          show Steps p.tables e below (T2.setTop (mkF m 122 #[.val (.long t0), .second, .val (.long t1), .second, .val (.long d), .second, .val (.int fl), .val (.ref b1), .val (.int (fl &&& (3 : Int32))), .val (.long (-9223372036854775808 : Int64)), .second, .unset, .unset, .unset] [(.int (0 : Int32))])) _
          exact k
        · simp only [if_neg hq] at k
          refine XS.ifNo X2.here hx rfl (hb hby at_114) rfl ((if0 _ _).trans (feq hq).1) ?_
          show Steps p.tables e below (T2.setTop (mkF m 117 #[.val (.long t0), .second, .val (.long t1), .second, .val (.long d), .second, .val (.int fl), .val (.ref b1), .val (.int (fl &&& (3 : Int32))), .val (.long (-9223372036854775808 : Int64)), .second, .unset, .unset, .unset] [])) _
          refine XS.iconst X2.here hx rfl (hb hby at_117) ?_
          show Steps p.tables e below (T2.setTop (mkF m 118 #[.val (.long t0), .second, .val (.long t1), .second, .val (.long d), .second, .val (.int fl), .val (.ref b1), .val (.int (fl &&& (3 : Int32))), .val (.long (-9223372036854775808 : Int64)), .second, .unset, .unset, .unset] [(.int (1 : Int32))])) _
          refine XS.goto X2.here hx rfl (pc0 := 118) (pc' := 122) rfl (hb hby at_118) (by decide) (by decide) ?_
          show Steps p.tables e below (T2.setTop (mkF m 122 #[.val (.long t0), .second, .val (.long t1), .second, .val (.long d), .second, .val (.int fl), .val (.ref b1), .val (.int (fl &&& (3 : Int32))), .val (.long (-9223372036854775808 : Int64)), .second, .unset, .unset, .unset] [(.int (1 : Int32))])) _
          exact k
      refine Goes.to (T' := T2) (mkF m 122 #[.val (.long t0), .second, .val (.long t1), .second, .val (.long d), .second, .val (.int fl), .val (.ref b1), .val (.int (fl &&& (3 : Int32))), .val (.long (-9223372036854775808 : Int64)), .second, .unset, .unset, .unset] [(.int (if (fl &&& (4 : Int32)) = (0 : Int32) then (0 : Int32) else (1 : Int32)))]) D114_5 ?_
      obtain ⟨ed, ed_eq⟩ : ∃ z, z = (if (fl &&& (4 : Int32)) = (0 : Int32) then (0 : Int32) else (1 : Int32)) := ⟨_, rfl⟩
      rw [← ed_eq]
      refine Goes.to (T' := T2) (mkF m 124 #[.val (.long t0), .second, .val (.long t1), .second, .val (.long d), .second, .val (.int fl), .val (.ref b1), .val (.int (fl &&& (3 : Int32))), .val (.long (-9223372036854775808 : Int64)), .second, .val (.int ed), .unset, .unset] []) (fun t k => XS.istore X2.here hx rfl (hb hby at_122) rfl (l' := #[.val (.long t0), .second, .val (.long t1), .second, .val (.long d), .second, .val (.int fl), .val (.ref b1), .val (.int (fl &&& (3 : Int32))), .val (.long (-9223372036854775808 : Int64)), .second, .val (.int ed), .unset, .unset]) rfl k) ?_
      have D124_7 : ∀ t, Steps p.tables e below (T2.setTop (mkF m 146 #[.val (.long t0), .second, .val (.long t1), .second, .val (.long d), .second, .val (.int fl), .val (.ref b1), .val (.int (fl &&& (3 : Int32))), .val (.long (-9223372036854775808 : Int64)), .second, .val (.int ed), .unset, .unset] [(.long (if ed = (0 : Int32) then (if (0 : Int32) < (lcmpW d (-9223372036854775808 : Int64)) then d else ((-9223372036854775808 : Int64) + (1 : Int64))) else ((-9223372036854775808 : Int64) + (1 : Int64))))])) t → Steps p.tables e below (T2.setTop (mkF m 124 #[.val (.long t0), .second, .val (.long t1), .second, .val (.long d), .second, .val (.int fl), .val (.ref b1), .val (.int (fl &&& (3 : Int32))), .val (.long (-9223372036854775808 : Int64)), .second, .val (.int ed), .unset, .unset] [])) t := by
        intro t k
        refine XS.iload X2.here hx rfl (hb hby at_124) rfl ?_
        show Steps p.tables e below (T2.setTop (mkF m 126 #[.val (.long t0), .second, .val (.long t1), .second, .val (.long d), .second, .val (.int fl), .val (.ref b1), .val (.int (fl &&& (3 : Int32))), .val (.long (-9223372036854775808 : Int64)), .second, .val (.int ed), .unset, .unset] [(.int ed)])) _
        by_cases hq : ed = (0 : Int32)
        · simp only [if_pos hq] at k
          refine XS.ifNo X2.here hx rfl (hb hby at_126) rfl ((if0 _ _).trans (teq hq).2) ?_
          show Steps p.tables e below (T2.setTop (mkF m 129 #[.val (.long t0), .second, .val (.long t1), .second, .val (.long d), .second, .val (.int fl), .val (.ref b1), .val (.int (fl &&& (3 : Int32))), .val (.long (-9223372036854775808 : Int64)), .second, .val (.int ed), .unset, .unset] [])) _
          refine XS.lload X2.here hx rfl (hb hby at_129) rfl ?_
          show Steps p.tables e below (T2.setTop (mkF m 131 #[.val (.long t0), .second, .val (.long t1), .second, .val (.long d), .second, .val (.int fl), .val (.ref b1), .val (.int (fl &&& (3 : Int32))), .val (.long (-9223372036854775808 : Int64)), .second, .val (.int ed), .unset, .unset] [(.long d)])) _
          refine XS.lload X2.here hx rfl (hb hby at_131) rfl ?_
          show Steps p.tables e below (T2.setTop (mkF m 133 #[.val (.long t0), .second, .val (.long t1), .second, .val (.long d), .second, .val (.int fl), .val (.ref b1), .val (.int (fl &&& (3 : Int32))), .val (.long (-9223372036854775808 : Int64)), .second, .val (.int ed), .unset, .unset] [(.long (-9223372036854775808 : Int64)), (.long d)])) _
          refine XS.lcmp X2.here hx rfl (hb hby at_133) rfl ?_
          show Steps p.tables e below (T2.setTop (mkF m 134 #[.val (.long t0), .second, .val (.long t1), .second, .val (.long d), .second, .val (.int fl), .val (.ref b1), .val (.int (fl &&& (3 : Int32))), .val (.long (-9223372036854775808 : Int64)), .second, .val (.int ed), .unset, .unset] [(.int (lcmpW d (-9223372036854775808 : Int64)))])) _
          by_cases hq : (0 : Int32) < (lcmpW d (-9223372036854775808 : Int64))
          · simp only [if_pos hq] at k
            refine XS.ifNo X2.here hx rfl (hb hby at_134) rfl ((if0 _ _).trans (tlt hq).2.2.2) ?_
            show Steps p.tables e below (T2.setTop (mkF m 137 #[.val (.long t0), .second, .val (.long t1), .second, .val (.long d), .second, .val (.int fl), .val (.ref b1), .val (.int (fl &&& (3 : Int32))), .val (.long (-9223372036854775808 : Int64)), .second, .val (.int ed), .unset, .unset] [])) _
            refine XS.lload X2.here hx rfl (hb hby at_137) rfl ?_
            show Steps p.tables e below (T2.setTop (mkF m 139 #[.val (.long t0), .second, .val (.long t1), .second, .val (.long d), .second, .val (.int fl), .val (.ref b1), .val (.int (fl &&& (3 : Int32))), .val (.long (-9223372036854775808 : Int64)), .second, .val (.int ed), .unset, .unset] [(.long d)])) _
            refine XS.goto X2.here hx rfl (pc0 := 139) (pc' := 146) rfl (hb hby at_139) (by decide) (by decide) ?_
            show Steps p.tables e below (T2.setTop (mkF m 146 #[.val (.long t0), .second, .val (.long t1), .second, .val (.long d), .second, .val (.int fl), .val (.ref b1), .val (.int (fl &&& (3 : Int32))), .val (.long (-9223372036854775808 : Int64)), .second, .val (.int ed), .unset, .unset] [(.long d)])) _
            exact k
          · simp only [if_neg hq] at k
            refine XS.ifYes X2.here hx rfl (pc0 := 134) (pc' := 142) rfl (hb hby at_134) rfl ((if0 _ _).trans (flt hq).2.2.2) (by decide) (by decide) ?_
            show Steps p.tables e below (T2.setTop (mkF m 142 #[.val (.long t0), .second, .val (.long t1), .second, .val (.long d), .second, .val (.int fl), .val (.ref b1), .val (.int (fl &&& (3 : Int32))), .val (.long (-9223372036854775808 : Int64)), .second, .val (.int ed), .unset, .unset] [])) _
            refine XS.lload X2.here hx rfl (hb hby at_142) rfl ?_
            show Steps p.tables e below (T2.setTop (mkF m 144 #[.val (.long t0), .second, .val (.long t1), .second, .val (.long d), .second, .val (.int fl), .val (.ref b1), .val (.int (fl &&& (3 : Int32))), .val (.long (-9223372036854775808 : Int64)), .second, .val (.int ed), .unset, .unset] [(.long (-9223372036854775808 : Int64))])) _
            refine XS.lconst X2.here hx rfl (hb hby at_144) ?_
            show Steps p.tables e below (T2.setTop (mkF m 145 #[.val (.long t0), .second, .val (.long t1), .second, .val (.long d), .second, .val (.int fl), .val (.ref b1), .val (.int (fl &&& (3 : Int32))), .val (.long (-9223372036854775808 : Int64)), .second, .val (.int ed), .unset, .unset] [(.long (1 : Int64)), (.long (-9223372036854775808 : Int64))])) _
            refine XS.ladd X2.here hx rfl (hb hby at_145) rfl ?_
            show Steps p.tables e below (T2.setTop (mkF m 146 #[.val (.long t0), .second, .val (.long t1), .second, .val (.long d), .second, .val (.int fl), .val (.ref b1), .val (.int (fl &&& (3 : Int32))), .val (.long (-9223372036854775808 : Int64)), .second, .val (.int ed), .unset, .unset] [(.long ((-9223372036854775808 : Int64) + (1 : Int64)))])) _
            exact k
        · simp only [if_neg hq] at k
          refine XS.ifYes X2.here hx rfl (pc0 := 126) (pc' := 142) rfl (hb hby at_126) rfl ((if0 _ _).trans (feq hq).2) (by decide) (by decide) ?_
          show Steps p.tables e below (T2.setTop (mkF m 142 #[.val (.long t0), .second, .val (.long t1), .second, .val (.long d), .second, .val (.int fl), .val (.ref b1), .val (.int (fl &&& (3 : Int32))), .val (.long (-9223372036854775808 : Int64)), .second, .val (.int ed), .unset, .unset] [])) _
          refine XS.lload X2.here hx rfl (hb hby at_142) rfl ?_
          show Steps p.tables e below (T2.setTop (mkF m 144 #[.val (.long t0), .second, .val (.long t1), .second, .val (.long d), .second, .val (.int fl), .val (.ref b1), .val (.int (fl &&& (3 : Int32))), .val (.long (-9223372036854775808 : Int64)), .second, .val (.int ed), .unset, .unset] [(.long (-9223372036854775808 : Int64))])) _
          refine XS.lconst X2.here hx rfl (hb hby at_144) ?_
          show Steps p.tables e below (T2.setTop (mkF m 145 #[.val (.long t0), .second, .val (.long t1), .second, .val (.long d), .second, .val (.int fl), .val (.ref b1), .val (.int (fl &&& (3 : Int32))), .val (.long (-9223372036854775808 : Int64)), .second, .val (.int ed), .unset, .unset] [(.long (1 : Int64)), (.long (-9223372036854775808 : Int64))])) _
          refine XS.ladd X2.here hx rfl (hb hby at_145) rfl ?_
          show Steps p.tables e below (T2.setTop (mkF m 146 #[.val (.long t0), .second, .val (.long t1), .second, .val (.long d), .second, .val (.int fl), .val (.ref b1), .val (.int (fl &&& (3 : Int32))), .val (.long (-9223372036854775808 : Int64)), .second, .val (.int ed), .unset, .unset] [(.long ((-9223372036854775808 : Int64) + (1 : Int64)))])) _
          exact k
      refine Goes.to (T' := T2) (mkF m 146 #[.val (.long t0), .second, .val (.long t1), .second, .val (.long d), .second, .val (.int fl), .val (.ref b1), .val (.int (fl &&& (3 : Int32))), .val (.long (-9223372036854775808 : Int64)), .second, .val (.int ed), .unset, .unset] [(.long (if ed = (0 : Int32) then (if (0 : Int32) < (lcmpW d (-9223372036854775808 : Int64)) then d else ((-9223372036854775808 : Int64) + (1 : Int64))) else ((-9223372036854775808 : Int64) + (1 : Int64))))]) D124_7 ?_
      have hl0 := own_later d (-9223372036854775808 : Int64) ed (fun z => hc105_4 ((lw_eq _ _).mpr z))
      revert hl0
      generalize (if ed = (0 : Int32) then (if (0 : Int32) < (lcmpW d (-9223372036854775808 : Int64)) then d else ((-9223372036854775808 : Int64) + (1 : Int64))) else ((-9223372036854775808 : Int64) + (1 : Int64))) = lt
      intro hl
      refine Goes.to (T' := T2) (mkF m 148 #[.val (.long t0), .second, .val (.long t1), .second, .val (.long d), .second, .val (.int fl), .val (.ref b1), .val (.int (fl &&& (3 : Int32))), .val (.long (-9223372036854775808 : Int64)), .second, .val (.int ed), .val (.long lt), .second] []) (fun t k => XS.lstore X2.here hx rfl (hb hby at_146) rfl (l' := #[.val (.long t0), .second, .val (.long t1), .second, .val (.long d), .second, .val (.int fl), .val (.ref b1), .val (.int (fl &&& (3 : Int32))), .val (.long (-9223372036854775808 : Int64)), .second, .val (.int ed), .val (.long lt), .second]) rfl k) ?_
      refine Goes.to (T' := T2) (mkF m 150 #[.val (.long t0), .second, .val (.long t1), .second, .val (.long d), .second, .val (.int fl), .val (.ref b1), .val (.int (fl &&& (3 : Int32))), .val (.long (-9223372036854775808 : Int64)), .second, .val (.int ed), .val (.long lt), .second] [(.ref b1)]) (fun t k => XS.aload X2.here hx rfl (hb hby at_148) rfl rfl k) ?_
      refine Goes.to (T' := T2) (mkF m 152 #[.val (.long t0), .second, .val (.long t1), .second, .val (.long d), .second, .val (.int fl), .val (.ref b1), .val (.int (fl &&& (3 : Int32))), .val (.long (-9223372036854775808 : Int64)), .second, .val (.int ed), .val (.long lt), .second] [(.long lt), (.ref b1)]) (fun t k => XS.lload X2.here hx rfl (hb hby at_150) rfl k) ?_
      obtain ⟨cq9, kq9, q9a, q9b, q9c⟩ := isOf hZ rfl E_b1
      obtain ⟨_, _, ⟨T9, L9, k9, n9⟩, -, X9, ⟨Lc9, hQ9, l9, y9, z9⟩, st9⟩ := X2.virtualBack hx (y := (⟨"com/example/marktide/marktide/engine/HourlyAverage", "requireLater", "(J)V"⟩ : MethodName)) (z := (⟨"com/example/marktide/marktide/engine/HourlyAverage", "requireLater", "(J)V"⟩ : MethodName)) hown (mvT hZ (hw _ (List.mem_of_getElem? (i := 35) rfl))) (mvT hZ (hw _ (List.mem_of_getElem? (i := 36) rfl))) (notFace_of_selects (args := #[]) (mvT hZ (hw _ (List.mem_of_getElem? (i := 38) rfl)))) (mvT hZ (hw _ (List.mem_of_getElem? (i := 38) rfl))) (mvT hZ (hw _ (List.mem_of_getElem? (i := 37) rfl))) (by decide) (backOf (W := 0) (rm_later l Z a0 hw [] b1 lt (-9223372036854775808) T2.heap n0 O F_through_b1 hl) hZ (hw _ (List.mem_of_getElem? (i := 39) rfl)) (hw _ (List.mem_of_getElem? (i := 2) rfl)) (by decide) (by decide)) q9a q9c (g := (mkF m 152 #[.val (.long t0), .second, .val (.long t1), .second, .val (.long d), .second, .val (.int fl), .val (.ref b1), .val (.int (fl &&& (3 : Int32))), .val (.long (-9223372036854775808 : Int64)), .second, .val (.int ed), .val (.long lt), .second] [(.long lt), (.ref b1)])) rfl (by rw [hml]; rfl) (Steps.refl _) (argsL := [(.long lt)]) (rest := []) (lenOf pd_0 rfl) rfl (by show 2 * 0 + _ ≤ _; exact Nat.le_of_eq rfl) (hb hby at_152) (fun _ _ => ⟨rfl, rfl, (by decide : 1 + 0 ≤ _), (by decide : 7 + 0 ≤ _)⟩)
      dsimp only [Pt.U, Pt.locs, Pt.cells, Pt.slots] at X9 l9 y9 z9 st9 hQ9
      subst l9 y9 z9
      obtain ⟨rfl, N9, hs9⟩ := hQ9
      have N9' := Fr.app N2' N9
      refine Goes.to (T' := T9) (mkF m 155 #[.val (.long t0), .second, .val (.long t1), .second, .val (.long d), .second, .val (.int fl), .val (.ref b1), .val (.int (fl &&& (3 : Int32))), .val (.long (-9223372036854775808 : Int64)), .second, .val (.int ed), .val (.long lt), .second] []) (fun t k => st9.trans k) ?_
      refine Goes.to (T' := T9) (mkF m 157 #[.val (.long t0), .second, .val (.long t1), .second, .val (.long d), .second, .val (.int fl), .val (.ref b1), .val (.int (fl &&& (3 : Int32))), .val (.long (-9223372036854775808 : Int64)), .second, .val (.int ed), .val (.long lt), .second] [(.long lt)]) (fun t k => XS.lload X9.here hx rfl (hb hby at_155) rfl k) ?_
      refine Goes.to (T' := T9) (mkF m 159 #[.val (.long t0), .second, .val (.long t1), .second, .val (.long d), .second, .val (.int fl), .val (.ref b1), .val (.int (fl &&& (3 : Int32))), .val (.long (-9223372036854775808 : Int64)), .second, .val (.int ed), .val (.long lt), .second] [(.long (-9223372036854775808 : Int64)), (.long lt)]) (fun t k => XS.lload X9.here hx rfl (hb hby at_157) rfl k) ?_
      refine Goes.to (T' := T9) (mkF m 160 #[.val (.long t0), .second, .val (.long t1), .second, .val (.long d), .second, .val (.int fl), .val (.ref b1), .val (.int (fl &&& (3 : Int32))), .val (.long (-9223372036854775808 : Int64)), .second, .val (.int ed), .val (.long lt), .second] [(.int (lcmpW lt (-9223372036854775808 : Int64)))]) (fun t k => XS.lcmp X9.here hx rfl (hb hby at_159) rfl k) ?_
      refine Goes.to (T' := T9) (mkF m 163 #[.val (.long t0), .second, .val (.long t1), .second, .val (.long d), .second, .val (.int fl), .val (.ref b1), .val (.int (fl &&& (3 : Int32))), .val (.long (-9223372036854775808 : Int64)), .second, .val (.int ed), .val (.long lt), .second] []) (fun t k => XS.ifNo X9.here hx rfl (hb hby at_160) rfl ((if0 _ _).trans (tlt ((lw_gt _ _).mpr hl : (0 : Int32) < (lcmpW lt (-9223372036854775808 : Int64)))).2.2.2) k) ?_
      refine Goes.to (T' := T9) (mkF m 164 #[.val (.long t0), .second, .val (.long t1), .second, .val (.long d), .second, .val (.int fl), .val (.ref b1), .val (.int (fl &&& (3 : Int32))), .val (.long (-9223372036854775808 : Int64)), .second, .val (.int ed), .val (.long lt), .second] [(.int (1 : Int32))]) (fun t k => XS.iconst X9.here hx rfl (hb hby at_163) k) ?_
      refine Goes.to (T' := T9) (mkF m 168 #[.val (.long t0), .second, .val (.long t1), .second, .val (.long d), .second, .val (.int fl), .val (.ref b1), .val (.int (fl &&& (3 : Int32))), .val (.long (-9223372036854775808 : Int64)), .second, .val (.int ed), .val (.long lt), .second] [(.int (1 : Int32))]) (fun t k => XS.goto X9.here hx rfl (pc0 := 164) (pc' := 168) rfl (hb hby at_164) (by decide) (by decide) k) ?_
      refine Goes.retN X9 hx Bd.notSynchronized (t := .boolean) Bd.returns (by simp) (hb hby at_168) (by decide) (by decide) ?_
      rw [hs9]
      exact ⟨rfl, N9'⟩
  · refine Goes.to (T' := T2) (mkF m 28 #[.val (.long t0), .second, .val (.long t1), .second, .val (.long d), .second, .val (.int fl), .val (.ref b1), .val (.int (fl &&& (3 : Int32))), .unset, .unset, .unset, .unset, .unset] []) (fun t k => XS.ifYes X2.here hx rfl (pc0 := 17) (pc' := 28) rfl (hb hby at_17) rfl ((if0 _ _).trans (feq hc17_3).2) (by decide) (by decide) k) ?_
    refine Goes.to (T' := T2) (mkF m 30 #[.val (.long t0), .second, .val (.long t1), .second, .val (.long d), .second, .val (.int fl), .val (.ref b1), .val (.int (fl &&& (3 : Int32))), .unset, .unset, .unset, .unset, .unset] [(.int (fl &&& (3 : Int32)))]) (fun t k => XS.iload X2.here hx rfl (hb hby at_28) rfl k) ?_
    refine Goes.to (T' := T2) (mkF m 31 #[.val (.long t0), .second, .val (.long t1), .second, .val (.long d), .second, .val (.int fl), .val (.ref b1), .val (.int (fl &&& (3 : Int32))), .unset, .unset, .unset, .unset, .unset] [(.int (1 : Int32)), (.int (fl &&& (3 : Int32)))]) (fun t k => XS.iconst X2.here hx rfl (hb hby at_30) k) ?_
    by_cases hc31_10 : (fl &&& (3 : Int32)) = (1 : Int32)
    · refine Goes.to (T' := T2) (mkF m 34 #[.val (.long t0), .second, .val (.long t1), .second, .val (.long d), .second, .val (.int fl), .val (.ref b1), .val (.int (fl &&& (3 : Int32))), .unset, .unset, .unset, .unset, .unset] []) (fun t k => XS.icmpNo X2.here hx rfl (hb hby at_31) rfl (teq hc31_10).2 k) ?_
      refine Goes.to (T' := T2) (mkF m 36 #[.val (.long t0), .second, .val (.long t1), .second, .val (.long d), .second, .val (.int fl), .val (.ref b1), .val (.int (fl &&& (3 : Int32))), .unset, .unset, .unset, .unset, .unset] [(.ref b1)]) (fun t k => XS.aload X2.here hx rfl (hb hby at_34) rfl rfl k) ?_
      refine Goes.to (T' := T2) (mkF m 37 #[.val (.long t0), .second, .val (.long t1), .second, .val (.long d), .second, .val (.int fl), .val (.ref b1), .val (.int (fl &&& (3 : Int32))), .unset, .unset, .unset, .unset, .unset] [(.long t0), (.ref b1)]) (fun t k => XS.lloadN X2.here hx rfl (hb hby at_36) rfl k) ?_
      obtain ⟨cq11, kq11, q11a, q11b, q11c⟩ := isOf hZ rfl E_b1
      obtain ⟨_, _, ⟨T11, L11, k11, n11⟩, -, X11, ⟨Lc11, hQ11, l11, y11, z11⟩, st11⟩ := X2.virtualBack hx (y := (⟨"com/example/marktide/marktide/engine/HourlyAverage", "closeThrough", "(J)Ljava/util/Optional;"⟩ : MethodName)) (z := (⟨"com/example/marktide/marktide/engine/HourlyAverage", "closeThrough", "(J)Ljava/util/Optional;"⟩ : MethodName)) hown (mvT hZ (hw _ (List.mem_of_getElem? (i := 16) rfl))) (mvT hZ (hw _ (List.mem_of_getElem? (i := 17) rfl))) (notFace_of_selects (args := #[]) (mvT hZ (hw _ (List.mem_of_getElem? (i := 19) rfl)))) (mvT hZ (hw _ (List.mem_of_getElem? (i := 19) rfl))) (mvT hZ (hw _ (List.mem_of_getElem? (i := 18) rfl))) (by decide) (backOf (W := 0) (rm_close l Z a0 hw [] b1 t0 (-9223372036854775808) em T2.heap n0 O F_through_b1 F_lastClosing_b1 F_weighted_b1 E_b1 g_b1 S_EMPTY (own_ge_min _)) hZ (hw _ (List.mem_of_getElem? (i := 20) rfl)) (hw _ (List.mem_of_getElem? (i := 2) rfl)) (by decide) (by decide)) q11a q11c (g := (mkF m 37 #[.val (.long t0), .second, .val (.long t1), .second, .val (.long d), .second, .val (.int fl), .val (.ref b1), .val (.int (fl &&& (3 : Int32))), .unset, .unset, .unset, .unset, .unset] [(.long t0), (.ref b1)])) rfl (by rw [hml]; rfl) (Steps.refl _) (argsL := [(.long t0)]) (rest := []) (lenOf pd_3 rfl) rfl (by show 2 * 0 + _ ≤ _; exact Nat.le_of_eq rfl) (hb hby at_37) (fun _ _ => ⟨rfl, rfl, (by decide : 1 + 0 ≤ _), (by decide : 7 + 0 ≤ _)⟩)
      dsimp only [Pt.U, Pt.locs, Pt.cells, Pt.slots] at X11 l11 y11 z11 st11 hQ11
      subst l11 y11 z11
      obtain ⟨rfl, N11, K11, F_through_b1, F_lastClosing_b1, F_weighted_b1⟩ := hQ11
      have N11' := Fr.app N2' N11
      replace E_b1 := E_b1.keep K11
      replace O := O.keep K11 (allS g_b1 all0)
      refine Goes.to (T' := T11) (mkF m 40 #[.val (.long t0), .second, .val (.long t1), .second, .val (.long d), .second, .val (.int fl), .val (.ref b1), .val (.int (fl &&& (3 : Int32))), .unset, .unset, .unset, .unset, .unset] [(.ref em)]) (fun t k => st11.trans k) ?_
      refine Goes.to (T' := T11) (mkF m 41 #[.val (.long t0), .second, .val (.long t1), .second, .val (.long d), .second, .val (.int fl), .val (.ref b1), .val (.int (fl &&& (3 : Int32))), .unset, .unset, .unset, .unset, .unset] []) (fun t k => XS.pop X11.here hx rfl (hb hby at_40) rfl rfl k) ?_
      refine Goes.to (T' := T11) (mkF m 42 #[.val (.long t0), .second, .val (.long t1), .second, .val (.long d), .second, .val (.int fl), .val (.ref b1), .val (.int (fl &&& (3 : Int32))), .unset, .unset, .unset, .unset, .unset] [(.long t0)]) (fun t k => XS.lloadN X11.here hx rfl (hb hby at_41) rfl k) ?_
      refine Goes.to (T' := T11) (mkF m 44 #[.val (.long t0), .second, .val (.long t1), .second, .val (.long d), .second, .val (.int fl), .val (.ref b1), .val (.int (fl &&& (3 : Int32))), .val (.long t0), .second, .unset, .unset, .unset] []) (fun t k => XS.lstore X11.here hx rfl (hb hby at_42) rfl (l' := #[.val (.long t0), .second, .val (.long t1), .second, .val (.long d), .second, .val (.int fl), .val (.ref b1), .val (.int (fl &&& (3 : Int32))), .val (.long t0), .second, .unset, .unset, .unset]) rfl k) ?_
      refine Goes.to (T' := T11) (mkF m 99 #[.val (.long t0), .second, .val (.long t1), .second, .val (.long d), .second, .val (.int fl), .val (.ref b1), .val (.int (fl &&& (3 : Int32))), .val (.long t0), .second, .unset, .unset, .unset] []) (fun t k => XS.goto X11.here hx rfl (pc0 := 44) (pc' := 99) rfl (hb hby at_44) (by decide) (by decide) k) ?_
      refine Goes.to (T' := T11) (mkF m 101 #[.val (.long t0), .second, .val (.long t1), .second, .val (.long d), .second, .val (.int fl), .val (.ref b1), .val (.int (fl &&& (3 : Int32))), .val (.long t0), .second, .unset, .unset, .unset] [(.long t0)]) (fun t k => XS.lload X11.here hx rfl (hb hby at_99) rfl k) ?_
      refine Goes.to (T' := T11) (mkF m 104 #[.val (.long t0), .second, .val (.long t1), .second, .val (.long d), .second, .val (.int fl), .val (.ref b1), .val (.int (fl &&& (3 : Int32))), .val (.long t0), .second, .unset, .unset, .unset] [(.long (9223372036854775807 : Int64)), (.long t0)]) (fun t k => X11.ldc2Long hx hown (mvT hZ (hw _ (List.mem_of_getElem? (i := 34) rfl))) (g := (mkF m 101 #[.val (.long t0), .second, .val (.long t1), .second, .val (.long d), .second, .val (.int fl), .val (.ref b1), .val (.int (fl &&& (3 : Int32))), .val (.long t0), .second, .unset, .unset, .unset] [(.long t0)])) rfl (hb hby at_101) _ k) ?_
      refine Goes.to (T' := T11) (mkF m 105 #[.val (.long t0), .second, .val (.long t1), .second, .val (.long d), .second, .val (.int fl), .val (.ref b1), .val (.int (fl &&& (3 : Int32))), .val (.long t0), .second, .unset, .unset, .unset] [(.int (lcmpW t0 (9223372036854775807 : Int64)))]) (fun t k => XS.lcmp X11.here hx rfl (hb hby at_104) rfl k) ?_
      by_cases hc105_12 : (lcmpW t0 (9223372036854775807 : Int64)) = (0 : Int32)
      · refine Goes.to (T' := T11) (mkF m 108 #[.val (.long t0), .second, .val (.long t1), .second, .val (.long d), .second, .val (.int fl), .val (.ref b1), .val (.int (fl &&& (3 : Int32))), .val (.long t0), .second, .unset, .unset, .unset] []) (fun t k => XS.ifNo X11.here hx rfl (hb hby at_105) rfl ((if0 _ _).trans (teq hc105_12).2) k) ?_
        refine Goes.to (T' := T11) (mkF m 109 #[.val (.long t0), .second, .val (.long t1), .second, .val (.long d), .second, .val (.int fl), .val (.ref b1), .val (.int (fl &&& (3 : Int32))), .val (.long t0), .second, .unset, .unset, .unset] [(.int (1 : Int32))]) (fun t k => XS.iconst X11.here hx rfl (hb hby at_108) k) ?_
        refine Goes.retN X11 hx Bd.notSynchronized (t := .boolean) Bd.returns (by simp) (hb hby at_109) (by decide) (by decide) ?_
        exact ⟨rfl, N11'⟩
      · refine Goes.to (T' := T11) (mkF m 110 #[.val (.long t0), .second, .val (.long t1), .second, .val (.long d), .second, .val (.int fl), .val (.ref b1), .val (.int (fl &&& (3 : Int32))), .val (.long t0), .second, .unset, .unset, .unset] []) (fun t k => XS.ifYes X11.here hx rfl (pc0 := 105) (pc' := 110) rfl (hb hby at_105) rfl ((if0 _ _).trans (feq hc105_12).2) (by decide) (by decide) k) ?_
        refine Goes.to (T' := T11) (mkF m 112 #[.val (.long t0), .second, .val (.long t1), .second, .val (.long d), .second, .val (.int fl), .val (.ref b1), .val (.int (fl &&& (3 : Int32))), .val (.long t0), .second, .unset, .unset, .unset] [(.int fl)]) (fun t k => XS.iload X11.here hx rfl (hb hby at_110) rfl k) ?_
        refine Goes.to (T' := T11) (mkF m 113 #[.val (.long t0), .second, .val (.long t1), .second, .val (.long d), .second, .val (.int fl), .val (.ref b1), .val (.int (fl &&& (3 : Int32))), .val (.long t0), .second, .unset, .unset, .unset] [(.int (4 : Int32)), (.int fl)]) (fun t k => XS.iconst X11.here hx rfl (hb hby at_112) k) ?_
        refine Goes.to (T' := T11) (mkF m 114 #[.val (.long t0), .second, .val (.long t1), .second, .val (.long d), .second, .val (.int fl), .val (.ref b1), .val (.int (fl &&& (3 : Int32))), .val (.long t0), .second, .unset, .unset, .unset] [(.int (fl &&& (4 : Int32)))]) (fun t k => XS.iand X11.here hx rfl (hb hby at_113) rfl k) ?_
        have D114_13 : ∀ t, Steps p.tables e below (T11.setTop (mkF m 122 #[.val (.long t0), .second, .val (.long t1), .second, .val (.long d), .second, .val (.int fl), .val (.ref b1), .val (.int (fl &&& (3 : Int32))), .val (.long t0), .second, .unset, .unset, .unset] [(.int (if (fl &&& (4 : Int32)) = (0 : Int32) then (0 : Int32) else (1 : Int32)))])) t → Steps p.tables e below (T11.setTop (mkF m 114 #[.val (.long t0), .second, .val (.long t1), .second, .val (.long d), .second, .val (.int fl), .val (.ref b1), .val (.int (fl &&& (3 : Int32))), .val (.long t0), .second, .unset, .unset, .unset] [(.int (fl &&& (4 : Int32)))])) t := by
          intro t k
          by_cases hq : (fl &&& (4 : Int32)) = (0 : Int32)
          · simp only [if_pos hq] at k
            refine XS.ifYes X11.here hx rfl (pc0 := 114) (pc' := 121) rfl (hb hby at_114) rfl ((if0 _ _).trans (teq hq).1) (by decide) (by decide) ?_
            show Steps p.tables e below (T11.setTop (mkF m 121 #[.val (.long t0), .second, .val (.long t1), .second, .val (.long d), .second, .val (.int fl), .val (.ref b1), .val (.int (fl &&& (3 : Int32))), .val (.long t0), .second, .unset, .unset, .unset] [])) _
            refine XS.iconst X11.here hx rfl (hb hby at_121) ?_
            show Steps p.tables e below (T11.setTop (mkF m 122 #[.val (.long t0), .second, .val (.long t1), .second, .val (.long d), .second, .val (.int fl), .val (.ref b1), .val (.int (fl &&& (3 : Int32))), .val (.long t0), .second, .unset, .unset, .unset] [(.int (0 : Int32))])) _
            exact k
          · simp only [if_neg hq] at k
            refine XS.ifNo X11.here hx rfl (hb hby at_114) rfl ((if0 _ _).trans (feq hq).1) ?_
            show Steps p.tables e below (T11.setTop (mkF m 117 #[.val (.long t0), .second, .val (.long t1), .second, .val (.long d), .second, .val (.int fl), .val (.ref b1), .val (.int (fl &&& (3 : Int32))), .val (.long t0), .second, .unset, .unset, .unset] [])) _
            refine XS.iconst X11.here hx rfl (hb hby at_117) ?_
            show Steps p.tables e below (T11.setTop (mkF m 118 #[.val (.long t0), .second, .val (.long t1), .second, .val (.long d), .second, .val (.int fl), .val (.ref b1), .val (.int (fl &&& (3 : Int32))), .val (.long t0), .second, .unset, .unset, .unset] [(.int (1 : Int32))])) _
            refine XS.goto X11.here hx rfl (pc0 := 118) (pc' := 122) rfl (hb hby at_118) (by decide) (by decide) ?_
            show Steps p.tables e below (T11.setTop (mkF m 122 #[.val (.long t0), .second, .val (.long t1), .second, .val (.long d), .second, .val (.int fl), .val (.ref b1), .val (.int (fl &&& (3 : Int32))), .val (.long t0), .second, .unset, .unset, .unset] [(.int (1 : Int32))])) _
            exact k
        refine Goes.to (T' := T11) (mkF m 122 #[.val (.long t0), .second, .val (.long t1), .second, .val (.long d), .second, .val (.int fl), .val (.ref b1), .val (.int (fl &&& (3 : Int32))), .val (.long t0), .second, .unset, .unset, .unset] [(.int (if (fl &&& (4 : Int32)) = (0 : Int32) then (0 : Int32) else (1 : Int32)))]) D114_13 ?_
        obtain ⟨ed, ed_eq⟩ : ∃ z, z = (if (fl &&& (4 : Int32)) = (0 : Int32) then (0 : Int32) else (1 : Int32)) := ⟨_, rfl⟩
        rw [← ed_eq]
        refine Goes.to (T' := T11) (mkF m 124 #[.val (.long t0), .second, .val (.long t1), .second, .val (.long d), .second, .val (.int fl), .val (.ref b1), .val (.int (fl &&& (3 : Int32))), .val (.long t0), .second, .val (.int ed), .unset, .unset] []) (fun t k => XS.istore X11.here hx rfl (hb hby at_122) rfl (l' := #[.val (.long t0), .second, .val (.long t1), .second, .val (.long d), .second, .val (.int fl), .val (.ref b1), .val (.int (fl &&& (3 : Int32))), .val (.long t0), .second, .val (.int ed), .unset, .unset]) rfl k) ?_
        have D124_15 : ∀ t, Steps p.tables e below (T11.setTop (mkF m 146 #[.val (.long t0), .second, .val (.long t1), .second, .val (.long d), .second, .val (.int fl), .val (.ref b1), .val (.int (fl &&& (3 : Int32))), .val (.long t0), .second, .val (.int ed), .unset, .unset] [(.long (if ed = (0 : Int32) then (if (0 : Int32) < (lcmpW d t0) then d else (t0 + (1 : Int64))) else (t0 + (1 : Int64))))])) t → Steps p.tables e below (T11.setTop (mkF m 124 #[.val (.long t0), .second, .val (.long t1), .second, .val (.long d), .second, .val (.int fl), .val (.ref b1), .val (.int (fl &&& (3 : Int32))), .val (.long t0), .second, .val (.int ed), .unset, .unset] [])) t := by
          intro t k
          refine XS.iload X11.here hx rfl (hb hby at_124) rfl ?_
          show Steps p.tables e below (T11.setTop (mkF m 126 #[.val (.long t0), .second, .val (.long t1), .second, .val (.long d), .second, .val (.int fl), .val (.ref b1), .val (.int (fl &&& (3 : Int32))), .val (.long t0), .second, .val (.int ed), .unset, .unset] [(.int ed)])) _
          by_cases hq : ed = (0 : Int32)
          · simp only [if_pos hq] at k
            refine XS.ifNo X11.here hx rfl (hb hby at_126) rfl ((if0 _ _).trans (teq hq).2) ?_
            show Steps p.tables e below (T11.setTop (mkF m 129 #[.val (.long t0), .second, .val (.long t1), .second, .val (.long d), .second, .val (.int fl), .val (.ref b1), .val (.int (fl &&& (3 : Int32))), .val (.long t0), .second, .val (.int ed), .unset, .unset] [])) _
            refine XS.lload X11.here hx rfl (hb hby at_129) rfl ?_
            show Steps p.tables e below (T11.setTop (mkF m 131 #[.val (.long t0), .second, .val (.long t1), .second, .val (.long d), .second, .val (.int fl), .val (.ref b1), .val (.int (fl &&& (3 : Int32))), .val (.long t0), .second, .val (.int ed), .unset, .unset] [(.long d)])) _
            refine XS.lload X11.here hx rfl (hb hby at_131) rfl ?_
            show Steps p.tables e below (T11.setTop (mkF m 133 #[.val (.long t0), .second, .val (.long t1), .second, .val (.long d), .second, .val (.int fl), .val (.ref b1), .val (.int (fl &&& (3 : Int32))), .val (.long t0), .second, .val (.int ed), .unset, .unset] [(.long t0), (.long d)])) _
            refine XS.lcmp X11.here hx rfl (hb hby at_133) rfl ?_
            show Steps p.tables e below (T11.setTop (mkF m 134 #[.val (.long t0), .second, .val (.long t1), .second, .val (.long d), .second, .val (.int fl), .val (.ref b1), .val (.int (fl &&& (3 : Int32))), .val (.long t0), .second, .val (.int ed), .unset, .unset] [(.int (lcmpW d t0))])) _
            by_cases hq : (0 : Int32) < (lcmpW d t0)
            · simp only [if_pos hq] at k
              refine XS.ifNo X11.here hx rfl (hb hby at_134) rfl ((if0 _ _).trans (tlt hq).2.2.2) ?_
              show Steps p.tables e below (T11.setTop (mkF m 137 #[.val (.long t0), .second, .val (.long t1), .second, .val (.long d), .second, .val (.int fl), .val (.ref b1), .val (.int (fl &&& (3 : Int32))), .val (.long t0), .second, .val (.int ed), .unset, .unset] [])) _
              refine XS.lload X11.here hx rfl (hb hby at_137) rfl ?_
              show Steps p.tables e below (T11.setTop (mkF m 139 #[.val (.long t0), .second, .val (.long t1), .second, .val (.long d), .second, .val (.int fl), .val (.ref b1), .val (.int (fl &&& (3 : Int32))), .val (.long t0), .second, .val (.int ed), .unset, .unset] [(.long d)])) _
              refine XS.goto X11.here hx rfl (pc0 := 139) (pc' := 146) rfl (hb hby at_139) (by decide) (by decide) ?_
              show Steps p.tables e below (T11.setTop (mkF m 146 #[.val (.long t0), .second, .val (.long t1), .second, .val (.long d), .second, .val (.int fl), .val (.ref b1), .val (.int (fl &&& (3 : Int32))), .val (.long t0), .second, .val (.int ed), .unset, .unset] [(.long d)])) _
              exact k
            · simp only [if_neg hq] at k
              refine XS.ifYes X11.here hx rfl (pc0 := 134) (pc' := 142) rfl (hb hby at_134) rfl ((if0 _ _).trans (flt hq).2.2.2) (by decide) (by decide) ?_
              show Steps p.tables e below (T11.setTop (mkF m 142 #[.val (.long t0), .second, .val (.long t1), .second, .val (.long d), .second, .val (.int fl), .val (.ref b1), .val (.int (fl &&& (3 : Int32))), .val (.long t0), .second, .val (.int ed), .unset, .unset] [])) _
              refine XS.lload X11.here hx rfl (hb hby at_142) rfl ?_
              show Steps p.tables e below (T11.setTop (mkF m 144 #[.val (.long t0), .second, .val (.long t1), .second, .val (.long d), .second, .val (.int fl), .val (.ref b1), .val (.int (fl &&& (3 : Int32))), .val (.long t0), .second, .val (.int ed), .unset, .unset] [(.long t0)])) _
              refine XS.lconst X11.here hx rfl (hb hby at_144) ?_
              show Steps p.tables e below (T11.setTop (mkF m 145 #[.val (.long t0), .second, .val (.long t1), .second, .val (.long d), .second, .val (.int fl), .val (.ref b1), .val (.int (fl &&& (3 : Int32))), .val (.long t0), .second, .val (.int ed), .unset, .unset] [(.long (1 : Int64)), (.long t0)])) _
              refine XS.ladd X11.here hx rfl (hb hby at_145) rfl ?_
              show Steps p.tables e below (T11.setTop (mkF m 146 #[.val (.long t0), .second, .val (.long t1), .second, .val (.long d), .second, .val (.int fl), .val (.ref b1), .val (.int (fl &&& (3 : Int32))), .val (.long t0), .second, .val (.int ed), .unset, .unset] [(.long (t0 + (1 : Int64)))])) _
              exact k
          · simp only [if_neg hq] at k
            refine XS.ifYes X11.here hx rfl (pc0 := 126) (pc' := 142) rfl (hb hby at_126) rfl ((if0 _ _).trans (feq hq).2) (by decide) (by decide) ?_
            show Steps p.tables e below (T11.setTop (mkF m 142 #[.val (.long t0), .second, .val (.long t1), .second, .val (.long d), .second, .val (.int fl), .val (.ref b1), .val (.int (fl &&& (3 : Int32))), .val (.long t0), .second, .val (.int ed), .unset, .unset] [])) _
            refine XS.lload X11.here hx rfl (hb hby at_142) rfl ?_
            show Steps p.tables e below (T11.setTop (mkF m 144 #[.val (.long t0), .second, .val (.long t1), .second, .val (.long d), .second, .val (.int fl), .val (.ref b1), .val (.int (fl &&& (3 : Int32))), .val (.long t0), .second, .val (.int ed), .unset, .unset] [(.long t0)])) _
            refine XS.lconst X11.here hx rfl (hb hby at_144) ?_
            show Steps p.tables e below (T11.setTop (mkF m 145 #[.val (.long t0), .second, .val (.long t1), .second, .val (.long d), .second, .val (.int fl), .val (.ref b1), .val (.int (fl &&& (3 : Int32))), .val (.long t0), .second, .val (.int ed), .unset, .unset] [(.long (1 : Int64)), (.long t0)])) _
            refine XS.ladd X11.here hx rfl (hb hby at_145) rfl ?_
            show Steps p.tables e below (T11.setTop (mkF m 146 #[.val (.long t0), .second, .val (.long t1), .second, .val (.long d), .second, .val (.int fl), .val (.ref b1), .val (.int (fl &&& (3 : Int32))), .val (.long t0), .second, .val (.int ed), .unset, .unset] [(.long (t0 + (1 : Int64)))])) _
            exact k
        refine Goes.to (T' := T11) (mkF m 146 #[.val (.long t0), .second, .val (.long t1), .second, .val (.long d), .second, .val (.int fl), .val (.ref b1), .val (.int (fl &&& (3 : Int32))), .val (.long t0), .second, .val (.int ed), .unset, .unset] [(.long (if ed = (0 : Int32) then (if (0 : Int32) < (lcmpW d t0) then d else (t0 + (1 : Int64))) else (t0 + (1 : Int64))))]) D124_15 ?_
        have hl0 := own_later d t0 ed (fun z => hc105_12 ((lw_eq _ _).mpr z))
        revert hl0
        generalize (if ed = (0 : Int32) then (if (0 : Int32) < (lcmpW d t0) then d else (t0 + (1 : Int64))) else (t0 + (1 : Int64))) = lt
        intro hl
        refine Goes.to (T' := T11) (mkF m 148 #[.val (.long t0), .second, .val (.long t1), .second, .val (.long d), .second, .val (.int fl), .val (.ref b1), .val (.int (fl &&& (3 : Int32))), .val (.long t0), .second, .val (.int ed), .val (.long lt), .second] []) (fun t k => XS.lstore X11.here hx rfl (hb hby at_146) rfl (l' := #[.val (.long t0), .second, .val (.long t1), .second, .val (.long d), .second, .val (.int fl), .val (.ref b1), .val (.int (fl &&& (3 : Int32))), .val (.long t0), .second, .val (.int ed), .val (.long lt), .second]) rfl k) ?_
        refine Goes.to (T' := T11) (mkF m 150 #[.val (.long t0), .second, .val (.long t1), .second, .val (.long d), .second, .val (.int fl), .val (.ref b1), .val (.int (fl &&& (3 : Int32))), .val (.long t0), .second, .val (.int ed), .val (.long lt), .second] [(.ref b1)]) (fun t k => XS.aload X11.here hx rfl (hb hby at_148) rfl rfl k) ?_
        refine Goes.to (T' := T11) (mkF m 152 #[.val (.long t0), .second, .val (.long t1), .second, .val (.long d), .second, .val (.int fl), .val (.ref b1), .val (.int (fl &&& (3 : Int32))), .val (.long t0), .second, .val (.int ed), .val (.long lt), .second] [(.long lt), (.ref b1)]) (fun t k => XS.lload X11.here hx rfl (hb hby at_150) rfl k) ?_
        obtain ⟨cq17, kq17, q17a, q17b, q17c⟩ := isOf hZ rfl E_b1
        obtain ⟨_, _, ⟨T17, L17, k17, n17⟩, -, X17, ⟨Lc17, hQ17, l17, y17, z17⟩, st17⟩ := X11.virtualBack hx (y := (⟨"com/example/marktide/marktide/engine/HourlyAverage", "requireLater", "(J)V"⟩ : MethodName)) (z := (⟨"com/example/marktide/marktide/engine/HourlyAverage", "requireLater", "(J)V"⟩ : MethodName)) hown (mvT hZ (hw _ (List.mem_of_getElem? (i := 35) rfl))) (mvT hZ (hw _ (List.mem_of_getElem? (i := 36) rfl))) (notFace_of_selects (args := #[]) (mvT hZ (hw _ (List.mem_of_getElem? (i := 38) rfl)))) (mvT hZ (hw _ (List.mem_of_getElem? (i := 38) rfl))) (mvT hZ (hw _ (List.mem_of_getElem? (i := 37) rfl))) (by decide) (backOf (W := 0) (rm_later l Z a0 hw [] b1 lt t0 T11.heap n0 O F_through_b1 hl) hZ (hw _ (List.mem_of_getElem? (i := 39) rfl)) (hw _ (List.mem_of_getElem? (i := 2) rfl)) (by decide) (by decide)) q17a q17c (g := (mkF m 152 #[.val (.long t0), .second, .val (.long t1), .second, .val (.long d), .second, .val (.int fl), .val (.ref b1), .val (.int (fl &&& (3 : Int32))), .val (.long t0), .second, .val (.int ed), .val (.long lt), .second] [(.long lt), (.ref b1)])) rfl (by rw [hml]; rfl) (Steps.refl _) (argsL := [(.long lt)]) (rest := []) (lenOf pd_0 rfl) rfl (by show 2 * 0 + _ ≤ _; exact Nat.le_of_eq rfl) (hb hby at_152) (fun _ _ => ⟨rfl, rfl, (by decide : 1 + 0 ≤ _), (by decide : 7 + 0 ≤ _)⟩)
        dsimp only [Pt.U, Pt.locs, Pt.cells, Pt.slots] at X17 l17 y17 z17 st17 hQ17
        subst l17 y17 z17
        obtain ⟨rfl, N17, hs17⟩ := hQ17
        have N17' := Fr.app N11' N17
        refine Goes.to (T' := T17) (mkF m 155 #[.val (.long t0), .second, .val (.long t1), .second, .val (.long d), .second, .val (.int fl), .val (.ref b1), .val (.int (fl &&& (3 : Int32))), .val (.long t0), .second, .val (.int ed), .val (.long lt), .second] []) (fun t k => st17.trans k) ?_
        refine Goes.to (T' := T17) (mkF m 157 #[.val (.long t0), .second, .val (.long t1), .second, .val (.long d), .second, .val (.int fl), .val (.ref b1), .val (.int (fl &&& (3 : Int32))), .val (.long t0), .second, .val (.int ed), .val (.long lt), .second] [(.long lt)]) (fun t k => XS.lload X17.here hx rfl (hb hby at_155) rfl k) ?_
        refine Goes.to (T' := T17) (mkF m 159 #[.val (.long t0), .second, .val (.long t1), .second, .val (.long d), .second, .val (.int fl), .val (.ref b1), .val (.int (fl &&& (3 : Int32))), .val (.long t0), .second, .val (.int ed), .val (.long lt), .second] [(.long t0), (.long lt)]) (fun t k => XS.lload X17.here hx rfl (hb hby at_157) rfl k) ?_
        refine Goes.to (T' := T17) (mkF m 160 #[.val (.long t0), .second, .val (.long t1), .second, .val (.long d), .second, .val (.int fl), .val (.ref b1), .val (.int (fl &&& (3 : Int32))), .val (.long t0), .second, .val (.int ed), .val (.long lt), .second] [(.int (lcmpW lt t0))]) (fun t k => XS.lcmp X17.here hx rfl (hb hby at_159) rfl k) ?_
        refine Goes.to (T' := T17) (mkF m 163 #[.val (.long t0), .second, .val (.long t1), .second, .val (.long d), .second, .val (.int fl), .val (.ref b1), .val (.int (fl &&& (3 : Int32))), .val (.long t0), .second, .val (.int ed), .val (.long lt), .second] []) (fun t k => XS.ifNo X17.here hx rfl (hb hby at_160) rfl ((if0 _ _).trans (tlt ((lw_gt _ _).mpr hl : (0 : Int32) < (lcmpW lt t0))).2.2.2) k) ?_
        refine Goes.to (T' := T17) (mkF m 164 #[.val (.long t0), .second, .val (.long t1), .second, .val (.long d), .second, .val (.int fl), .val (.ref b1), .val (.int (fl &&& (3 : Int32))), .val (.long t0), .second, .val (.int ed), .val (.long lt), .second] [(.int (1 : Int32))]) (fun t k => XS.iconst X17.here hx rfl (hb hby at_163) k) ?_
        refine Goes.to (T' := T17) (mkF m 168 #[.val (.long t0), .second, .val (.long t1), .second, .val (.long d), .second, .val (.int fl), .val (.ref b1), .val (.int (fl &&& (3 : Int32))), .val (.long t0), .second, .val (.int ed), .val (.long lt), .second] [(.int (1 : Int32))]) (fun t k => XS.goto X17.here hx rfl (pc0 := 164) (pc' := 168) rfl (hb hby at_164) (by decide) (by decide) k) ?_
        refine Goes.retN X17 hx Bd.notSynchronized (t := .boolean) Bd.returns (by simp) (hb hby at_168) (by decide) (by decide) ?_
        rw [hs17]
        exact ⟨rfl, N17'⟩
    · refine Goes.to (T' := T2) (mkF m 47 #[.val (.long t0), .second, .val (.long t1), .second, .val (.long d), .second, .val (.int fl), .val (.ref b1), .val (.int (fl &&& (3 : Int32))), .unset, .unset, .unset, .unset, .unset] []) (fun t k => XS.icmpYes X2.here hx rfl (pc0 := 31) (pc' := 47) rfl (hb hby at_31) rfl (feq hc31_10).2 (by decide) (by decide) k) ?_
      refine Goes.to (T' := T2) (mkF m 49 #[.val (.long t0), .second, .val (.long t1), .second, .val (.long d), .second, .val (.int fl), .val (.ref b1), .val (.int (fl &&& (3 : Int32))), .unset, .unset, .unset, .unset, .unset] [(.int (fl &&& (3 : Int32)))]) (fun t k => XS.iload X2.here hx rfl (hb hby at_47) rfl k) ?_
      refine Goes.to (T' := T2) (mkF m 50 #[.val (.long t0), .second, .val (.long t1), .second, .val (.long d), .second, .val (.int fl), .val (.ref b1), .val (.int (fl &&& (3 : Int32))), .unset, .unset, .unset, .unset, .unset] [(.int (2 : Int32)), (.int (fl &&& (3 : Int32)))]) (fun t k => XS.iconst X2.here hx rfl (hb hby at_49) k) ?_
      by_cases hc50_18 : (fl &&& (3 : Int32)) = (2 : Int32)
      · refine Goes.to (T' := T2) (mkF m 53 #[.val (.long t0), .second, .val (.long t1), .second, .val (.long d), .second, .val (.int fl), .val (.ref b1), .val (.int (fl &&& (3 : Int32))), .unset, .unset, .unset, .unset, .unset] []) (fun t k => XS.icmpNo X2.here hx rfl (hb hby at_50) rfl (teq hc50_18).2 k) ?_
        refine Goes.to (T' := T2) (mkF m 54 #[.val (.long t0), .second, .val (.long t1), .second, .val (.long d), .second, .val (.int fl), .val (.ref b1), .val (.int (fl &&& (3 : Int32))), .unset, .unset, .unset, .unset, .unset] [(.long t0)]) (fun t k => XS.lloadN X2.here hx rfl (hb hby at_53) rfl k) ?_
        refine Goes.to (T' := T2) (mkF m 55 #[.val (.long t0), .second, .val (.long t1), .second, .val (.long d), .second, .val (.int fl), .val (.ref b1), .val (.int (fl &&& (3 : Int32))), .unset, .unset, .unset, .unset, .unset] [(.long t1), (.long t0)]) (fun t k => XS.lloadN X2.here hx rfl (hb hby at_54) rfl k) ?_
        obtain ⟨_, _, ⟨T19, L19, k19, n19⟩, -, X19, ⟨Lc19, hQ19, l19, y19, z19⟩, st19⟩ := Jvm.LawKit.callS X2 hx (y := (⟨"java/lang/Math", "max", "(JJ)J"⟩ : MethodName)) hown (mvT hZ (hw _ (List.mem_of_getElem? (i := 12) rfl))) (mvT hZ (hw _ (List.mem_of_getElem? (i := 13) rfl))) (mvT hZ (hw _ (List.mem_of_getElem? (i := 14) rfl))) (mvT hZ (hw _ (List.mem_of_getElem? (i := 15) rfl))) (by decide) (backOf (W := 0) (rm_max l Z a0 hw [] t0 t1 T2.heap n0 O) hZ (hw _ (List.mem_of_getElem? (i := 15) rfl)) (hw _ (List.mem_of_getElem? (i := 14) rfl)) (by decide) (by decide)) (g := (mkF m 55 #[.val (.long t0), .second, .val (.long t1), .second, .val (.long d), .second, .val (.int fl), .val (.ref b1), .val (.int (fl &&& (3 : Int32))), .unset, .unset, .unset, .unset, .unset] [(.long t1), (.long t0)])) rfl (by rw [hml]; rfl) (argsL := [(.long t0), (.long t1)]) (rest := []) (lenOf pd_4 rfl) rfl (by show 2 * 0 + _ ≤ _; exact Nat.le_of_eq rfl) (hb hby at_55) (fun _ _ => ⟨rfl, rfl, (by decide : 1 + 0 ≤ _), (by decide : 7 + 0 ≤ _)⟩)
        dsimp only [Pt.U, Pt.locs, Pt.cells, Pt.slots] at X19 l19 y19 z19 st19 hQ19
        subst l19 y19 z19
        obtain ⟨rfl, N19, hs19⟩ := hQ19
        have N19' := Fr.app N2' N19
        refine Goes.to (T' := T19) (mkF m 58 #[.val (.long t0), .second, .val (.long t1), .second, .val (.long d), .second, .val (.int fl), .val (.ref b1), .val (.int (fl &&& (3 : Int32))), .unset, .unset, .unset, .unset, .unset] [(.long (own_max t0 t1))]) (fun t k => st19 t k) ?_
        refine Goes.to (T' := T19) (mkF m 60 #[.val (.long t0), .second, .val (.long t1), .second, .val (.long d), .second, .val (.int fl), .val (.ref b1), .val (.int (fl &&& (3 : Int32))), .unset, .unset, .val (.long (own_max t0 t1)), .second, .unset] []) (fun t k => XS.lstore X19.here hx rfl (hb hby at_58) rfl (l' := #[.val (.long t0), .second, .val (.long t1), .second, .val (.long d), .second, .val (.int fl), .val (.ref b1), .val (.int (fl &&& (3 : Int32))), .unset, .unset, .val (.long (own_max t0 t1)), .second, .unset]) rfl k) ?_
        refine Goes.to (T' := T19) (mkF m 62 #[.val (.long t0), .second, .val (.long t1), .second, .val (.long d), .second, .val (.int fl), .val (.ref b1), .val (.int (fl &&& (3 : Int32))), .unset, .unset, .val (.long (own_max t0 t1)), .second, .unset] [(.ref b1)]) (fun t k => XS.aload X19.here hx rfl (hb hby at_60) rfl rfl k) ?_
        refine Goes.to (T' := T19) (mkF m 63 #[.val (.long t0), .second, .val (.long t1), .second, .val (.long d), .second, .val (.int fl), .val (.ref b1), .val (.int (fl &&& (3 : Int32))), .unset, .unset, .val (.long (own_max t0 t1)), .second, .unset] [(.long t0), (.ref b1)]) (fun t k => XS.lloadN X19.here hx rfl (hb hby at_62) rfl k) ?_
        obtain ⟨cq20, kq20, q20a, q20b, q20c⟩ := isOf hZ hs19 E_b1
        obtain ⟨_, _, ⟨T20, L20, k20, n20⟩, -, X20, ⟨Lc20, hQ20, l20, y20, z20⟩, st20⟩ := X19.virtualBack hx (y := (⟨"com/example/marktide/marktide/engine/HourlyAverage", "closeThrough", "(J)Ljava/util/Optional;"⟩ : MethodName)) (z := (⟨"com/example/marktide/marktide/engine/HourlyAverage", "closeThrough", "(J)Ljava/util/Optional;"⟩ : MethodName)) hown (mvT hZ (hw _ (List.mem_of_getElem? (i := 16) rfl))) (mvT hZ (hw _ (List.mem_of_getElem? (i := 17) rfl))) (notFace_of_selects (args := #[]) (mvT hZ (hw _ (List.mem_of_getElem? (i := 19) rfl)))) (mvT hZ (hw _ (List.mem_of_getElem? (i := 19) rfl))) (mvT hZ (hw _ (List.mem_of_getElem? (i := 18) rfl))) (by decide) (backOf (W := 0) (rm_close l Z a0 hw [] b1 t0 (-9223372036854775808) em T2.heap n0 O F_through_b1 F_lastClosing_b1 F_weighted_b1 E_b1 g_b1 S_EMPTY (own_ge_min _)) hZ (hw _ (List.mem_of_getElem? (i := 20) rfl)) (hw _ (List.mem_of_getElem? (i := 2) rfl)) (by decide) (by decide)) q20a q20c (g := (mkF m 63 #[.val (.long t0), .second, .val (.long t1), .second, .val (.long d), .second, .val (.int fl), .val (.ref b1), .val (.int (fl &&& (3 : Int32))), .unset, .unset, .val (.long (own_max t0 t1)), .second, .unset] [(.long t0), (.ref b1)])) rfl (by rw [hml]; rfl) (Steps.refl _) (argsL := [(.long t0)]) (rest := []) (lenOf pd_3 rfl) rfl (by show 2 * 0 + _ ≤ _; exact Nat.le_of_eq rfl) (hb hby at_63) (fun _ _ => ⟨rfl, hs19, (by decide : 1 + 0 ≤ _), (by decide : 7 + 0 ≤ _)⟩)
        dsimp only [Pt.U, Pt.locs, Pt.cells, Pt.slots] at X20 l20 y20 z20 st20 hQ20
        subst l20 y20 z20
        obtain ⟨rfl, N20, K20, F_through_b1, F_lastClosing_b1, F_weighted_b1⟩ := hQ20
        have N20' := Fr.app N19' N20
        replace E_b1 := E_b1.keep K20
        replace O := O.keep K20 (allS g_b1 all0)
        refine Goes.to (T' := T20) (mkF m 66 #[.val (.long t0), .second, .val (.long t1), .second, .val (.long d), .second, .val (.int fl), .val (.ref b1), .val (.int (fl &&& (3 : Int32))), .unset, .unset, .val (.long (own_max t0 t1)), .second, .unset] [(.ref em)]) (fun t k => st20.trans k) ?_
        refine Goes.to (T' := T20) (mkF m 67 #[.val (.long t0), .second, .val (.long t1), .second, .val (.long d), .second, .val (.int fl), .val (.ref b1), .val (.int (fl &&& (3 : Int32))), .unset, .unset, .val (.long (own_max t0 t1)), .second, .unset] []) (fun t k => XS.pop X20.here hx rfl (hb hby at_66) rfl rfl k) ?_
        refine Goes.to (T' := T20) (mkF m 69 #[.val (.long t0), .second, .val (.long t1), .second, .val (.long d), .second, .val (.int fl), .val (.ref b1), .val (.int (fl &&& (3 : Int32))), .unset, .unset, .val (.long (own_max t0 t1)), .second, .unset] [(.ref b1)]) (fun t k => XS.aload X20.here hx rfl (hb hby at_67) rfl rfl k) ?_
        refine Goes.to (T' := T20) (mkF m 71 #[.val (.long t0), .second, .val (.long t1), .second, .val (.long d), .second, .val (.int fl), .val (.ref b1), .val (.int (fl &&& (3 : Int32))), .unset, .unset, .val (.long (own_max t0 t1)), .second, .unset] [(.long (own_max t0 t1)), (.ref b1)]) (fun t k => XS.lload X20.here hx rfl (hb hby at_69) rfl k) ?_
        obtain ⟨cq21, kq21, q21a, q21b, q21c⟩ := isOf hZ rfl E_b1
        obtain ⟨_, _, ⟨T21, L21, k21, n21⟩, -, X21, ⟨Lc21, hQ21, l21, y21, z21⟩, st21⟩ := X20.virtualBack hx (y := (⟨"com/example/marktide/marktide/engine/HourlyAverage", "closeThrough", "(J)Ljava/util/Optional;"⟩ : MethodName)) (z := (⟨"com/example/marktide/marktide/engine/HourlyAverage", "closeThrough", "(J)Ljava/util/Optional;"⟩ : MethodName)) hown (mvT hZ (hw _ (List.mem_of_getElem? (i := 16) rfl))) (mvT hZ (hw _ (List.mem_of_getElem? (i := 17) rfl))) (notFace_of_selects (args := #[]) (mvT hZ (hw _ (List.mem_of_getElem? (i := 19) rfl)))) (mvT hZ (hw _ (List.mem_of_getElem? (i := 19) rfl))) (mvT hZ (hw _ (List.mem_of_getElem? (i := 18) rfl))) (by decide) (backOf (W := 0) (rm_close l Z a0 hw [] b1 (own_max t0 t1) t0 em T20.heap n0 O F_through_b1 F_lastClosing_b1 F_weighted_b1 E_b1 g_b1 S_EMPTY (own_ge_max _ _)) hZ (hw _ (List.mem_of_getElem? (i := 20) rfl)) (hw _ (List.mem_of_getElem? (i := 2) rfl)) (by decide) (by decide)) q21a q21c (g := (mkF m 71 #[.val (.long t0), .second, .val (.long t1), .second, .val (.long d), .second, .val (.int fl), .val (.ref b1), .val (.int (fl &&& (3 : Int32))), .unset, .unset, .val (.long (own_max t0 t1)), .second, .unset] [(.long (own_max t0 t1)), (.ref b1)])) rfl (by rw [hml]; rfl) (Steps.refl _) (argsL := [(.long (own_max t0 t1))]) (rest := []) (lenOf pd_3 rfl) rfl (by show 2 * 0 + _ ≤ _; exact Nat.le_of_eq rfl) (hb hby at_71) (fun _ _ => ⟨rfl, rfl, (by decide : 1 + 0 ≤ _), (by decide : 7 + 0 ≤ _)⟩)
        dsimp only [Pt.U, Pt.locs, Pt.cells, Pt.slots] at X21 l21 y21 z21 st21 hQ21
        subst l21 y21 z21
        obtain ⟨rfl, N21, K21, F_through_b1, F_lastClosing_b1, F_weighted_b1⟩ := hQ21
        have N21' := Fr.app N20' N21
        replace E_b1 := E_b1.keep K21
        replace O := O.keep K21 (allS g_b1 all0)
        refine Goes.to (T' := T21) (mkF m 74 #[.val (.long t0), .second, .val (.long t1), .second, .val (.long d), .second, .val (.int fl), .val (.ref b1), .val (.int (fl &&& (3 : Int32))), .unset, .unset, .val (.long (own_max t0 t1)), .second, .unset] [(.ref em)]) (fun t k => st21.trans k) ?_
        refine Goes.to (T' := T21) (mkF m 75 #[.val (.long t0), .second, .val (.long t1), .second, .val (.long d), .second, .val (.int fl), .val (.ref b1), .val (.int (fl &&& (3 : Int32))), .unset, .unset, .val (.long (own_max t0 t1)), .second, .unset] []) (fun t k => XS.pop X21.here hx rfl (hb hby at_74) rfl rfl k) ?_
        refine Goes.to (T' := T21) (mkF m 77 #[.val (.long t0), .second, .val (.long t1), .second, .val (.long d), .second, .val (.int fl), .val (.ref b1), .val (.int (fl &&& (3 : Int32))), .unset, .unset, .val (.long (own_max t0 t1)), .second, .unset] [(.long (own_max t0 t1))]) (fun t k => XS.lload X21.here hx rfl (hb hby at_75) rfl k) ?_
        refine Goes.to (T' := T21) (mkF m 79 #[.val (.long t0), .second, .val (.long t1), .second, .val (.long d), .second, .val (.int fl), .val (.ref b1), .val (.int (fl &&& (3 : Int32))), .val (.long (own_max t0 t1)), .second, .val (.long (own_max t0 t1)), .second, .unset] []) (fun t k => XS.lstore X21.here hx rfl (hb hby at_77) rfl (l' := #[.val (.long t0), .second, .val (.long t1), .second, .val (.long d), .second, .val (.int fl), .val (.ref b1), .val (.int (fl &&& (3 : Int32))), .val (.long (own_max t0 t1)), .second, .val (.long (own_max t0 t1)), .second, .unset]) rfl k) ?_
        refine Goes.to (T' := T21) (mkF m 99 #[.val (.long t0), .second, .val (.long t1), .second, .val (.long d), .second, .val (.int fl), .val (.ref b1), .val (.int (fl &&& (3 : Int32))), .val (.long (own_max t0 t1)), .second, .val (.long (own_max t0 t1)), .second, .unset] []) (fun t k => XS.goto X21.here hx rfl (pc0 := 79) (pc' := 99) rfl (hb hby at_79) (by decide) (by decide) k) ?_
        refine Goes.to (T' := T21) (mkF m 101 #[.val (.long t0), .second, .val (.long t1), .second, .val (.long d), .second, .val (.int fl), .val (.ref b1), .val (.int (fl &&& (3 : Int32))), .val (.long (own_max t0 t1)), .second, .val (.long (own_max t0 t1)), .second, .unset] [(.long (own_max t0 t1))]) (fun t k => XS.lload X21.here hx rfl (hb hby at_99) rfl k) ?_
        refine Goes.to (T' := T21) (mkF m 104 #[.val (.long t0), .second, .val (.long t1), .second, .val (.long d), .second, .val (.int fl), .val (.ref b1), .val (.int (fl &&& (3 : Int32))), .val (.long (own_max t0 t1)), .second, .val (.long (own_max t0 t1)), .second, .unset] [(.long (9223372036854775807 : Int64)), (.long (own_max t0 t1))]) (fun t k => X21.ldc2Long hx hown (mvT hZ (hw _ (List.mem_of_getElem? (i := 34) rfl))) (g := (mkF m 101 #[.val (.long t0), .second, .val (.long t1), .second, .val (.long d), .second, .val (.int fl), .val (.ref b1), .val (.int (fl &&& (3 : Int32))), .val (.long (own_max t0 t1)), .second, .val (.long (own_max t0 t1)), .second, .unset] [(.long (own_max t0 t1))])) rfl (hb hby at_101) _ k) ?_
        refine Goes.to (T' := T21) (mkF m 105 #[.val (.long t0), .second, .val (.long t1), .second, .val (.long d), .second, .val (.int fl), .val (.ref b1), .val (.int (fl &&& (3 : Int32))), .val (.long (own_max t0 t1)), .second, .val (.long (own_max t0 t1)), .second, .unset] [(.int (lcmpW (own_max t0 t1) (9223372036854775807 : Int64)))]) (fun t k => XS.lcmp X21.here hx rfl (hb hby at_104) rfl k) ?_
        by_cases hc105_22 : (lcmpW (own_max t0 t1) (9223372036854775807 : Int64)) = (0 : Int32)
        · refine Goes.to (T' := T21) (mkF m 108 #[.val (.long t0), .second, .val (.long t1), .second, .val (.long d), .second, .val (.int fl), .val (.ref b1), .val (.int (fl &&& (3 : Int32))), .val (.long (own_max t0 t1)), .second, .val (.long (own_max t0 t1)), .second, .unset] []) (fun t k => XS.ifNo X21.here hx rfl (hb hby at_105) rfl ((if0 _ _).trans (teq hc105_22).2) k) ?_
          refine Goes.to (T' := T21) (mkF m 109 #[.val (.long t0), .second, .val (.long t1), .second, .val (.long d), .second, .val (.int fl), .val (.ref b1), .val (.int (fl &&& (3 : Int32))), .val (.long (own_max t0 t1)), .second, .val (.long (own_max t0 t1)), .second, .unset] [(.int (1 : Int32))]) (fun t k => XS.iconst X21.here hx rfl (hb hby at_108) k) ?_
          refine Goes.retN X21 hx Bd.notSynchronized (t := .boolean) Bd.returns (by simp) (hb hby at_109) (by decide) (by decide) ?_
          exact ⟨rfl, N21'⟩
        · refine Goes.to (T' := T21) (mkF m 110 #[.val (.long t0), .second, .val (.long t1), .second, .val (.long d), .second, .val (.int fl), .val (.ref b1), .val (.int (fl &&& (3 : Int32))), .val (.long (own_max t0 t1)), .second, .val (.long (own_max t0 t1)), .second, .unset] []) (fun t k => XS.ifYes X21.here hx rfl (pc0 := 105) (pc' := 110) rfl (hb hby at_105) rfl ((if0 _ _).trans (feq hc105_22).2) (by decide) (by decide) k) ?_
          refine Goes.to (T' := T21) (mkF m 112 #[.val (.long t0), .second, .val (.long t1), .second, .val (.long d), .second, .val (.int fl), .val (.ref b1), .val (.int (fl &&& (3 : Int32))), .val (.long (own_max t0 t1)), .second, .val (.long (own_max t0 t1)), .second, .unset] [(.int fl)]) (fun t k => XS.iload X21.here hx rfl (hb hby at_110) rfl k) ?_
          refine Goes.to (T' := T21) (mkF m 113 #[.val (.long t0), .second, .val (.long t1), .second, .val (.long d), .second, .val (.int fl), .val (.ref b1), .val (.int (fl &&& (3 : Int32))), .val (.long (own_max t0 t1)), .second, .val (.long (own_max t0 t1)), .second, .unset] [(.int (4 : Int32)), (.int fl)]) (fun t k => XS.iconst X21.here hx rfl (hb hby at_112) k) ?_
          refine Goes.to (T' := T21) (mkF m 114 #[.val (.long t0), .second, .val (.long t1), .second, .val (.long d), .second, .val (.int fl), .val (.ref b1), .val (.int (fl &&& (3 : Int32))), .val (.long (own_max t0 t1)), .second, .val (.long (own_max t0 t1)), .second, .unset] [(.int (fl &&& (4 : Int32)))]) (fun t k => XS.iand X21.here hx rfl (hb hby at_113) rfl k) ?_
          have D114_23 : ∀ t, Steps p.tables e below (T21.setTop (mkF m 122 #[.val (.long t0), .second, .val (.long t1), .second, .val (.long d), .second, .val (.int fl), .val (.ref b1), .val (.int (fl &&& (3 : Int32))), .val (.long (own_max t0 t1)), .second, .val (.long (own_max t0 t1)), .second, .unset] [(.int (if (fl &&& (4 : Int32)) = (0 : Int32) then (0 : Int32) else (1 : Int32)))])) t → Steps p.tables e below (T21.setTop (mkF m 114 #[.val (.long t0), .second, .val (.long t1), .second, .val (.long d), .second, .val (.int fl), .val (.ref b1), .val (.int (fl &&& (3 : Int32))), .val (.long (own_max t0 t1)), .second, .val (.long (own_max t0 t1)), .second, .unset] [(.int (fl &&& (4 : Int32)))])) t := by
            intro t k
            by_cases hq : (fl &&& (4 : Int32)) = (0 : Int32)
            · simp only [if_pos hq] at k
              refine XS.ifYes X21.here hx rfl (pc0 := 114) (pc' := 121) rfl (hb hby at_114) rfl ((if0 _ _).trans (teq hq).1) (by decide) (by decide) ?_
              show Steps p.tables e below (T21.setTop (mkF m 121 #[.val (.long t0), .second, .val (.long t1), .second, .val (.long d), .second, .val (.int fl), .val (.ref b1), .val (.int (fl &&& (3 : Int32))), .val (.long (own_max t0 t1)), .second, .val (.long (own_max t0 t1)), .second, .unset] [])) _
              refine XS.iconst X21.here hx rfl (hb hby at_121) ?_
              show Steps p.tables e below (T21.setTop (mkF m 122 #[.val (.long t0), .second, .val (.long t1), .second, .val (.long d), .second, .val (.int fl), .val (.ref b1), .val (.int (fl &&& (3 : Int32))), .val (.long (own_max t0 t1)), .second, .val (.long (own_max t0 t1)), .second, .unset] [(.int (0 : Int32))])) _
              exact k
            · simp only [if_neg hq] at k
              refine XS.ifNo X21.here hx rfl (hb hby at_114) rfl ((if0 _ _).trans (feq hq).1) ?_
              show Steps p.tables e below (T21.setTop (mkF m 117 #[.val (.long t0), .second, .val (.long t1), .second, .val (.long d), .second, .val (.int fl), .val (.ref b1), .val (.int (fl &&& (3 : Int32))), .val (.long (own_max t0 t1)), .second, .val (.long (own_max t0 t1)), .second, .unset] [])) _
              refine XS.iconst X21.here hx rfl (hb hby at_117) ?_
              show Steps p.tables e below (T21.setTop (mkF m 118 #[.val (.long t0), .second, .val (.long t1), .second, .val (.long d), .second, .val (.int fl), .val (.ref b1), .val (.int (fl &&& (3 : Int32))), .val (.long (own_max t0 t1)), .second, .val (.long (own_max t0 t1)), .second, .unset] [(.int (1 : Int32))])) _
              refine XS.goto X21.here hx rfl (pc0 := 118) (pc' := 122) rfl (hb hby at_118) (by decide) (by decide) ?_
              show Steps p.tables e below (T21.setTop (mkF m 122 #[.val (.long t0), .second, .val (.long t1), .second, .val (.long d), .second, .val (.int fl), .val (.ref b1), .val (.int (fl &&& (3 : Int32))), .val (.long (own_max t0 t1)), .second, .val (.long (own_max t0 t1)), .second, .unset] [(.int (1 : Int32))])) _
              exact k
          refine Goes.to (T' := T21) (mkF m 122 #[.val (.long t0), .second, .val (.long t1), .second, .val (.long d), .second, .val (.int fl), .val (.ref b1), .val (.int (fl &&& (3 : Int32))), .val (.long (own_max t0 t1)), .second, .val (.long (own_max t0 t1)), .second, .unset] [(.int (if (fl &&& (4 : Int32)) = (0 : Int32) then (0 : Int32) else (1 : Int32)))]) D114_23 ?_
          obtain ⟨ed, ed_eq⟩ : ∃ z, z = (if (fl &&& (4 : Int32)) = (0 : Int32) then (0 : Int32) else (1 : Int32)) := ⟨_, rfl⟩
          rw [← ed_eq]
          refine Goes.to (T' := T21) (mkF m 124 #[.val (.long t0), .second, .val (.long t1), .second, .val (.long d), .second, .val (.int fl), .val (.ref b1), .val (.int (fl &&& (3 : Int32))), .val (.long (own_max t0 t1)), .second, .val (.int ed), .unset, .unset] []) (fun t k => XS.istore X21.here hx rfl (hb hby at_122) rfl (l' := #[.val (.long t0), .second, .val (.long t1), .second, .val (.long d), .second, .val (.int fl), .val (.ref b1), .val (.int (fl &&& (3 : Int32))), .val (.long (own_max t0 t1)), .second, .val (.int ed), .unset, .unset]) rfl k) ?_
          have D124_25 : ∀ t, Steps p.tables e below (T21.setTop (mkF m 146 #[.val (.long t0), .second, .val (.long t1), .second, .val (.long d), .second, .val (.int fl), .val (.ref b1), .val (.int (fl &&& (3 : Int32))), .val (.long (own_max t0 t1)), .second, .val (.int ed), .unset, .unset] [(.long (if ed = (0 : Int32) then (if (0 : Int32) < (lcmpW d (own_max t0 t1)) then d else ((own_max t0 t1) + (1 : Int64))) else ((own_max t0 t1) + (1 : Int64))))])) t → Steps p.tables e below (T21.setTop (mkF m 124 #[.val (.long t0), .second, .val (.long t1), .second, .val (.long d), .second, .val (.int fl), .val (.ref b1), .val (.int (fl &&& (3 : Int32))), .val (.long (own_max t0 t1)), .second, .val (.int ed), .unset, .unset] [])) t := by
            intro t k
            refine XS.iload X21.here hx rfl (hb hby at_124) rfl ?_
            show Steps p.tables e below (T21.setTop (mkF m 126 #[.val (.long t0), .second, .val (.long t1), .second, .val (.long d), .second, .val (.int fl), .val (.ref b1), .val (.int (fl &&& (3 : Int32))), .val (.long (own_max t0 t1)), .second, .val (.int ed), .unset, .unset] [(.int ed)])) _
            by_cases hq : ed = (0 : Int32)
            · simp only [if_pos hq] at k
              refine XS.ifNo X21.here hx rfl (hb hby at_126) rfl ((if0 _ _).trans (teq hq).2) ?_
              show Steps p.tables e below (T21.setTop (mkF m 129 #[.val (.long t0), .second, .val (.long t1), .second, .val (.long d), .second, .val (.int fl), .val (.ref b1), .val (.int (fl &&& (3 : Int32))), .val (.long (own_max t0 t1)), .second, .val (.int ed), .unset, .unset] [])) _
              refine XS.lload X21.here hx rfl (hb hby at_129) rfl ?_
              show Steps p.tables e below (T21.setTop (mkF m 131 #[.val (.long t0), .second, .val (.long t1), .second, .val (.long d), .second, .val (.int fl), .val (.ref b1), .val (.int (fl &&& (3 : Int32))), .val (.long (own_max t0 t1)), .second, .val (.int ed), .unset, .unset] [(.long d)])) _
              refine XS.lload X21.here hx rfl (hb hby at_131) rfl ?_
              show Steps p.tables e below (T21.setTop (mkF m 133 #[.val (.long t0), .second, .val (.long t1), .second, .val (.long d), .second, .val (.int fl), .val (.ref b1), .val (.int (fl &&& (3 : Int32))), .val (.long (own_max t0 t1)), .second, .val (.int ed), .unset, .unset] [(.long (own_max t0 t1)), (.long d)])) _
              refine XS.lcmp X21.here hx rfl (hb hby at_133) rfl ?_
              show Steps p.tables e below (T21.setTop (mkF m 134 #[.val (.long t0), .second, .val (.long t1), .second, .val (.long d), .second, .val (.int fl), .val (.ref b1), .val (.int (fl &&& (3 : Int32))), .val (.long (own_max t0 t1)), .second, .val (.int ed), .unset, .unset] [(.int (lcmpW d (own_max t0 t1)))])) _
              by_cases hq : (0 : Int32) < (lcmpW d (own_max t0 t1))
              · simp only [if_pos hq] at k
                refine XS.ifNo X21.here hx rfl (hb hby at_134) rfl ((if0 _ _).trans (tlt hq).2.2.2) ?_
                show Steps p.tables e below (T21.setTop (mkF m 137 #[.val (.long t0), .second, .val (.long t1), .second, .val (.long d), .second, .val (.int fl), .val (.ref b1), .val (.int (fl &&& (3 : Int32))), .val (.long (own_max t0 t1)), .second, .val (.int ed), .unset, .unset] [])) _
                refine XS.lload X21.here hx rfl (hb hby at_137) rfl ?_
                show Steps p.tables e below (T21.setTop (mkF m 139 #[.val (.long t0), .second, .val (.long t1), .second, .val (.long d), .second, .val (.int fl), .val (.ref b1), .val (.int (fl &&& (3 : Int32))), .val (.long (own_max t0 t1)), .second, .val (.int ed), .unset, .unset] [(.long d)])) _
                refine XS.goto X21.here hx rfl (pc0 := 139) (pc' := 146) rfl (hb hby at_139) (by decide) (by decide) ?_
                show Steps p.tables e below (T21.setTop (mkF m 146 #[.val (.long t0), .second, .val (.long t1), .second, .val (.long d), .second, .val (.int fl), .val (.ref b1), .val (.int (fl &&& (3 : Int32))), .val (.long (own_max t0 t1)), .second, .val (.int ed), .unset, .unset] [(.long d)])) _
                exact k
              · simp only [if_neg hq] at k
                refine XS.ifYes X21.here hx rfl (pc0 := 134) (pc' := 142) rfl (hb hby at_134) rfl ((if0 _ _).trans (flt hq).2.2.2) (by decide) (by decide) ?_
                show Steps p.tables e below (T21.setTop (mkF m 142 #[.val (.long t0), .second, .val (.long t1), .second, .val (.long d), .second, .val (.int fl), .val (.ref b1), .val (.int (fl &&& (3 : Int32))), .val (.long (own_max t0 t1)), .second, .val (.int ed), .unset, .unset] [])) _
                refine XS.lload X21.here hx rfl (hb hby at_142) rfl ?_
                show Steps p.tables e below (T21.setTop (mkF m 144 #[.val (.long t0), .second, .val (.long t1), .second, .val (.long d), .second, .val (.int fl), .val (.ref b1), .val (.int (fl &&& (3 : Int32))), .val (.long (own_max t0 t1)), .second, .val (.int ed), .unset, .unset] [(.long (own_max t0 t1))])) _
                refine XS.lconst X21.here hx rfl (hb hby at_144) ?_
                show Steps p.tables e below (T21.setTop (mkF m 145 #[.val (.long t0), .second, .val (.long t1), .second, .val (.long d), .second, .val (.int fl), .val (.ref b1), .val (.int (fl &&& (3 : Int32))), .val (.long (own_max t0 t1)), .second, .val (.int ed), .unset, .unset] [(.long (1 : Int64)), (.long (own_max t0 t1))])) _
                refine XS.ladd X21.here hx rfl (hb hby at_145) rfl ?_
                show Steps p.tables e below (T21.setTop (mkF m 146 #[.val (.long t0), .second, .val (.long t1), .second, .val (.long d), .second, .val (.int fl), .val (.ref b1), .val (.int (fl &&& (3 : Int32))), .val (.long (own_max t0 t1)), .second, .val (.int ed), .unset, .unset] [(.long ((own_max t0 t1) + (1 : Int64)))])) _
                exact k
            · simp only [if_neg hq] at k
              refine XS.ifYes X21.here hx rfl (pc0 := 126) (pc' := 142) rfl (hb hby at_126) rfl ((if0 _ _).trans (feq hq).2) (by decide) (by decide) ?_
              show Steps p.tables e below (T21.setTop (mkF m 142 #[.val (.long t0), .second, .val (.long t1), .second, .val (.long d), .second, .val (.int fl), .val (.ref b1), .val (.int (fl &&& (3 : Int32))), .val (.long (own_max t0 t1)), .second, .val (.int ed), .unset, .unset] [])) _
              refine XS.lload X21.here hx rfl (hb hby at_142) rfl ?_
              show Steps p.tables e below (T21.setTop (mkF m 144 #[.val (.long t0), .second, .val (.long t1), .second, .val (.long d), .second, .val (.int fl), .val (.ref b1), .val (.int (fl &&& (3 : Int32))), .val (.long (own_max t0 t1)), .second, .val (.int ed), .unset, .unset] [(.long (own_max t0 t1))])) _
              refine XS.lconst X21.here hx rfl (hb hby at_144) ?_
              show Steps p.tables e below (T21.setTop (mkF m 145 #[.val (.long t0), .second, .val (.long t1), .second, .val (.long d), .second, .val (.int fl), .val (.ref b1), .val (.int (fl &&& (3 : Int32))), .val (.long (own_max t0 t1)), .second, .val (.int ed), .unset, .unset] [(.long (1 : Int64)), (.long (own_max t0 t1))])) _
              refine XS.ladd X21.here hx rfl (hb hby at_145) rfl ?_
              show Steps p.tables e below (T21.setTop (mkF m 146 #[.val (.long t0), .second, .val (.long t1), .second, .val (.long d), .second, .val (.int fl), .val (.ref b1), .val (.int (fl &&& (3 : Int32))), .val (.long (own_max t0 t1)), .second, .val (.int ed), .unset, .unset] [(.long ((own_max t0 t1) + (1 : Int64)))])) _
              exact k
          refine Goes.to (T' := T21) (mkF m 146 #[.val (.long t0), .second, .val (.long t1), .second, .val (.long d), .second, .val (.int fl), .val (.ref b1), .val (.int (fl &&& (3 : Int32))), .val (.long (own_max t0 t1)), .second, .val (.int ed), .unset, .unset] [(.long (if ed = (0 : Int32) then (if (0 : Int32) < (lcmpW d (own_max t0 t1)) then d else ((own_max t0 t1) + (1 : Int64))) else ((own_max t0 t1) + (1 : Int64))))]) D124_25 ?_
          have hl0 := own_later d (own_max t0 t1) ed (fun z => hc105_22 ((lw_eq _ _).mpr z))
          revert hl0
          generalize (if ed = (0 : Int32) then (if (0 : Int32) < (lcmpW d (own_max t0 t1)) then d else ((own_max t0 t1) + (1 : Int64))) else ((own_max t0 t1) + (1 : Int64))) = lt
          intro hl
          refine Goes.to (T' := T21) (mkF m 148 #[.val (.long t0), .second, .val (.long t1), .second, .val (.long d), .second, .val (.int fl), .val (.ref b1), .val (.int (fl &&& (3 : Int32))), .val (.long (own_max t0 t1)), .second, .val (.int ed), .val (.long lt), .second] []) (fun t k => XS.lstore X21.here hx rfl (hb hby at_146) rfl (l' := #[.val (.long t0), .second, .val (.long t1), .second, .val (.long d), .second, .val (.int fl), .val (.ref b1), .val (.int (fl &&& (3 : Int32))), .val (.long (own_max t0 t1)), .second, .val (.int ed), .val (.long lt), .second]) rfl k) ?_
          refine Goes.to (T' := T21) (mkF m 150 #[.val (.long t0), .second, .val (.long t1), .second, .val (.long d), .second, .val (.int fl), .val (.ref b1), .val (.int (fl &&& (3 : Int32))), .val (.long (own_max t0 t1)), .second, .val (.int ed), .val (.long lt), .second] [(.ref b1)]) (fun t k => XS.aload X21.here hx rfl (hb hby at_148) rfl rfl k) ?_
          refine Goes.to (T' := T21) (mkF m 152 #[.val (.long t0), .second, .val (.long t1), .second, .val (.long d), .second, .val (.int fl), .val (.ref b1), .val (.int (fl &&& (3 : Int32))), .val (.long (own_max t0 t1)), .second, .val (.int ed), .val (.long lt), .second] [(.long lt), (.ref b1)]) (fun t k => XS.lload X21.here hx rfl (hb hby at_150) rfl k) ?_
          obtain ⟨cq27, kq27, q27a, q27b, q27c⟩ := isOf hZ rfl E_b1
          obtain ⟨_, _, ⟨T27, L27, k27, n27⟩, -, X27, ⟨Lc27, hQ27, l27, y27, z27⟩, st27⟩ := X21.virtualBack hx (y := (⟨"com/example/marktide/marktide/engine/HourlyAverage", "requireLater", "(J)V"⟩ : MethodName)) (z := (⟨"com/example/marktide/marktide/engine/HourlyAverage", "requireLater", "(J)V"⟩ : MethodName)) hown (mvT hZ (hw _ (List.mem_of_getElem? (i := 35) rfl))) (mvT hZ (hw _ (List.mem_of_getElem? (i := 36) rfl))) (notFace_of_selects (args := #[]) (mvT hZ (hw _ (List.mem_of_getElem? (i := 38) rfl)))) (mvT hZ (hw _ (List.mem_of_getElem? (i := 38) rfl))) (mvT hZ (hw _ (List.mem_of_getElem? (i := 37) rfl))) (by decide) (backOf (W := 0) (rm_later l Z a0 hw [] b1 lt (own_max t0 t1) T21.heap n0 O F_through_b1 hl) hZ (hw _ (List.mem_of_getElem? (i := 39) rfl)) (hw _ (List.mem_of_getElem? (i := 2) rfl)) (by decide) (by decide)) q27a q27c (g := (mkF m 152 #[.val (.long t0), .second, .val (.long t1), .second, .val (.long d), .second, .val (.int fl), .val (.ref b1), .val (.int (fl &&& (3 : Int32))), .val (.long (own_max t0 t1)), .second, .val (.int ed), .val (.long lt), .second] [(.long lt), (.ref b1)])) rfl (by rw [hml]; rfl) (Steps.refl _) (argsL := [(.long lt)]) (rest := []) (lenOf pd_0 rfl) rfl (by show 2 * 0 + _ ≤ _; exact Nat.le_of_eq rfl) (hb hby at_152) (fun _ _ => ⟨rfl, rfl, (by decide : 1 + 0 ≤ _), (by decide : 7 + 0 ≤ _)⟩)
          dsimp only [Pt.U, Pt.locs, Pt.cells, Pt.slots] at X27 l27 y27 z27 st27 hQ27
          subst l27 y27 z27
          obtain ⟨rfl, N27, hs27⟩ := hQ27
          have N27' := Fr.app N21' N27
          refine Goes.to (T' := T27) (mkF m 155 #[.val (.long t0), .second, .val (.long t1), .second, .val (.long d), .second, .val (.int fl), .val (.ref b1), .val (.int (fl &&& (3 : Int32))), .val (.long (own_max t0 t1)), .second, .val (.int ed), .val (.long lt), .second] []) (fun t k => st27.trans k) ?_
          refine Goes.to (T' := T27) (mkF m 157 #[.val (.long t0), .second, .val (.long t1), .second, .val (.long d), .second, .val (.int fl), .val (.ref b1), .val (.int (fl &&& (3 : Int32))), .val (.long (own_max t0 t1)), .second, .val (.int ed), .val (.long lt), .second] [(.long lt)]) (fun t k => XS.lload X27.here hx rfl (hb hby at_155) rfl k) ?_
          refine Goes.to (T' := T27) (mkF m 159 #[.val (.long t0), .second, .val (.long t1), .second, .val (.long d), .second, .val (.int fl), .val (.ref b1), .val (.int (fl &&& (3 : Int32))), .val (.long (own_max t0 t1)), .second, .val (.int ed), .val (.long lt), .second] [(.long (own_max t0 t1)), (.long lt)]) (fun t k => XS.lload X27.here hx rfl (hb hby at_157) rfl k) ?_
          refine Goes.to (T' := T27) (mkF m 160 #[.val (.long t0), .second, .val (.long t1), .second, .val (.long d), .second, .val (.int fl), .val (.ref b1), .val (.int (fl &&& (3 : Int32))), .val (.long (own_max t0 t1)), .second, .val (.int ed), .val (.long lt), .second] [(.int (lcmpW lt (own_max t0 t1)))]) (fun t k => XS.lcmp X27.here hx rfl (hb hby at_159) rfl k) ?_
          refine Goes.to (T' := T27) (mkF m 163 #[.val (.long t0), .second, .val (.long t1), .second, .val (.long d), .second, .val (.int fl), .val (.ref b1), .val (.int (fl &&& (3 : Int32))), .val (.long (own_max t0 t1)), .second, .val (.int ed), .val (.long lt), .second] []) (fun t k => XS.ifNo X27.here hx rfl (hb hby at_160) rfl ((if0 _ _).trans (tlt ((lw_gt _ _).mpr hl : (0 : Int32) < (lcmpW lt (own_max t0 t1)))).2.2.2) k) ?_
          refine Goes.to (T' := T27) (mkF m 164 #[.val (.long t0), .second, .val (.long t1), .second, .val (.long d), .second, .val (.int fl), .val (.ref b1), .val (.int (fl &&& (3 : Int32))), .val (.long (own_max t0 t1)), .second, .val (.int ed), .val (.long lt), .second] [(.int (1 : Int32))]) (fun t k => XS.iconst X27.here hx rfl (hb hby at_163) k) ?_
          refine Goes.to (T' := T27) (mkF m 168 #[.val (.long t0), .second, .val (.long t1), .second, .val (.long d), .second, .val (.int fl), .val (.ref b1), .val (.int (fl &&& (3 : Int32))), .val (.long (own_max t0 t1)), .second, .val (.int ed), .val (.long lt), .second] [(.int (1 : Int32))]) (fun t k => XS.goto X27.here hx rfl (pc0 := 164) (pc' := 168) rfl (hb hby at_164) (by decide) (by decide) k) ?_
          refine Goes.retN X27 hx Bd.notSynchronized (t := .boolean) Bd.returns (by simp) (hb hby at_168) (by decide) (by decide) ?_
          rw [hs27]
          exact ⟨rfl, N27'⟩
      · refine Goes.to (T' := T2) (mkF m 82 #[.val (.long t0), .second, .val (.long t1), .second, .val (.long d), .second, .val (.int fl), .val (.ref b1), .val (.int (fl &&& (3 : Int32))), .unset, .unset, .unset, .unset, .unset] []) (fun t k => XS.icmpYes X2.here hx rfl (pc0 := 50) (pc' := 82) rfl (hb hby at_50) rfl (feq hc50_18).2 (by decide) (by decide) k) ?_
        refine Goes.to (T' := T2) (mkF m 84 #[.val (.long t0), .second, .val (.long t1), .second, .val (.long d), .second, .val (.int fl), .val (.ref b1), .val (.int (fl &&& (3 : Int32))), .unset, .unset, .unset, .unset, .unset] [(.ref b1)]) (fun t k => XS.aload X2.here hx rfl (hb hby at_82) rfl rfl k) ?_
        refine Goes.to (T' := T2) (mkF m 85 #[.val (.long t0), .second, .val (.long t1), .second, .val (.long d), .second, .val (.int fl), .val (.ref b1), .val (.int (fl &&& (3 : Int32))), .unset, .unset, .unset, .unset, .unset] [(.long t0), (.ref b1)]) (fun t k => XS.lloadN X2.here hx rfl (hb hby at_84) rfl k) ?_
        obtain ⟨cq28, kq28, q28a, q28b, q28c⟩ := isOf hZ rfl E_b1
        obtain ⟨_, _, ⟨T28, L28, k28, n28⟩, -, X28, ⟨Lc28, hQ28, l28, y28, z28⟩, st28⟩ := X2.virtualBack hx (y := (⟨"com/example/marktide/marktide/engine/HourlyAverage", "closeThrough", "(J)Ljava/util/Optional;"⟩ : MethodName)) (z := (⟨"com/example/marktide/marktide/engine/HourlyAverage", "closeThrough", "(J)Ljava/util/Optional;"⟩ : MethodName)) hown (mvT hZ (hw _ (List.mem_of_getElem? (i := 16) rfl))) (mvT hZ (hw _ (List.mem_of_getElem? (i := 17) rfl))) (notFace_of_selects (args := #[]) (mvT hZ (hw _ (List.mem_of_getElem? (i := 19) rfl)))) (mvT hZ (hw _ (List.mem_of_getElem? (i := 19) rfl))) (mvT hZ (hw _ (List.mem_of_getElem? (i := 18) rfl))) (by decide) (backOf (W := 0) (rm_close l Z a0 hw [] b1 t0 (-9223372036854775808) em T2.heap n0 O F_through_b1 F_lastClosing_b1 F_weighted_b1 E_b1 g_b1 S_EMPTY (own_ge_min _)) hZ (hw _ (List.mem_of_getElem? (i := 20) rfl)) (hw _ (List.mem_of_getElem? (i := 2) rfl)) (by decide) (by decide)) q28a q28c (g := (mkF m 85 #[.val (.long t0), .second, .val (.long t1), .second, .val (.long d), .second, .val (.int fl), .val (.ref b1), .val (.int (fl &&& (3 : Int32))), .unset, .unset, .unset, .unset, .unset] [(.long t0), (.ref b1)])) rfl (by rw [hml]; rfl) (Steps.refl _) (argsL := [(.long t0)]) (rest := []) (lenOf pd_3 rfl) rfl (by show 2 * 0 + _ ≤ _; exact Nat.le_of_eq rfl) (hb hby at_85) (fun _ _ => ⟨rfl, rfl, (by decide : 1 + 0 ≤ _), (by decide : 7 + 0 ≤ _)⟩)
        dsimp only [Pt.U, Pt.locs, Pt.cells, Pt.slots] at X28 l28 y28 z28 st28 hQ28
        subst l28 y28 z28
        obtain ⟨rfl, N28, K28, F_through_b1, F_lastClosing_b1, F_weighted_b1⟩ := hQ28
        have N28' := Fr.app N2' N28
        replace E_b1 := E_b1.keep K28
        replace O := O.keep K28 (allS g_b1 all0)
        refine Goes.to (T' := T28) (mkF m 88 #[.val (.long t0), .second, .val (.long t1), .second, .val (.long d), .second, .val (.int fl), .val (.ref b1), .val (.int (fl &&& (3 : Int32))), .unset, .unset, .unset, .unset, .unset] [(.ref em)]) (fun t k => st28.trans k) ?_
        refine Goes.to (T' := T28) (mkF m 89 #[.val (.long t0), .second, .val (.long t1), .second, .val (.long d), .second, .val (.int fl), .val (.ref b1), .val (.int (fl &&& (3 : Int32))), .unset, .unset, .unset, .unset, .unset] []) (fun t k => XS.pop X28.here hx rfl (hb hby at_88) rfl rfl k) ?_
        refine Goes.to (T' := T28) (mkF m 91 #[.val (.long t0), .second, .val (.long t1), .second, .val (.long d), .second, .val (.int fl), .val (.ref b1), .val (.int (fl &&& (3 : Int32))), .unset, .unset, .unset, .unset, .unset] [(.ref b1)]) (fun t k => XS.aload X28.here hx rfl (hb hby at_89) rfl rfl k) ?_
        refine Goes.to (T' := T28) (mkF m 92 #[.val (.long t0), .second, .val (.long t1), .second, .val (.long d), .second, .val (.int fl), .val (.ref b1), .val (.int (fl &&& (3 : Int32))), .unset, .unset, .unset, .unset, .unset] [(.long t0), (.ref b1)]) (fun t k => XS.lloadN X28.here hx rfl (hb hby at_91) rfl k) ?_
        obtain ⟨cq29, kq29, q29a, q29b, q29c⟩ := isOf hZ rfl E_b1
        obtain ⟨_, _, ⟨T29, L29, k29, n29⟩, -, X29, ⟨Lc29, hQ29, l29, y29, z29⟩, st29⟩ := X28.virtualBack hx (y := (⟨"com/example/marktide/marktide/engine/HourlyAverage", "closeThrough", "(J)Ljava/util/Optional;"⟩ : MethodName)) (z := (⟨"com/example/marktide/marktide/engine/HourlyAverage", "closeThrough", "(J)Ljava/util/Optional;"⟩ : MethodName)) hown (mvT hZ (hw _ (List.mem_of_getElem? (i := 16) rfl))) (mvT hZ (hw _ (List.mem_of_getElem? (i := 17) rfl))) (notFace_of_selects (args := #[]) (mvT hZ (hw _ (List.mem_of_getElem? (i := 19) rfl)))) (mvT hZ (hw _ (List.mem_of_getElem? (i := 19) rfl))) (mvT hZ (hw _ (List.mem_of_getElem? (i := 18) rfl))) (by decide) (backOf (W := 0) (rm_close l Z a0 hw [] b1 t0 t0 em T28.heap n0 O F_through_b1 F_lastClosing_b1 F_weighted_b1 E_b1 g_b1 S_EMPTY (own_ge_self _)) hZ (hw _ (List.mem_of_getElem? (i := 20) rfl)) (hw _ (List.mem_of_getElem? (i := 2) rfl)) (by decide) (by decide)) q29a q29c (g := (mkF m 92 #[.val (.long t0), .second, .val (.long t1), .second, .val (.long d), .second, .val (.int fl), .val (.ref b1), .val (.int (fl &&& (3 : Int32))), .unset, .unset, .unset, .unset, .unset] [(.long t0), (.ref b1)])) rfl (by rw [hml]; rfl) (Steps.refl _) (argsL := [(.long t0)]) (rest := []) (lenOf pd_3 rfl) rfl (by show 2 * 0 + _ ≤ _; exact Nat.le_of_eq rfl) (hb hby at_92) (fun _ _ => ⟨rfl, rfl, (by decide : 1 + 0 ≤ _), (by decide : 7 + 0 ≤ _)⟩)
        dsimp only [Pt.U, Pt.locs, Pt.cells, Pt.slots] at X29 l29 y29 z29 st29 hQ29
        subst l29 y29 z29
        obtain ⟨rfl, N29, K29, F_through_b1, F_lastClosing_b1, F_weighted_b1⟩ := hQ29
        have N29' := Fr.app N28' N29
        replace E_b1 := E_b1.keep K29
        replace O := O.keep K29 (allS g_b1 all0)
        refine Goes.to (T' := T29) (mkF m 95 #[.val (.long t0), .second, .val (.long t1), .second, .val (.long d), .second, .val (.int fl), .val (.ref b1), .val (.int (fl &&& (3 : Int32))), .unset, .unset, .unset, .unset, .unset] [(.ref em)]) (fun t k => st29.trans k) ?_
        refine Goes.to (T' := T29) (mkF m 96 #[.val (.long t0), .second, .val (.long t1), .second, .val (.long d), .second, .val (.int fl), .val (.ref b1), .val (.int (fl &&& (3 : Int32))), .unset, .unset, .unset, .unset, .unset] []) (fun t k => XS.pop X29.here hx rfl (hb hby at_95) rfl rfl k) ?_
        refine Goes.to (T' := T29) (mkF m 97 #[.val (.long t0), .second, .val (.long t1), .second, .val (.long d), .second, .val (.int fl), .val (.ref b1), .val (.int (fl &&& (3 : Int32))), .unset, .unset, .unset, .unset, .unset] [(.long t0)]) (fun t k => XS.lloadN X29.here hx rfl (hb hby at_96) rfl k) ?_
        refine Goes.to (T' := T29) (mkF m 99 #[.val (.long t0), .second, .val (.long t1), .second, .val (.long d), .second, .val (.int fl), .val (.ref b1), .val (.int (fl &&& (3 : Int32))), .val (.long t0), .second, .unset, .unset, .unset] []) (fun t k => XS.lstore X29.here hx rfl (hb hby at_97) rfl (l' := #[.val (.long t0), .second, .val (.long t1), .second, .val (.long d), .second, .val (.int fl), .val (.ref b1), .val (.int (fl &&& (3 : Int32))), .val (.long t0), .second, .unset, .unset, .unset]) rfl k) ?_
        refine Goes.to (T' := T29) (mkF m 101 #[.val (.long t0), .second, .val (.long t1), .second, .val (.long d), .second, .val (.int fl), .val (.ref b1), .val (.int (fl &&& (3 : Int32))), .val (.long t0), .second, .unset, .unset, .unset] [(.long t0)]) (fun t k => XS.lload X29.here hx rfl (hb hby at_99) rfl k) ?_
        refine Goes.to (T' := T29) (mkF m 104 #[.val (.long t0), .second, .val (.long t1), .second, .val (.long d), .second, .val (.int fl), .val (.ref b1), .val (.int (fl &&& (3 : Int32))), .val (.long t0), .second, .unset, .unset, .unset] [(.long (9223372036854775807 : Int64)), (.long t0)]) (fun t k => X29.ldc2Long hx hown (mvT hZ (hw _ (List.mem_of_getElem? (i := 34) rfl))) (g := (mkF m 101 #[.val (.long t0), .second, .val (.long t1), .second, .val (.long d), .second, .val (.int fl), .val (.ref b1), .val (.int (fl &&& (3 : Int32))), .val (.long t0), .second, .unset, .unset, .unset] [(.long t0)])) rfl (hb hby at_101) _ k) ?_
        refine Goes.to (T' := T29) (mkF m 105 #[.val (.long t0), .second, .val (.long t1), .second, .val (.long d), .second, .val (.int fl), .val (.ref b1), .val (.int (fl &&& (3 : Int32))), .val (.long t0), .second, .unset, .unset, .unset] [(.int (lcmpW t0 (9223372036854775807 : Int64)))]) (fun t k => XS.lcmp X29.here hx rfl (hb hby at_104) rfl k) ?_
        by_cases hc105_30 : (lcmpW t0 (9223372036854775807 : Int64)) = (0 : Int32)
        · refine Goes.to (T' := T29) (mkF m 108 #[.val (.long t0), .second, .val (.long t1), .second, .val (.long d), .second, .val (.int fl), .val (.ref b1), .val (.int (fl &&& (3 : Int32))), .val (.long t0), .second, .unset, .unset, .unset] []) (fun t k => XS.ifNo X29.here hx rfl (hb hby at_105) rfl ((if0 _ _).trans (teq hc105_30).2) k) ?_
          refine Goes.to (T' := T29) (mkF m 109 #[.val (.long t0), .second, .val (.long t1), .second, .val (.long d), .second, .val (.int fl), .val (.ref b1), .val (.int (fl &&& (3 : Int32))), .val (.long t0), .second, .unset, .unset, .unset] [(.int (1 : Int32))]) (fun t k => XS.iconst X29.here hx rfl (hb hby at_108) k) ?_
          refine Goes.retN X29 hx Bd.notSynchronized (t := .boolean) Bd.returns (by simp) (hb hby at_109) (by decide) (by decide) ?_
          exact ⟨rfl, N29'⟩
        · refine Goes.to (T' := T29) (mkF m 110 #[.val (.long t0), .second, .val (.long t1), .second, .val (.long d), .second, .val (.int fl), .val (.ref b1), .val (.int (fl &&& (3 : Int32))), .val (.long t0), .second, .unset, .unset, .unset] []) (fun t k => XS.ifYes X29.here hx rfl (pc0 := 105) (pc' := 110) rfl (hb hby at_105) rfl ((if0 _ _).trans (feq hc105_30).2) (by decide) (by decide) k) ?_
          refine Goes.to (T' := T29) (mkF m 112 #[.val (.long t0), .second, .val (.long t1), .second, .val (.long d), .second, .val (.int fl), .val (.ref b1), .val (.int (fl &&& (3 : Int32))), .val (.long t0), .second, .unset, .unset, .unset] [(.int fl)]) (fun t k => XS.iload X29.here hx rfl (hb hby at_110) rfl k) ?_
          refine Goes.to (T' := T29) (mkF m 113 #[.val (.long t0), .second, .val (.long t1), .second, .val (.long d), .second, .val (.int fl), .val (.ref b1), .val (.int (fl &&& (3 : Int32))), .val (.long t0), .second, .unset, .unset, .unset] [(.int (4 : Int32)), (.int fl)]) (fun t k => XS.iconst X29.here hx rfl (hb hby at_112) k) ?_
          refine Goes.to (T' := T29) (mkF m 114 #[.val (.long t0), .second, .val (.long t1), .second, .val (.long d), .second, .val (.int fl), .val (.ref b1), .val (.int (fl &&& (3 : Int32))), .val (.long t0), .second, .unset, .unset, .unset] [(.int (fl &&& (4 : Int32)))]) (fun t k => XS.iand X29.here hx rfl (hb hby at_113) rfl k) ?_
          have D114_31 : ∀ t, Steps p.tables e below (T29.setTop (mkF m 122 #[.val (.long t0), .second, .val (.long t1), .second, .val (.long d), .second, .val (.int fl), .val (.ref b1), .val (.int (fl &&& (3 : Int32))), .val (.long t0), .second, .unset, .unset, .unset] [(.int (if (fl &&& (4 : Int32)) = (0 : Int32) then (0 : Int32) else (1 : Int32)))])) t → Steps p.tables e below (T29.setTop (mkF m 114 #[.val (.long t0), .second, .val (.long t1), .second, .val (.long d), .second, .val (.int fl), .val (.ref b1), .val (.int (fl &&& (3 : Int32))), .val (.long t0), .second, .unset, .unset, .unset] [(.int (fl &&& (4 : Int32)))])) t := by
            intro t k
            by_cases hq : (fl &&& (4 : Int32)) = (0 : Int32)
            · simp only [if_pos hq] at k
              refine XS.ifYes X29.here hx rfl (pc0 := 114) (pc' := 121) rfl (hb hby at_114) rfl ((if0 _ _).trans (teq hq).1) (by decide) (by decide) ?_
              show Steps p.tables e below (T29.setTop (mkF m 121 #[.val (.long t0), .second, .val (.long t1), .second, .val (.long d), .second, .val (.int fl), .val (.ref b1), .val (.int (fl &&& (3 : Int32))), .val (.long t0), .second, .unset, .unset, .unset] [])) _
              refine XS.iconst X29.here hx rfl (hb hby at_121) ?_
              show Steps p.tables e below (T29.setTop (mkF m 122 #[.val (.long t0), .second, .val (.long t1), .second, .val (.long d), .second, .val (.int fl), .val (.ref b1), .val (.int (fl &&& (3 : Int32))), .val (.long t0), .second, .unset, .unset, .unset] [(.int (0 : Int32))])) _
              exact k
            · simp only [if_neg hq] at k
              refine XS.ifNo X29.here hx rfl (hb hby at_114) rfl ((if0 _ _).trans (feq hq).1) ?_
              show Steps p.tables e below (T29.setTop (mkF m 117 #[.val (.long t0), .second, .val (.long t1), .second, .val (.long d), .second, .val (.int fl), .val (.ref b1), .val (.int (fl &&& (3 : Int32))), .val (.long t0), .second, .unset, .unset, .unset] [])) _
              refine XS.iconst X29.here hx rfl (hb hby at_117) ?_
              show Steps p.tables e below (T29.setTop (mkF m 118 #[.val (.long t0), .second, .val (.long t1), .second, .val (.long d), .second, .val (.int fl), .val (.ref b1), .val (.int (fl &&& (3 : Int32))), .val (.long t0), .second, .unset, .unset, .unset] [(.int (1 : Int32))])) _
              refine XS.goto X29.here hx rfl (pc0 := 118) (pc' := 122) rfl (hb hby at_118) (by decide) (by decide) ?_
              show Steps p.tables e below (T29.setTop (mkF m 122 #[.val (.long t0), .second, .val (.long t1), .second, .val (.long d), .second, .val (.int fl), .val (.ref b1), .val (.int (fl &&& (3 : Int32))), .val (.long t0), .second, .unset, .unset, .unset] [(.int (1 : Int32))])) _
              exact k
          refine Goes.to (T' := T29) (mkF m 122 #[.val (.long t0), .second, .val (.long t1), .second, .val (.long d), .second, .val (.int fl), .val (.ref b1), .val (.int (fl &&& (3 : Int32))), .val (.long t0), .second, .unset, .unset, .unset] [(.int (if (fl &&& (4 : Int32)) = (0 : Int32) then (0 : Int32) else (1 : Int32)))]) D114_31 ?_
          obtain ⟨ed, ed_eq⟩ : ∃ z, z = (if (fl &&& (4 : Int32)) = (0 : Int32) then (0 : Int32) else (1 : Int32)) := ⟨_, rfl⟩
          rw [← ed_eq]
          refine Goes.to (T' := T29) (mkF m 124 #[.val (.long t0), .second, .val (.long t1), .second, .val (.long d), .second, .val (.int fl), .val (.ref b1), .val (.int (fl &&& (3 : Int32))), .val (.long t0), .second, .val (.int ed), .unset, .unset] []) (fun t k => XS.istore X29.here hx rfl (hb hby at_122) rfl (l' := #[.val (.long t0), .second, .val (.long t1), .second, .val (.long d), .second, .val (.int fl), .val (.ref b1), .val (.int (fl &&& (3 : Int32))), .val (.long t0), .second, .val (.int ed), .unset, .unset]) rfl k) ?_
          have D124_33 : ∀ t, Steps p.tables e below (T29.setTop (mkF m 146 #[.val (.long t0), .second, .val (.long t1), .second, .val (.long d), .second, .val (.int fl), .val (.ref b1), .val (.int (fl &&& (3 : Int32))), .val (.long t0), .second, .val (.int ed), .unset, .unset] [(.long (if ed = (0 : Int32) then (if (0 : Int32) < (lcmpW d t0) then d else (t0 + (1 : Int64))) else (t0 + (1 : Int64))))])) t → Steps p.tables e below (T29.setTop (mkF m 124 #[.val (.long t0), .second, .val (.long t1), .second, .val (.long d), .second, .val (.int fl), .val (.ref b1), .val (.int (fl &&& (3 : Int32))), .val (.long t0), .second, .val (.int ed), .unset, .unset] [])) t := by
            intro t k
            refine XS.iload X29.here hx rfl (hb hby at_124) rfl ?_
            show Steps p.tables e below (T29.setTop (mkF m 126 #[.val (.long t0), .second, .val (.long t1), .second, .val (.long d), .second, .val (.int fl), .val (.ref b1), .val (.int (fl &&& (3 : Int32))), .val (.long t0), .second, .val (.int ed), .unset, .unset] [(.int ed)])) _
            by_cases hq : ed = (0 : Int32)
            · simp only [if_pos hq] at k
              refine XS.ifNo X29.here hx rfl (hb hby at_126) rfl ((if0 _ _).trans (teq hq).2) ?_
              show Steps p.tables e below (T29.setTop (mkF m 129 #[.val (.long t0), .second, .val (.long t1), .second, .val (.long d), .second, .val (.int fl), .val (.ref b1), .val (.int (fl &&& (3 : Int32))), .val (.long t0), .second, .val (.int ed), .unset, .unset] [])) _
              refine XS.lload X29.here hx rfl (hb hby at_129) rfl ?_
              show Steps p.tables e below (T29.setTop (mkF m 131 #[.val (.long t0), .second, .val (.long t1), .second, .val (.long d), .second, .val (.int fl), .val (.ref b1), .val (.int (fl &&& (3 : Int32))), .val (.long t0), .second, .val (.int ed), .unset, .unset] [(.long d)])) _
              refine XS.lload X29.here hx rfl (hb hby at_131) rfl ?_
              show Steps p.tables e below (T29.setTop (mkF m 133 #[.val (.long t0), .second, .val (.long t1), .second, .val (.long d), .second, .val (.int fl), .val (.ref b1), .val (.int (fl &&& (3 : Int32))), .val (.long t0), .second, .val (.int ed), .unset, .unset] [(.long t0), (.long d)])) _
              refine XS.lcmp X29.here hx rfl (hb hby at_133) rfl ?_
              show Steps p.tables e below (T29.setTop (mkF m 134 #[.val (.long t0), .second, .val (.long t1), .second, .val (.long d), .second, .val (.int fl), .val (.ref b1), .val (.int (fl &&& (3 : Int32))), .val (.long t0), .second, .val (.int ed), .unset, .unset] [(.int (lcmpW d t0))])) _
              by_cases hq : (0 : Int32) < (lcmpW d t0)
              · simp only [if_pos hq] at k
                refine XS.ifNo X29.here hx rfl (hb hby at_134) rfl ((if0 _ _).trans (tlt hq).2.2.2) ?_
                show Steps p.tables e below (T29.setTop (mkF m 137 #[.val (.long t0), .second, .val (.long t1), .second, .val (.long d), .second, .val (.int fl), .val (.ref b1), .val (.int (fl &&& (3 : Int32))), .val (.long t0), .second, .val (.int ed), .unset, .unset] [])) _
                refine XS.lload X29.here hx rfl (hb hby at_137) rfl ?_
                show Steps p.tables e below (T29.setTop (mkF m 139 #[.val (.long t0), .second, .val (.long t1), .second, .val (.long d), .second, .val (.int fl), .val (.ref b1), .val (.int (fl &&& (3 : Int32))), .val (.long t0), .second, .val (.int ed), .unset, .unset] [(.long d)])) _
                refine XS.goto X29.here hx rfl (pc0 := 139) (pc' := 146) rfl (hb hby at_139) (by decide) (by decide) ?_
                show Steps p.tables e below (T29.setTop (mkF m 146 #[.val (.long t0), .second, .val (.long t1), .second, .val (.long d), .second, .val (.int fl), .val (.ref b1), .val (.int (fl &&& (3 : Int32))), .val (.long t0), .second, .val (.int ed), .unset, .unset] [(.long d)])) _
                exact k
              · simp only [if_neg hq] at k
                refine XS.ifYes X29.here hx rfl (pc0 := 134) (pc' := 142) rfl (hb hby at_134) rfl ((if0 _ _).trans (flt hq).2.2.2) (by decide) (by decide) ?_
                show Steps p.tables e below (T29.setTop (mkF m 142 #[.val (.long t0), .second, .val (.long t1), .second, .val (.long d), .second, .val (.int fl), .val (.ref b1), .val (.int (fl &&& (3 : Int32))), .val (.long t0), .second, .val (.int ed), .unset, .unset] [])) _
                refine XS.lload X29.here hx rfl (hb hby at_142) rfl ?_
                show Steps p.tables e below (T29.setTop (mkF m 144 #[.val (.long t0), .second, .val (.long t1), .second, .val (.long d), .second, .val (.int fl), .val (.ref b1), .val (.int (fl &&& (3 : Int32))), .val (.long t0), .second, .val (.int ed), .unset, .unset] [(.long t0)])) _
                refine XS.lconst X29.here hx rfl (hb hby at_144) ?_
                show Steps p.tables e below (T29.setTop (mkF m 145 #[.val (.long t0), .second, .val (.long t1), .second, .val (.long d), .second, .val (.int fl), .val (.ref b1), .val (.int (fl &&& (3 : Int32))), .val (.long t0), .second, .val (.int ed), .unset, .unset] [(.long (1 : Int64)), (.long t0)])) _
                refine XS.ladd X29.here hx rfl (hb hby at_145) rfl ?_
                show Steps p.tables e below (T29.setTop (mkF m 146 #[.val (.long t0), .second, .val (.long t1), .second, .val (.long d), .second, .val (.int fl), .val (.ref b1), .val (.int (fl &&& (3 : Int32))), .val (.long t0), .second, .val (.int ed), .unset, .unset] [(.long (t0 + (1 : Int64)))])) _
                exact k
            · simp only [if_neg hq] at k
              refine XS.ifYes X29.here hx rfl (pc0 := 126) (pc' := 142) rfl (hb hby at_126) rfl ((if0 _ _).trans (feq hq).2) (by decide) (by decide) ?_
              show Steps p.tables e below (T29.setTop (mkF m 142 #[.val (.long t0), .second, .val (.long t1), .second, .val (.long d), .second, .val (.int fl), .val (.ref b1), .val (.int (fl &&& (3 : Int32))), .val (.long t0), .second, .val (.int ed), .unset, .unset] [])) _
              refine XS.lload X29.here hx rfl (hb hby at_142) rfl ?_
              show Steps p.tables e below (T29.setTop (mkF m 144 #[.val (.long t0), .second, .val (.long t1), .second, .val (.long d), .second, .val (.int fl), .val (.ref b1), .val (.int (fl &&& (3 : Int32))), .val (.long t0), .second, .val (.int ed), .unset, .unset] [(.long t0)])) _
              refine XS.lconst X29.here hx rfl (hb hby at_144) ?_
              show Steps p.tables e below (T29.setTop (mkF m 145 #[.val (.long t0), .second, .val (.long t1), .second, .val (.long d), .second, .val (.int fl), .val (.ref b1), .val (.int (fl &&& (3 : Int32))), .val (.long t0), .second, .val (.int ed), .unset, .unset] [(.long (1 : Int64)), (.long t0)])) _
              refine XS.ladd X29.here hx rfl (hb hby at_145) rfl ?_
              show Steps p.tables e below (T29.setTop (mkF m 146 #[.val (.long t0), .second, .val (.long t1), .second, .val (.long d), .second, .val (.int fl), .val (.ref b1), .val (.int (fl &&& (3 : Int32))), .val (.long t0), .second, .val (.int ed), .unset, .unset] [(.long (t0 + (1 : Int64)))])) _
              exact k
          refine Goes.to (T' := T29) (mkF m 146 #[.val (.long t0), .second, .val (.long t1), .second, .val (.long d), .second, .val (.int fl), .val (.ref b1), .val (.int (fl &&& (3 : Int32))), .val (.long t0), .second, .val (.int ed), .unset, .unset] [(.long (if ed = (0 : Int32) then (if (0 : Int32) < (lcmpW d t0) then d else (t0 + (1 : Int64))) else (t0 + (1 : Int64))))]) D124_33 ?_
          have hl0 := own_later d t0 ed (fun z => hc105_30 ((lw_eq _ _).mpr z))
          revert hl0
          generalize (if ed = (0 : Int32) then (if (0 : Int32) < (lcmpW d t0) then d else (t0 + (1 : Int64))) else (t0 + (1 : Int64))) = lt
          intro hl
          refine Goes.to (T' := T29) (mkF m 148 #[.val (.long t0), .second, .val (.long t1), .second, .val (.long d), .second, .val (.int fl), .val (.ref b1), .val (.int (fl &&& (3 : Int32))), .val (.long t0), .second, .val (.int ed), .val (.long lt), .second] []) (fun t k => XS.lstore X29.here hx rfl (hb hby at_146) rfl (l' := #[.val (.long t0), .second, .val (.long t1), .second, .val (.long d), .second, .val (.int fl), .val (.ref b1), .val (.int (fl &&& (3 : Int32))), .val (.long t0), .second, .val (.int ed), .val (.long lt), .second]) rfl k) ?_
          refine Goes.to (T' := T29) (mkF m 150 #[.val (.long t0), .second, .val (.long t1), .second, .val (.long d), .second, .val (.int fl), .val (.ref b1), .val (.int (fl &&& (3 : Int32))), .val (.long t0), .second, .val (.int ed), .val (.long lt), .second] [(.ref b1)]) (fun t k => XS.aload X29.here hx rfl (hb hby at_148) rfl rfl k) ?_
          refine Goes.to (T' := T29) (mkF m 152 #[.val (.long t0), .second, .val (.long t1), .second, .val (.long d), .second, .val (.int fl), .val (.ref b1), .val (.int (fl &&& (3 : Int32))), .val (.long t0), .second, .val (.int ed), .val (.long lt), .second] [(.long lt), (.ref b1)]) (fun t k => XS.lload X29.here hx rfl (hb hby at_150) rfl k) ?_
          obtain ⟨cq35, kq35, q35a, q35b, q35c⟩ := isOf hZ rfl E_b1
          obtain ⟨_, _, ⟨T35, L35, k35, n35⟩, -, X35, ⟨Lc35, hQ35, l35, y35, z35⟩, st35⟩ := X29.virtualBack hx (y := (⟨"com/example/marktide/marktide/engine/HourlyAverage", "requireLater", "(J)V"⟩ : MethodName)) (z := (⟨"com/example/marktide/marktide/engine/HourlyAverage", "requireLater", "(J)V"⟩ : MethodName)) hown (mvT hZ (hw _ (List.mem_of_getElem? (i := 35) rfl))) (mvT hZ (hw _ (List.mem_of_getElem? (i := 36) rfl))) (notFace_of_selects (args := #[]) (mvT hZ (hw _ (List.mem_of_getElem? (i := 38) rfl)))) (mvT hZ (hw _ (List.mem_of_getElem? (i := 38) rfl))) (mvT hZ (hw _ (List.mem_of_getElem? (i := 37) rfl))) (by decide) (backOf (W := 0) (rm_later l Z a0 hw [] b1 lt t0 T29.heap n0 O F_through_b1 hl) hZ (hw _ (List.mem_of_getElem? (i := 39) rfl)) (hw _ (List.mem_of_getElem? (i := 2) rfl)) (by decide) (by decide)) q35a q35c (g := (mkF m 152 #[.val (.long t0), .second, .val (.long t1), .second, .val (.long d), .second, .val (.int fl), .val (.ref b1), .val (.int (fl &&& (3 : Int32))), .val (.long t0), .second, .val (.int ed), .val (.long lt), .second] [(.long lt), (.ref b1)])) rfl (by rw [hml]; rfl) (Steps.refl _) (argsL := [(.long lt)]) (rest := []) (lenOf pd_0 rfl) rfl (by show 2 * 0 + _ ≤ _; exact Nat.le_of_eq rfl) (hb hby at_152) (fun _ _ => ⟨rfl, rfl, (by decide : 1 + 0 ≤ _), (by decide : 7 + 0 ≤ _)⟩)
          dsimp only [Pt.U, Pt.locs, Pt.cells, Pt.slots] at X35 l35 y35 z35 st35 hQ35
          subst l35 y35 z35
          obtain ⟨rfl, N35, hs35⟩ := hQ35
          have N35' := Fr.app N29' N35
          refine Goes.to (T' := T35) (mkF m 155 #[.val (.long t0), .second, .val (.long t1), .second, .val (.long d), .second, .val (.int fl), .val (.ref b1), .val (.int (fl &&& (3 : Int32))), .val (.long t0), .second, .val (.int ed), .val (.long lt), .second] []) (fun t k => st35.trans k) ?_
          refine Goes.to (T' := T35) (mkF m 157 #[.val (.long t0), .second, .val (.long t1), .second, .val (.long d), .second, .val (.int fl), .val (.ref b1), .val (.int (fl &&& (3 : Int32))), .val (.long t0), .second, .val (.int ed), .val (.long lt), .second] [(.long lt)]) (fun t k => XS.lload X35.here hx rfl (hb hby at_155) rfl k) ?_
          refine Goes.to (T' := T35) (mkF m 159 #[.val (.long t0), .second, .val (.long t1), .second, .val (.long d), .second, .val (.int fl), .val (.ref b1), .val (.int (fl &&& (3 : Int32))), .val (.long t0), .second, .val (.int ed), .val (.long lt), .second] [(.long t0), (.long lt)]) (fun t k => XS.lload X35.here hx rfl (hb hby at_157) rfl k) ?_
          refine Goes.to (T' := T35) (mkF m 160 #[.val (.long t0), .second, .val (.long t1), .second, .val (.long d), .second, .val (.int fl), .val (.ref b1), .val (.int (fl &&& (3 : Int32))), .val (.long t0), .second, .val (.int ed), .val (.long lt), .second] [(.int (lcmpW lt t0))]) (fun t k => XS.lcmp X35.here hx rfl (hb hby at_159) rfl k) ?_
          refine Goes.to (T' := T35) (mkF m 163 #[.val (.long t0), .second, .val (.long t1), .second, .val (.long d), .second, .val (.int fl), .val (.ref b1), .val (.int (fl &&& (3 : Int32))), .val (.long t0), .second, .val (.int ed), .val (.long lt), .second] []) (fun t k => XS.ifNo X35.here hx rfl (hb hby at_160) rfl ((if0 _ _).trans (tlt ((lw_gt _ _).mpr hl : (0 : Int32) < (lcmpW lt t0))).2.2.2) k) ?_
          refine Goes.to (T' := T35) (mkF m 164 #[.val (.long t0), .second, .val (.long t1), .second, .val (.long d), .second, .val (.int fl), .val (.ref b1), .val (.int (fl &&& (3 : Int32))), .val (.long t0), .second, .val (.int ed), .val (.long lt), .second] [(.int (1 : Int32))]) (fun t k => XS.iconst X35.here hx rfl (hb hby at_163) k) ?_
          refine Goes.to (T' := T35) (mkF m 168 #[.val (.long t0), .second, .val (.long t1), .second, .val (.long d), .second, .val (.int fl), .val (.ref b1), .val (.int (fl &&& (3 : Int32))), .val (.long t0), .second, .val (.int ed), .val (.long lt), .second] [(.int (1 : Int32))]) (fun t k => XS.goto X35.here hx rfl (pc0 := 164) (pc' := 168) rfl (hb hby at_164) (by decide) (by decide) k) ?_
          refine Goes.retN X35 hx Bd.notSynchronized (t := .boolean) Bd.returns (by simp) (hb hby at_168) (by decide) (by decide) ?_
          rw [hs35]
          exact ⟨rfl, N35'⟩
set_option maxRecDepth 65536 in
set_option maxHeartbeats 40000000 in
theorem comes_1 {Post : Tables → Env → Array Value → State → Outcome → State → Prop} (hpost : ∀ tb e args s v u, (limb_1_1.after args s (.returned v) u = true ∧ limb_1_2.after args s (.returned v) u = true ∧ True) → FrameEnd s (.returned v) u (Jvm.fieldLocs frame_1_writes args s ++ Jvm.arrayLocs frame_1_arrays args s ++ Jvm.staticLocs frame_1_statics s) 16 128 → Post tb e args s (.returned v) u) :
    ArmFor flags0 classFile x code maxLocals ret World_1 tables_1 room_1 Calls_1 rest_1 Pre_1 Post := by
  intro l hfl _ _ p e ha hc hk s m args below hf hA hF happ hP
  obtain ⟨hcalls, hrest, hpre⟩ := hP
  obtain ⟨-, -, -, hnamed, -, -, -, hat⟩ := (Spec.applies_iff hf).mp happ
  obtain ⟨hg, hn⟩ := and_e (Cond.before_iff.mp (show (Jvm.Cond.and given_1 narrow_1).before args s = true from hpre))
  obtain ⟨gg0, gr0⟩ := and_e hg
  obtain ⟨gg1, gr1⟩ := and_e gr0
  obtain ⟨gg2, gr2⟩ := and_e gr1
  obtain ⟨gg3, gr3⟩ := and_e gr2
  have gg4 := gr3
  obtain ⟨w0, w1, w2, w3, rfl⟩ : ∃ w0 w1 w2 w3 : Value, args = #[w0, w1, w2, w3] := by
    have hs : args.size = 4 := by simpa [Cond.value, given_1] using gg0
    obtain ⟨L⟩ := args
    match L, hs with
    | [w0, w1, w2, w3], _ => exact ⟨w0, w1, w2, w3, rfl⟩
  have hw := fun d (hd : d ∈ tables_1) => atoms_spec (ws := Jvm.Cond.code x code maxLocals ret :: tables_1) hat d (List.mem_cons_of_mem _ hd)
  have hfit : Fit s := fun {y c} hc i hi => by
    obtain ⟨ha, rfl⟩ := Array.getElem?_eq_some_iff.mp hc
    have q := List.all_eq_true.mp ((Array.all_eq_true_iff_forall_mem.mp hF) _ (Array.getElem_mem ha)) i (List.mem_range.mpr hi)
    simpa [Array.getElem?_eq_getElem hi] using q
  obtain ⟨hsets, hown0⟩ := atoms_of _ (rest_1_c_eq ▸ (show rest_1_c.before _ s = true from hrest))
  have hr0 := Cond.before_iff.mp hown0
  obtain ⟨a_EMPTY, ev_EMPTY⟩ := exa_v (Cond.before_iff.mp (hsets _ (List.mem_of_getElem? (i := 2) rfl)))
  have S_EMPTY : Sta s s.heap "java/util/Optional" "EMPTY" "Ljava/util/Optional;" (.ref a_EMPTY) := Sta.start ev_EMPTY (Or.inl (hsets _ (List.mem_of_getElem? (i := 1) rfl)))
  have E_EMPTY : Exa s s.heap a_EMPTY "java/util/Optional" := Exa.start ev_EMPTY (Cond.before_iff.mp (hsets _ (List.mem_of_getElem? (i := 2) rfl)))
  obtain ⟨i0, ei0⟩ := isL_v gg1
  obtain rfl : w0 = (.long i0) := Option.some.inj ei0
  obtain ⟨i1, ei1⟩ := isL_v gg2
  obtain rfl : w1 = (.long i1) := Option.some.inj ei1
  obtain ⟨i2, ei2⟩ := isL_v gg3
  obtain rfl : w2 = (.long i2) := Option.some.inj ei2
  obtain ⟨i3, ei3⟩ := is_v gg4
  obtain rfl : w3 = (.int i3) := Option.some.inj ei3
  obtain ⟨n, o, h1, h2, h3, _, L, rfl, ⟨rfl, N⟩, hq⟩ := rm_law l s _ hw tables_1 i0 i1 i2 i3 a_EMPTY s.heap s.heap.size (Old.start s) S_EMPTY p e ha hc hk s m _ below hf ((Spec.applies_iff_loose hf).mp happ).1 ⟨rfl, State.Warmed39.refl s, rfl⟩ trivial
  refine ⟨n, _, h1, h2, h3, hpost _ _ _ _ _ _ ⟨Cond.after_iff.mpr rfl, Cond.after_iff.mpr (eq_i res_at (Term.int_eval (1)) rfl), trivial⟩ ⟨hq.1, hq.2.1, (hq.2.2.sift fun y hy => Or.inr (N y hy)).mono (by decide) (by decide)⟩⟩
theorem main_1_1 : Claimed_1_1 := comes_1 fun _ _ _ _ _ _ h hF => ⟨h.1, hF⟩
theorem main_1_2 : Claimed_1_2 := comes_1 fun _ _ _ _ _ _ h hF => ⟨h.2.1, hF⟩

end Jvm.Pilot.@@N@@
namespace Jvm.Pilot.@@N@@
open Jvm Jvm.ClassFile Sem Op Lib Jvm.Free Jvm.Stand Jvm.Pilot.@@N@@.Jvm.D
/-! MADE BY PROGRAM (witnessworld.py) out of the Statement's table words and the real class files: 11 classes; the members and pool entries that the words name. The judged class is class 1, her method 1. -/
namespace start1
open Jvm.ClassFile
def u (s : String) : CpInfo := .utf8 (stringToUtf16 s)
/-- a pool by its gaps: so many unusable entries, then the entry; so many at the end -/
def gap : Nat → List CpInfo → List CpInfo
  | 0, r => r
  | n + 1, r => .unusable :: gap n r
def poolList (es : List (Nat × CpInfo)) (last : Nat) : List CpInfo := es.foldr (fun e r => gap e.1 (e.2 :: r)) (gap last [])
def pool (es : List (Nat × CpInfo)) (last : Nat) : Array CpInfo := ⟨poolList es last⟩
def fileOf (pool : Array CpInfo) (this : Nat) (attrs : Array Attribute := #[]) (ms : Array MethodInfo := #[]) (fl : Nat := 33) (sup : Nat := 0) (ifs : Array Nat := #[]) (fds : Array FieldInfo := #[]) : ClassFile where
  minorVersion := 0
  majorVersion := 65
  constantPool := pool
  accessFlags := fl
  thisClass := this
  superClass := sup
  interfaces := ifs
  fields := fds
  methods := ms
  attributes := attrs
def plain (name : String) (sup : Option ClassId) : Class where
  name := name
  kind := .ordinary
  loader := none
  accessFlags := 33
  super := sup
  interfaces := #[]
  cf := none
  fields := #[]
  methods := #[]
  instanceTypes := #[]
  staticTypes := #[]
  resolved := #[]
  callSites := []
  init := .initialized
  statics := none
  mirror := none

def pool0 : Array CpInfo := pool [(5, u "<init>"), (0, u "()V"), (1, .class_ 10), (1, u "java/lang/Object")] 113

def k0c0 : Code := { maxStack := 0, maxLocals := 1, code := object_method_1_code, exceptionTable := #[], attributes := #[] }
def k0m0 : Method := { name := "<init>", desc := "()V", sig := { parameters := [], returnType := none }, accessFlags := 1, code := some k0c0 }
/-- java/lang/Object -/
def k0 : Class := { plain "java/lang/Object" none with
  accessFlags := 33
  interfaces := #[]
  cf := some (fileOf pool0 8 #[] #[{ accessFlags := 1, nameIndex := 5, descriptorIndex := 6, attributes := #[] }] 33 0 #[] #[])
  fields := #[]
  methods := #[k0m0]
  instanceTypes := #[]
  staticTypes := #[]
  resolved := Array.replicate 124 none
  statics := none }

def pool1 : Array CpInfo := pool [(2, .class_ 4), (0, .nameAndType 5 6), (0, u "java/lang/Object"), (0, u "<init>"), (0, u "()V"), (0, .class_ 8), (0, u "com/example/marktide/marktide/engine/HourlyAverage"), (0, .methodref 7 3), (2, .long 9223372036854775808), (1, .methodref 7 15), (0, .nameAndType 16 17), (0, u "closeThrough"), (0, u "(J)Ljava/util/Optional;"), (0, .methodref 19 20), (0, .class_ 21), (0, .nameAndType 22 23), (0, u "java/lang/Math"), (0, u "max"), (0, u "(JJ)J"), (0, .long 9223372036854775807), (1, .methodref 7 27), (0, .nameAndType 28 29), (0, u "requireLater"), (0, u "(J)V"), (0, .class_ 31), (0, u "com/example/marktide/marktide/engine/HourlyAverageRequireLaterPinLaw"), (2, u "law"), (0, u "(JJJI)Z")] 3

def k1m0 : Method := { name := "<init>", desc := "()V", sig := { parameters := [], returnType := none }, accessFlags := 1, code := none }
def k1c1 : Code := { maxStack := 4, maxLocals := 14, code := code, exceptionTable := #[], attributes := #[] }
def k1m1 : Method := { name := "law", desc := "(JJJI)Z", sig := { parameters := [.long, .long, .long, .int], returnType := some .boolean }, accessFlags := 9, code := some k1c1 }
/-- com/example/marktide/marktide/engine/HourlyAverageRequireLaterPinLaw -/
def k1 : Class := { plain "com/example/marktide/marktide/engine/HourlyAverageRequireLaterPinLaw" (some 0) with
  accessFlags := 49
  interfaces := #[]
  cf := some (fileOf pool1 30 #[] #[{ accessFlags := 1, nameIndex := 5, descriptorIndex := 6, attributes := #[] }, { accessFlags := 9, nameIndex := 34, descriptorIndex := 35, attributes := #[] }] 49 2 #[] #[])
  fields := #[]
  methods := #[k1m0, k1m1]
  instanceTypes := #[]
  staticTypes := #[]
  resolved := Array.replicate 39 none
  statics := none }

def pool2 : Array CpInfo := pool [(1, .methodref 2 3), (0, .class_ 4), (0, .nameAndType 5 6), (0, u "java/lang/Object"), (0, u "<init>"), (0, u "()V"), (2, .long 9223372036854775808), (1, .fieldref 12 13), (0, .class_ 14), (0, .nameAndType 15 16), (0, u "com/example/marktide/marktide/engine/HourlyAverage"), (0, u "through"), (0, u "J"), (2, u "lastTime"), (27, u "requireLater"), (0, u "(J)V"), (0, .methodref 12 50), (0, .nameAndType 51 48), (0, u "requireNoHourWithoutSample"), (0, .methodref 53 54), (0, .class_ 55), (0, .nameAndType 56 57), (0, u "java/util/Optional"), (0, u "empty"), (0, u "()Ljava/util/Optional;"), (0, .fieldref 12 59), (0, .nameAndType 60 61), (0, u "weighted"), (0, u "Lcom/example/marktide/marktide/engine/Sum;"), (0, .fieldref 12 63), (0, .nameAndType 64 16), (0, u "hourEnd"), (0, .fieldref 12 66), (0, .nameAndType 67 68), (0, u "lastClosing"), (0, u "Ljava/math/BigDecimal;"), (8, .long 3600000), (12, u "coveredFrom"), (2, u "lastValue"), (16, .class_ 111), (0, u "com/example/marktide/marktide/engine/HourlyAverage$Hour"), (10, u "HOUR"), (8, u "closeThrough"), (0, u "(J)Ljava/util/Optional;")] 24

def k2c0 : Code := { maxStack := 3, maxLocals := 1, code := prog_11_method_1_code, exceptionTable := #[], attributes := #[] }
def k2m0 : Method := { name := "<init>", desc := "()V", sig := { parameters := [], returnType := none }, accessFlags := 0, code := some k2c0 }
def k2c1 : Code := { maxStack := 6, maxLocals := 4, code := prog_11_method_2_code, exceptionTable := #[], attributes := #[] }
def k2m1 : Method := { name := "requireLater", desc := "(J)V", sig := { parameters := [.long], returnType := none }, accessFlags := 0, code := some k2c1 }
def k2c2 : Code := { maxStack := 5, maxLocals := 3, code := prog_11_method_4_code, exceptionTable := #[], attributes := #[] }
def k2m2 : Method := { name := "closeThrough", desc := "(J)Ljava/util/Optional;", sig := { parameters := [.long], returnType := some (.object "java/util/Optional") }, accessFlags := 0, code := some k2c2 }
def k2c3 : Code := { maxStack := 4, maxLocals := 5, code := prog_11_method_6_code, exceptionTable := #[], attributes := #[] }
def k2m3 : Method := { name := "requireNoHourWithoutSample", desc := "(J)V", sig := { parameters := [.long], returnType := none }, accessFlags := 2, code := some k2c3 }
/-- com/example/marktide/marktide/engine/HourlyAverage -/
def k2 : Class := { plain "com/example/marktide/marktide/engine/HourlyAverage" (some 0) with
  accessFlags := 48
  interfaces := #[]
  cf := some (fileOf pool2 12 #[.nestMembers #[110]] #[{ accessFlags := 0, nameIndex := 5, descriptorIndex := 6, attributes := #[] }, { accessFlags := 0, nameIndex := 47, descriptorIndex := 48, attributes := #[] }, { accessFlags := 0, nameIndex := 131, descriptorIndex := 132, attributes := #[] }, { accessFlags := 2, nameIndex := 51, descriptorIndex := 48, attributes := #[] }] 48 2 #[] #[{ accessFlags := 26, nameIndex := 122, descriptorIndex := 16, attributes := #[] }, { accessFlags := 2, nameIndex := 15, descriptorIndex := 16, attributes := #[] }, { accessFlags := 2, nameIndex := 64, descriptorIndex := 16, attributes := #[] }, { accessFlags := 2, nameIndex := 60, descriptorIndex := 61, attributes := #[] }, { accessFlags := 2, nameIndex := 90, descriptorIndex := 16, attributes := #[] }, { accessFlags := 2, nameIndex := 19, descriptorIndex := 16, attributes := #[] }, { accessFlags := 2, nameIndex := 93, descriptorIndex := 68, attributes := #[] }, { accessFlags := 2, nameIndex := 67, descriptorIndex := 68, attributes := #[] }])
  fields := #[{ name := "HOUR", type := .long, accessFlags := 26, slot := 0, constantValue := 0 }, { name := "through", type := .long, accessFlags := 2, slot := 0, constantValue := 0 }, { name := "hourEnd", type := .long, accessFlags := 2, slot := 1, constantValue := 0 }, { name := "weighted", type := (.object "com/example/marktide/marktide/engine/Sum"), accessFlags := 2, slot := 2, constantValue := 0 }, { name := "coveredFrom", type := .long, accessFlags := 2, slot := 3, constantValue := 0 }, { name := "lastTime", type := .long, accessFlags := 2, slot := 4, constantValue := 0 }, { name := "lastValue", type := (.object "java/math/BigDecimal"), accessFlags := 2, slot := 5, constantValue := 0 }, { name := "lastClosing", type := (.object "java/math/BigDecimal"), accessFlags := 2, slot := 6, constantValue := 0 }]
  methods := #[k2m0, k2m1, k2m2, k2m3]
  instanceTypes := #[.long, .long, (.object "com/example/marktide/marktide/engine/Sum"), .long, .long, (.object "java/math/BigDecimal"), (.object "java/math/BigDecimal")]
  staticTypes := #[.long]
  resolved := Array.replicate 157 none
  statics := none }

def pool3 : Array CpInfo := pool [(1, .class_ 2), (0, u "java/lang/Math"), (1, .class_ 6), (1, u "java/lang/Object"), (0, u "<init>"), (0, u "()V"), (89, .class_ 100), (1, u "java/lang/Math$RandomNumberGeneratorHolder"), (20, u "(JJ)J"), (50, u "negativeZeroFloatBits"), (0, u "J"), (2, u "negativeZeroDoubleBits"), (21, u "max"), (46, u "$assertionsDisabled"), (0, u "Z"), (91, u "twoToTheDoubleScaleDown"), (0, u "D"), (4, u "twoToTheDoubleScaleUp"), (9, u "E"), (3, u "PI"), (2, u "TAU"), (2, u "DEGREES_TO_RADIANS"), (0, u "RADIANS_TO_DEGREES")] 94

def k3m0 : Method := { name := "<init>", desc := "()V", sig := { parameters := [], returnType := none }, accessFlags := 2, code := none }
def k3c1 : Code := { maxStack := 4, maxLocals := 4, code := jdk_29_method_66_code, exceptionTable := #[], attributes := #[] }
def k3m1 : Method := { name := "max", desc := "(JJ)J", sig := { parameters := [.long, .long], returnType := some .long }, accessFlags := 9, code := some k3c1 }
/-- java/lang/Math -/
def k3 : Class := { plain "java/lang/Math" (some 0) with
  accessFlags := 49
  interfaces := #[]
  cf := some (fileOf pool3 1 #[.nestMembers #[98]] #[{ accessFlags := 2, nameIndex := 7, descriptorIndex := 8, attributes := #[] }, { accessFlags := 9, nameIndex := 198, descriptorIndex := 121, attributes := #[] }] 49 4 #[] #[{ accessFlags := 25, nameIndex := 354, descriptorIndex := 339, attributes := #[] }, { accessFlags := 25, nameIndex := 358, descriptorIndex := 339, attributes := #[] }, { accessFlags := 25, nameIndex := 361, descriptorIndex := 339, attributes := #[] }, { accessFlags := 26, nameIndex := 364, descriptorIndex := 339, attributes := #[] }, { accessFlags := 26, nameIndex := 365, descriptorIndex := 339, attributes := #[] }, { accessFlags := 26, nameIndex := 172, descriptorIndex := 173, attributes := #[] }, { accessFlags := 26, nameIndex := 176, descriptorIndex := 173, attributes := #[] }, { accessFlags := 8, nameIndex := 344, descriptorIndex := 339, attributes := #[] }, { accessFlags := 8, nameIndex := 338, descriptorIndex := 339, attributes := #[] }, { accessFlags := 4120, nameIndex := 245, descriptorIndex := 246, attributes := #[] }])
  fields := #[{ name := "E", type := .double, accessFlags := 25, slot := 0, constantValue := 0 }, { name := "PI", type := .double, accessFlags := 25, slot := 1, constantValue := 0 }, { name := "TAU", type := .double, accessFlags := 25, slot := 2, constantValue := 0 }, { name := "DEGREES_TO_RADIANS", type := .double, accessFlags := 26, slot := 3, constantValue := 0 }, { name := "RADIANS_TO_DEGREES", type := .double, accessFlags := 26, slot := 4, constantValue := 0 }, { name := "negativeZeroFloatBits", type := .long, accessFlags := 26, slot := 5, constantValue := 0 }, { name := "negativeZeroDoubleBits", type := .long, accessFlags := 26, slot := 6, constantValue := 0 }, { name := "twoToTheDoubleScaleUp", type := .double, accessFlags := 8, slot := 7, constantValue := 0 }, { name := "twoToTheDoubleScaleDown", type := .double, accessFlags := 8, slot := 8, constantValue := 0 }, { name := "$assertionsDisabled", type := .boolean, accessFlags := 4120, slot := 9, constantValue := 0 }]
  methods := #[k3m0, k3m1]
  instanceTypes := #[]
  staticTypes := #[.double, .double, .double, .double, .double, .long, .long, .double, .double, .boolean]
  resolved := Array.replicate 460 none
  statics := none }

def pool4 : Array CpInfo := pool [(1, .fieldref 2 3), (0, .class_ 4), (0, .nameAndType 5 6), (0, u "java/util/Optional"), (0, u "EMPTY"), (0, u "Ljava/util/Optional;"), (1, .class_ 10), (1, u "java/lang/Object"), (4, u "value"), (0, u "Ljava/lang/Object;"), (38, u "empty"), (0, u "()Ljava/util/Optional;")] 130

def k4c0 : Code := { maxStack := 1, maxLocals := 1, code := jdk_32_method_1_code, exceptionTable := #[], attributes := #[] }
def k4m0 : Method := { name := "empty", desc := "()Ljava/util/Optional;", sig := { parameters := [], returnType := some (.object "java/util/Optional") }, accessFlags := 9, code := some k4c0 }
/-- java/util/Optional -/
def k4 : Class := { plain "java/util/Optional" (some 0) with
  accessFlags := 49
  interfaces := #[]
  cf := some (fileOf pool4 2 #[] #[{ accessFlags := 9, nameIndex := 55, descriptorIndex := 56, attributes := #[] }] 49 8 #[] #[{ accessFlags := 26, nameIndex := 5, descriptorIndex := 6, attributes := #[] }, { accessFlags := 18, nameIndex := 15, descriptorIndex := 16, attributes := #[] }])
  fields := #[{ name := "EMPTY", type := (.object "java/util/Optional"), accessFlags := 26, slot := 0, constantValue := 0 }, { name := "value", type := (.object "java/lang/Object"), accessFlags := 18, slot := 0, constantValue := 0 }]
  methods := #[k4m0]
  instanceTypes := #[(.object "java/lang/Object")]
  staticTypes := #[(.object "java/util/Optional")]
  resolved := Array.replicate 187 none
  statics := some 0 }

def pool5 : Array CpInfo := pool [(1, u "java/lang/Cloneable"), (0, .class_ 1), (0, u "java/lang/Object"), (0, .class_ 3)] 3

/-- java/lang/Cloneable -/
def k5 : Class := { plain "java/lang/Cloneable" (some 0) with
  accessFlags := 1537
  interfaces := #[]
  cf := some (fileOf pool5 2 #[] #[] 1537 4 #[] #[])
  fields := #[]
  methods := #[]
  instanceTypes := #[]
  staticTypes := #[]
  resolved := Array.replicate 8 none
  statics := none }

def pool6 : Array CpInfo := pool [(1, u "java/io/Serializable"), (0, .class_ 1), (0, u "java/lang/Object"), (0, .class_ 3)] 3

/-- java/io/Serializable -/
def k6 : Class := { plain "java/io/Serializable" (some 0) with
  accessFlags := 1537
  interfaces := #[]
  cf := some (fileOf pool6 2 #[] #[] 1537 4 #[] #[])
  fields := #[]
  methods := #[]
  instanceTypes := #[]
  staticTypes := #[]
  resolved := Array.replicate 8 none
  statics := none }

/-- the primitive byte -/
def k7 : Class := { plain "byte" none with kind := .primitive 'B', accessFlags := 0x411 }
/-- [B -/
def k8 : Class := { plain "[B" (some 0) with kind := .array 7 .byte, interfaces := #[5, 6], accessFlags := 1041 }

/-- the primitive int -/
def k9 : Class := { plain "int" none with kind := .primitive 'I', accessFlags := 0x411 }
/-- [I -/
def k10 : Class := { plain "[I" (some 0) with kind := .array 9 .int, interfaces := #[5, 6], accessFlags := 1041 }

def heap : Heap := #[{ cls := 4, slots := #[.ref 1], vm := .statics 4 },
  { cls := 4, slots := #[.null], vm := .none }]
def classes : Array Class := #[k0, k1, k2, k3, k4, k5, k6, k7, k8, k9, k10]
def interned : List (Array UInt16 × Addr) := []
def slotsUsed : Nat := 2
def theMethod : MethodId := ⟨1, 1⟩
def args0 : Array Value := #[.long 5, .long 6, .long 7, .int 2]
def aboutOver (below : List Frame) : State where
  vm := { classes := classes, interned := interned.toArray }
  heap := heap
  slotsUsed := slotsUsed
  threads := #[{ frames := .invoking theMethod args0 :: below }]
def below0 : List Frame := [.native { method := ⟨0, 0⟩, args := #[] }]
def about1 : State := aboutOver below0
def p0 : Program := .bare "" "" ""
def e0 : Env := launch0.env 0 0 0
theorem w_frames : about1.frames = Frame.invoking theMethod args0 :: below0 := rfl
set_option maxRecDepth 65536 in
theorem w_args : argsFit about1.vm theMethod args0 = true := by decide +kernel
set_option maxRecDepth 65536 in
theorem w_heap : heapFits about1 = true := by decide +kernel
set_option maxRecDepth 65536 in
theorem w_runnable : about1.curStatus? = some .runnable := by decide +kernel
set_option maxRecDepth 65536 in
theorem w_alone : about1.alone = true := by decide +kernel
set_option maxRecDepth 65536 in
theorem w_named : about1.methodNamed? x = some theMethod := by decide +kernel
set_option maxRecDepth 65536 in
theorem w_hears : about1.hears theMethod below0 = true := by decide +kernel
set_option maxRecDepth 65536 in
theorem w_ripe : about1.ripe theMethod args0 below0 = true := by decide +kernel
theorem w_running : about1.status = .running := rfl
set_option maxRecDepth 65536 in
theorem w_room : about1.hasRoom e0.platform room_1 = true :=
  launch0.hasRoom_least _ room_1 (by decide +kernel) (by decide +kernel) (by decide +kernel) (by decide +kernel) (by decide +kernel) (by decide +kernel)
theorem allAtoms_all (ts : List Jvm.Cond) (a : Array Jvm.Value) (st : Jvm.State) : (allAtoms ts).before a st = ts.all (fun c => c.before a st) := by
  induction ts with
  | nil => rfl
  | cons c t ih =>
    show (Jvm.Cond.and c (allAtoms t)).before a st = _
    rw [Jvm.Cond.before_and, ih, List.all_cons]
def words1 : List Jvm.Cond := Jvm.Cond.code x code maxLocals ret :: tables_1
/-- a 'code' word, met by the world's own term for the bytes: nothing is compared byte by byte -/
theorem code_word {y : MethodName} {bytes : ByteArray} {mx : Nat} {rt : Option FieldType} {a : Array Value} {s : State} {m : MethodId} {meth : Method} {c : Code} (h1 : s.methodNamed? y = some m) (h2 : s.vm.method? m = some meth) (h3 : meth.code = some c) (h4 : c.code = bytes)
    (h5 : (c.maxLocals == mx && c.exceptionTable.isEmpty && decide (c.maxStack ≤ mostOperands) && decide (meth.sig.returnType = rt) && !meth.locks && decide (parseMethodDescriptor y.desc = some meth.sig)) = true) : (Jvm.Cond.code y bytes mx rt).before a s = true := by
  simp only [Bool.and_eq_true, beq_iff_eq, Bool.not_eq_true', decide_eq_true_eq] at h5
  obtain ⟨⟨⟨⟨⟨g1, g2⟩, g3⟩, g4⟩, g5⟩, g6⟩ := h5
  simp [Cond.before, Cond.holds, Cond.value, h1, h2, h3, h4, g1, g2, g3, g4, g5, g6]
def isCode : Jvm.Cond → Bool
  | .code _ _ _ _ => true
  | _ => false
theorem all_split {L : List Jvm.Cond} {P : Jvm.Cond → Bool} (h1 : L.all (fun c => isCode c || P c) = true) (h2 : ∀ c ∈ L.filter isCode, P c = true) : L.all P = true := by
  refine List.all_eq_true.mpr fun c hc => ?_
  have h := List.all_eq_true.mp h1 c hc
  rcases Bool.eq_false_or_eq_true (isCode c) with hi | hi
  · exact h2 c (List.mem_filter.mpr ⟨hc, hi⟩)
  · simpa [hi] using h
set_option maxRecDepth 65536 in
theorem w_c0 : (Jvm.Cond.code x code maxLocals ret).before args0 about1 = true := code_word (m := ⟨1, 1⟩) (meth := k1m1) (c := k1c1) (by decide +kernel) rfl rfl rfl (by decide +kernel)
set_option maxRecDepth 65536 in
theorem w_c1 : (Jvm.Cond.code ({ cls := "com/example/marktide/marktide/engine/HourlyAverage", name := "<init>", desc := "()V" } : Jvm.MethodName) prog_11_method_1_code (1 : Nat) (Option.none : Option Jvm.ClassFile.FieldType)).before args0 about1 = true := code_word (m := ⟨2, 0⟩) (meth := k2m0) (c := k2c0) (by decide +kernel) rfl rfl rfl (by decide +kernel)
set_option maxRecDepth 65536 in
theorem w_c2 : (Jvm.Cond.code ({ cls := "java/lang/Object", name := "<init>", desc := "()V" } : Jvm.MethodName) object_method_1_code (1 : Nat) (Option.none : Option Jvm.ClassFile.FieldType)).before args0 about1 = true := code_word (m := ⟨0, 0⟩) (meth := k0m0) (c := k0c0) (by decide +kernel) rfl rfl rfl (by decide +kernel)
set_option maxRecDepth 65536 in
theorem w_c3 : (Jvm.Cond.code ({ cls := "java/lang/Math", name := "max", desc := "(JJ)J" } : Jvm.MethodName) jdk_29_method_66_code (4 : Nat) (Option.some Jvm.ClassFile.FieldType.long)).before args0 about1 = true := code_word (m := ⟨3, 1⟩) (meth := k3m1) (c := k3c1) (by decide +kernel) rfl rfl rfl (by decide +kernel)
set_option maxRecDepth 65536 in
theorem w_c4 : (Jvm.Cond.code ({ cls := "com/example/marktide/marktide/engine/HourlyAverage", name := "closeThrough", desc := "(J)Ljava/util/Optional;" } : Jvm.MethodName) prog_11_method_4_code (3 : Nat) (Option.some (Jvm.ClassFile.FieldType.object "java/util/Optional"))).before args0 about1 = true := code_word (m := ⟨2, 2⟩) (meth := k2m2) (c := k2c2) (by decide +kernel) rfl rfl rfl (by decide +kernel)
set_option maxRecDepth 65536 in
theorem w_c5 : (Jvm.Cond.code ({ cls := "com/example/marktide/marktide/engine/HourlyAverage", name := "requireNoHourWithoutSample", desc := "(J)V" } : Jvm.MethodName) prog_11_method_6_code (5 : Nat) (Option.none : Option Jvm.ClassFile.FieldType)).before args0 about1 = true := code_word (m := ⟨2, 3⟩) (meth := k2m3) (c := k2c3) (by decide +kernel) rfl rfl rfl (by decide +kernel)
set_option maxRecDepth 65536 in
theorem w_c6 : (Jvm.Cond.code ({ cls := "java/util/Optional", name := "empty", desc := "()Ljava/util/Optional;" } : Jvm.MethodName) jdk_32_method_1_code (1 : Nat) (Option.some (Jvm.ClassFile.FieldType.object "java/util/Optional"))).before args0 about1 = true := code_word (m := ⟨4, 0⟩) (meth := k4m0) (c := k4c0) (by decide +kernel) rfl rfl rfl (by decide +kernel)
set_option maxRecDepth 65536 in
theorem w_c7 : (Jvm.Cond.code ({ cls := "com/example/marktide/marktide/engine/HourlyAverage", name := "requireLater", desc := "(J)V" } : Jvm.MethodName) prog_11_method_2_code (4 : Nat) (Option.none : Option Jvm.ClassFile.FieldType)).before args0 about1 = true := code_word (m := ⟨2, 1⟩) (meth := k2m1) (c := k2c1) (by decide +kernel) rfl rfl rfl (by decide +kernel)
def codes1 : List Jvm.Cond := [Jvm.Cond.code x code maxLocals ret, Jvm.Cond.code ({ cls := "com/example/marktide/marktide/engine/HourlyAverage", name := "<init>", desc := "()V" } : Jvm.MethodName) prog_11_method_1_code (1 : Nat) (Option.none : Option Jvm.ClassFile.FieldType), Jvm.Cond.code ({ cls := "java/lang/Object", name := "<init>", desc := "()V" } : Jvm.MethodName) object_method_1_code (1 : Nat) (Option.none : Option Jvm.ClassFile.FieldType), Jvm.Cond.code ({ cls := "java/lang/Math", name := "max", desc := "(JJ)J" } : Jvm.MethodName) jdk_29_method_66_code (4 : Nat) (Option.some Jvm.ClassFile.FieldType.long), Jvm.Cond.code ({ cls := "com/example/marktide/marktide/engine/HourlyAverage", name := "closeThrough", desc := "(J)Ljava/util/Optional;" } : Jvm.MethodName) prog_11_method_4_code (3 : Nat) (Option.some (Jvm.ClassFile.FieldType.object "java/util/Optional")), Jvm.Cond.code ({ cls := "com/example/marktide/marktide/engine/HourlyAverage", name := "requireNoHourWithoutSample", desc := "(J)V" } : Jvm.MethodName) prog_11_method_6_code (5 : Nat) (Option.none : Option Jvm.ClassFile.FieldType), Jvm.Cond.code ({ cls := "java/util/Optional", name := "empty", desc := "()Ljava/util/Optional;" } : Jvm.MethodName) jdk_32_method_1_code (1 : Nat) (Option.some (Jvm.ClassFile.FieldType.object "java/util/Optional")), Jvm.Cond.code ({ cls := "com/example/marktide/marktide/engine/HourlyAverage", name := "requireLater", desc := "(J)V" } : Jvm.MethodName) prog_11_method_2_code (4 : Nat) (Option.none : Option Jvm.ClassFile.FieldType)]
set_option maxRecDepth 65536 in
theorem codes_eq : words1.filter isCode = codes1 := rfl
theorem w_codes : ∀ c ∈ words1.filter isCode, c.before args0 about1 = true := by
  rw [codes_eq]
  intro c hc
  simp only [codes1, List.mem_cons, List.not_mem_nil, or_false] at hc
  rcases hc with rfl | rfl | rfl | rfl | rfl | rfl | rfl | rfl
  · exact w_c0
  · exact w_c1
  · exact w_c2
  · exact w_c3
  · exact w_c4
  · exact w_c5
  · exact w_c6
  · exact w_c7
set_option maxRecDepth 65536 in
theorem w_t1 : (words1.take 24).all (fun c => isCode c || c.before args0 about1) = true := by decide +kernel
set_option maxRecDepth 65536 in
theorem w_t2 : (words1.drop 24).all (fun c => isCode c || c.before args0 about1) = true := by decide +kernel
theorem w_tables : (allAtoms (Jvm.Cond.code x code maxLocals ret :: tables_1)).before args0 about1 = true := by
  rw [allAtoms_all]
  show words1.all (fun c => c.before args0 about1) = true
  refine all_split ?_ w_codes
  rw [← List.take_append_drop 24 words1, List.all_append, w_t1, w_t2]
  rfl
set_option maxRecDepth 65536 in
theorem w_rest : rest_1_c.before args0 about1 = true := by decide +kernel
set_option maxRecDepth 65536 in
theorem w_case : (Jvm.Cond.and given_1 narrow_1).before args0 about1 = true := by decide +kernel
theorem w_applies : (headSpec (Jvm.Cond.code x code maxLocals ret :: tables_1) room_1).applies x e0.platform about1 = true :=
  (Spec.applies_iff w_frames).mpr ⟨w_running, w_runnable, w_alone, w_named, w_hears, w_ripe, w_room, w_tables⟩
theorem atStart : AtStart classFile x code maxLocals ret World_1 tables_1 room_1 Calls_1 rest_1 Pre_1 launch0 p0 e0 about1 theMethod args0 below0 :=
  ⟨lists_1, trivial, launch0.admits_env _ _ _, launch0.least_env, fairChoices_fair.cas, fairChoices_fair.clock, w_frames, w_args, w_heap, w_applies, trivial, w_rest, w_case⟩
end start1
theorem witness_1 : WitnessClaimed_1 := ⟨start1.p0, start1.e0, start1.about1, start1.theMethod, start1.args0, start1.below0, start1.atStart⟩
end Jvm.Pilot.@@N@@
