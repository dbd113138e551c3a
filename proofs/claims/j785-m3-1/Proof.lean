import JvmDerived
import JvmDerived.Pilot.@@N@@Statement
import JvmDerived.Pilot.@@N@@Code
set_option linter.unusedVariables false
set_option linter.unusedSimpArgs false
namespace Jvm.RoadKit
open Sem ClassFile Op Lib Jvm.Stand Jvm.Free Jvm.LawKit
section New
variable {p : Program} {l : Launch} {e : Env} {R : Room} {s : State} {m : MethodId} {args : Array Value} {below : List Frame} {meth : Method} {c : Code} {T : State} {locs : List Loc} {cells slots : Nat}
theorem retI (X : Stand p l e R s m args below meth c T locs cells slots) (hx : p.tables.exec = Jvm.exec) {pc : Nat} {Ls : Array Slot} {z : Int32} {rest : List Value} (hret : meth.sig.returnType = some .int) (hd : decode c.code pc = .ok (.ireturn, 1)) {fs : List Frame}
    (hl : ∀ (f : JFrame) (acts : List Action), f.method = m → f.locked = none → f.entered = [] → (doReturn e (T.setTop f) acts (some (.int z))).1 = T.setFrames fs) : Steps p.tables e below (T.setTop (mkF m pc Ls (.int z :: rest))) (T.setFrames fs) := by
  have hm' : T.vm.method? m = some meth := X.method'
  have hn : narrow .int (.int z) = .int z := rfl
  show Steps p.tables e below (T.setTop { method := m, pc := pc, locals := Ls, stack := _ :: rest, locked := none }) _
  jvm_step X.here [X.here.top, hx, hd, hm', hret, hn]
  first | (intro acts; rw [hl _ acts rfl rfl rfl]) | rw [hl _ _ rfl rfl rfl]
  exact Steps.refl _
theorem own_retJ (X : Stand p l e R s m args below meth c T locs cells slots) (hx : p.tables.exec = Jvm.exec) {pc : Nat} {Ls : Array Slot} {z : Int64} {rest : List Value} (hret : meth.sig.returnType = some .long) (hd : decode c.code pc = .ok (.lreturn, 1)) {fs : List Frame}
    (hl : ∀ (f : JFrame) (acts : List Action), f.method = m → f.locked = none → f.entered = [] → (doReturn e (T.setTop f) acts (some (.long z))).1 = T.setFrames fs) : Steps p.tables e below (T.setTop (mkF m pc Ls (.long z :: rest))) (T.setFrames fs) := by
  have hm' : T.vm.method? m = some meth := X.method'
  show Steps p.tables e below (T.setTop { method := m, pc := pc, locals := Ls, stack := _ :: rest, locked := none }) _
  jvm_step X.here [X.here.top, hx, hd, hm', hret, narrow]
  first | (intro acts; rw [hl _ acts rfl rfl rfl]) | rw [hl _ _ rfl rfl rfl]
  exact Steps.refl _
theorem own_retD (X : Stand p l e R s m args below meth c T locs cells slots) (hx : p.tables.exec = Jvm.exec) {pc : Nat} {Ls : Array Slot} {z : UInt64} {rest : List Value} (hret : meth.sig.returnType = some .double) (hd : decode c.code pc = .ok (.dreturn, 1)) {fs : List Frame}
    (hl : ∀ (f : JFrame) (acts : List Action), f.method = m → f.locked = none → f.entered = [] → (doReturn e (T.setTop f) acts (some (.double z))).1 = T.setFrames fs) : Steps p.tables e below (T.setTop (mkF m pc Ls (.double z :: rest))) (T.setFrames fs) := by
  have hm' : T.vm.method? m = some meth := X.method'
  show Steps p.tables e below (T.setTop { method := m, pc := pc, locals := Ls, stack := _ :: rest, locked := none }) _
  jvm_step X.here [X.here.top, hx, hd, hm', hret, narrow]
  first | (intro acts; rw [hl _ acts rfl rfl rfl]) | rw [hl _ _ rfl rfl rfl]
  exact Steps.refl _
/-- from T, with the frame g on top, the run comes to an end of the kind that Q tells; Fe: the frame of that end -/
def Goes (p : Program) (e : Env) (below : List Frame) (s : State) (Fe : State → Outcome → State → List Loc → Nat → Nat → Prop) (kc ks : Nat) (Q : Option Value → Heap → List Loc → Prop) (T : State) (g : JFrame) : Prop :=
  ∃ s₂ o, Steps p.tables e below (T.setTop g) s₂ ∧ s₂.status = .running ∧ Ended s₂ below o ∧ ∃ v L, o = .returned v ∧ Q v s₂.heap L ∧ Fe s o s₂ L kc ks
/-- a wide end that keeps the invariant of the held constants -/
def HeldEnd (Z : State) (EL : List (String × Nat)) (s : State) (o : Outcome) (t : State) (L : List Loc) (k n : Nat) : Prop := CHr Z EL s.vm s.heap t.vm t.heap ∧ ReturnedEndW s o t L k n
variable {kc ks : Nat} {Q : Option Value → Heap → List Loc → Prop} {T' : State} {Fe : State → Outcome → State → List Loc → Nat → Nat → Prop}
theorem Goes.go {g g' : JFrame} (h : ∀ t, Steps p.tables e below (T'.setTop g') t → Steps p.tables e below (T.setTop g) t) (k : Goes p e below s Fe kc ks Q T' g') : Goes p e below s Fe kc ks Q T g := by
  obtain ⟨s₂, o, h1, h2⟩ := k
  exact ⟨s₂, o, h _ h1, h2⟩
theorem Goes.to {g : JFrame} (g' : JFrame) (h : ∀ t, Steps p.tables e below (T'.setTop g') t → Steps p.tables e below (T.setTop g) t) (k : Goes p e below s Fe kc ks Q T' g') : Goes p e below s Fe kc ks Q T g := k.go h
theorem Goes.cast {g g' : JFrame} (q : g = g') (k : Goes p e below s Fe kc ks Q T g') : Goes p e below s Fe kc ks Q T g := q ▸ k
theorem Goes.retN (X : Stand p l e R s m args below meth c T locs cells slots) (hx : p.tables.exec = Jvm.exec) (hlk : meth.locks = false) {pc : Nat} {Ls : Array Slot} {z : Int32} {t : FieldType} {rest : List Value} (hret : meth.sig.returnType = some t) (ht : t = .boolean ∨ t = .byte ∨ t = .char ∨ t = .short) (hd : decode c.code pc = .ok (.ireturn, 1)) (hc : cells ≤ kc) (hs : slots ≤ ks) (hQ : Q (some (.int (nar t z))) T.heap locs) : Goes p e below s FrameEnd kc ks Q T (mkF m pc Ls (.int z :: rest)) := by
  obtain ⟨fs, hr, hrun, hended, hW, hsame⟩ := X.leave (v := some (.int (nar t z))) (fun h => by rw [hret] at h; cases h) hlk
  exact ⟨_, _, RoadKit.retN X hx hret ht hd hr, hrun, hended, _, _, rfl, hQ, ⟨_, rfl⟩, hW, hsame.mono hc hs⟩
theorem Goes.retNW {vm1 : Vm} {k0 : Nat} (X : Stand p l e R (s.setVm vm1) m args below meth c T locs cells slots) (hx : p.tables.exec = Jvm.exec) (hlk : meth.locks = false) (hS : s.Since vm1 k0) (hk : k0 ≤ T.heap.size) {pc : Nat} {Ls : Array Slot} {z : Int32} {t : FieldType} {rest : List Value} (hret : meth.sig.returnType = some t) (ht : t = .boolean ∨ t = .byte ∨ t = .char ∨ t = .short) (hd : decode c.code pc = .ok (.ireturn, 1)) (hc : cells ≤ kc) (hs : slots ≤ ks) (hQ : Q (some (.int (nar t z))) T.heap locs) : Goes p e below s ReturnedEndW kc ks Q T (mkF m pc Ls (.int z :: rest)) := by
  obtain ⟨fs, hr, hrun, hended, h1, h2, h3, hsame⟩ := X.leaveW hS hk (v := some (.int (nar t z))) (fun h => by rw [hret] at h; cases h) hlk
  exact ⟨_, _, RoadKit.retN X hx hret ht hd hr, hrun, hended, _, _, rfl, hQ, h1, h2, h3, hsame.mono hc hs⟩
theorem Goes.retI (X : Stand p l e R s m args below meth c T locs cells slots) (hx : p.tables.exec = Jvm.exec) (hlk : meth.locks = false) {pc : Nat} {Ls : Array Slot} {z : Int32} {rest : List Value} (hret : meth.sig.returnType = some .int) (hd : decode c.code pc = .ok (.ireturn, 1)) (hc : cells ≤ kc) (hs : slots ≤ ks) (hQ : Q (some (.int z)) T.heap locs) : Goes p e below s FrameEnd kc ks Q T (mkF m pc Ls (.int z :: rest)) := by
  obtain ⟨fs, hr, hrun, hended, hW, hsame⟩ := X.leave (v := some (.int z)) (fun h => by rw [hret] at h; cases h) hlk
  exact ⟨_, _, RoadKit.retI X hx hret hd hr, hrun, hended, _, _, rfl, hQ, ⟨_, rfl⟩, hW, hsame.mono hc hs⟩
theorem Goes.retIW {vm1 : Vm} {k0 : Nat} (X : Stand p l e R (s.setVm vm1) m args below meth c T locs cells slots) (hx : p.tables.exec = Jvm.exec) (hlk : meth.locks = false) (hS : s.Since vm1 k0) (hk : k0 ≤ T.heap.size) {pc : Nat} {Ls : Array Slot} {z : Int32} {rest : List Value} (hret : meth.sig.returnType = some .int) (hd : decode c.code pc = .ok (.ireturn, 1)) (hc : cells ≤ kc) (hs : slots ≤ ks) (hQ : Q (some (.int z)) T.heap locs) : Goes p e below s ReturnedEndW kc ks Q T (mkF m pc Ls (.int z :: rest)) := by
  obtain ⟨fs, hr, hrun, hended, h1, h2, h3, hsame⟩ := X.leaveW hS hk (v := some (.int z)) (fun h => by rw [hret] at h; cases h) hlk
  exact ⟨_, _, RoadKit.retI X hx hret hd hr, hrun, hended, _, _, rfl, hQ, h1, h2, h3, hsame.mono hc hs⟩
theorem Goes.retJ (X : Stand p l e R s m args below meth c T locs cells slots) (hx : p.tables.exec = Jvm.exec) (hlk : meth.locks = false) {pc : Nat} {Ls : Array Slot} {z : Int64} {rest : List Value} (hret : meth.sig.returnType = some .long) (hd : decode c.code pc = .ok (.lreturn, 1)) (hc : cells ≤ kc) (hs : slots ≤ ks) (hQ : Q (some (.long z)) T.heap locs) : Goes p e below s FrameEnd kc ks Q T (mkF m pc Ls (.long z :: rest)) := by
  obtain ⟨fs, hr, hrun, hended, hW, hsame⟩ := X.leave (v := some (.long z)) (fun h => by rw [hret] at h; cases h) hlk
  exact ⟨_, _, own_retJ X hx hret hd hr, hrun, hended, _, _, rfl, hQ, ⟨_, rfl⟩, hW, hsame.mono hc hs⟩
theorem Goes.retJW {vm1 : Vm} {k0 : Nat} (X : Stand p l e R (s.setVm vm1) m args below meth c T locs cells slots) (hx : p.tables.exec = Jvm.exec) (hlk : meth.locks = false) (hS : s.Since vm1 k0) (hk : k0 ≤ T.heap.size) {pc : Nat} {Ls : Array Slot} {z : Int64} {rest : List Value} (hret : meth.sig.returnType = some .long) (hd : decode c.code pc = .ok (.lreturn, 1)) (hc : cells ≤ kc) (hs : slots ≤ ks) (hQ : Q (some (.long z)) T.heap locs) : Goes p e below s ReturnedEndW kc ks Q T (mkF m pc Ls (.long z :: rest)) := by
  obtain ⟨fs, hr, hrun, hended, h1, h2, h3, hsame⟩ := X.leaveW hS hk (v := some (.long z)) (fun h => by rw [hret] at h; cases h) hlk
  exact ⟨_, _, own_retJ X hx hret hd hr, hrun, hended, _, _, rfl, hQ, h1, h2, h3, hsame.mono hc hs⟩
theorem Goes.retD (X : Stand p l e R s m args below meth c T locs cells slots) (hx : p.tables.exec = Jvm.exec) (hlk : meth.locks = false) {pc : Nat} {Ls : Array Slot} {z : UInt64} {rest : List Value} (hret : meth.sig.returnType = some .double) (hd : decode c.code pc = .ok (.dreturn, 1)) (hc : cells ≤ kc) (hs : slots ≤ ks) (hQ : Q (some (.double z)) T.heap locs) : Goes p e below s FrameEnd kc ks Q T (mkF m pc Ls (.double z :: rest)) := by
  obtain ⟨fs, hr, hrun, hended, hW, hsame⟩ := X.leave (v := some (.double z)) (fun h => by rw [hret] at h; cases h) hlk
  exact ⟨_, _, own_retD X hx hret hd hr, hrun, hended, _, _, rfl, hQ, ⟨_, rfl⟩, hW, hsame.mono hc hs⟩
theorem Goes.retDW {vm1 : Vm} {k0 : Nat} (X : Stand p l e R (s.setVm vm1) m args below meth c T locs cells slots) (hx : p.tables.exec = Jvm.exec) (hlk : meth.locks = false) (hS : s.Since vm1 k0) (hk : k0 ≤ T.heap.size) {pc : Nat} {Ls : Array Slot} {z : UInt64} {rest : List Value} (hret : meth.sig.returnType = some .double) (hd : decode c.code pc = .ok (.dreturn, 1)) (hc : cells ≤ kc) (hs : slots ≤ ks) (hQ : Q (some (.double z)) T.heap locs) : Goes p e below s ReturnedEndW kc ks Q T (mkF m pc Ls (.double z :: rest)) := by
  obtain ⟨fs, hr, hrun, hended, h1, h2, h3, hsame⟩ := X.leaveW hS hk (v := some (.double z)) (fun h => by rw [hret] at h; cases h) hlk
  exact ⟨_, _, own_retD X hx hret hd hr, hrun, hended, _, _, rfl, hQ, h1, h2, h3, hsame.mono hc hs⟩
theorem Goes.retA (X : Stand p l e R s m args below meth c T locs cells slots) (hx : p.tables.exec = Jvm.exec) (hlk : meth.locks = false) {pc : Nat} {Ls : Array Slot} {w : Value} {t : FieldType} (hw : w.isRef = true) (hret : meth.sig.returnType = some t) (ht : t.isReference = true) (hd : decode c.code pc = .ok (.areturn, 1)) (hc : cells ≤ kc) (hs : slots ≤ ks) (hQ : Q (some w) T.heap locs) : Goes p e below s FrameEnd kc ks Q T (mkF m pc Ls [w]) := by
  obtain ⟨fs, hr, hrun, hended, hW, hsame⟩ := X.leave (v := some w) (fun h => by rw [hret] at h; cases h) hlk
  exact ⟨_, _, X.areturnOut hx hw hret ht hd hr, hrun, hended, _, _, rfl, hQ, ⟨_, rfl⟩, hW, hsame.mono hc hs⟩
theorem Goes.retAW {vm1 : Vm} {k0 : Nat} (X : Stand p l e R (s.setVm vm1) m args below meth c T locs cells slots) (hx : p.tables.exec = Jvm.exec) (hlk : meth.locks = false) (hS : s.Since vm1 k0) (hk : k0 ≤ T.heap.size) {pc : Nat} {Ls : Array Slot} {w : Value} {t : FieldType} (hw : w.isRef = true) (hret : meth.sig.returnType = some t) (ht : t.isReference = true) (hd : decode c.code pc = .ok (.areturn, 1)) (hc : cells ≤ kc) (hs : slots ≤ ks) (hQ : Q (some w) T.heap locs) : Goes p e below s ReturnedEndW kc ks Q T (mkF m pc Ls [w]) := by
  obtain ⟨fs, hr, hrun, hended, h1, h2, h3, hsame⟩ := X.leaveW hS hk (v := some w) (fun h => by rw [hret] at h; cases h) hlk
  exact ⟨_, _, X.areturnOut hx hw hret ht hd hr, hrun, hended, _, _, rfl, hQ, h1, h2, h3, hsame.mono hc hs⟩
theorem Goes.retV (X : Stand p l e R s m args below meth c T locs cells slots) (hx : p.tables.exec = Jvm.exec) (hlk : meth.locks = false) {pc : Nat} {Ls : Array Slot} (hret : meth.sig.returnType = none) (hd : decode c.code pc = .ok (.return_, 1)) (hc : cells ≤ kc) (hs : slots ≤ ks) (hQ : Q (none) T.heap locs) : Goes p e below s FrameEnd kc ks Q T (mkF m pc Ls []) := by
  obtain ⟨fs, hr, hrun, hended, hW, hsame⟩ := X.leave (v := none) (fun _ => rfl) hlk
  exact ⟨_, _, X.returnOut hx hret hd hr, hrun, hended, _, _, rfl, hQ, ⟨_, rfl⟩, hW, hsame.mono hc hs⟩
theorem Goes.retVW {vm1 : Vm} {k0 : Nat} (X : Stand p l e R (s.setVm vm1) m args below meth c T locs cells slots) (hx : p.tables.exec = Jvm.exec) (hlk : meth.locks = false) (hS : s.Since vm1 k0) (hk : k0 ≤ T.heap.size) {pc : Nat} {Ls : Array Slot} (hret : meth.sig.returnType = none) (hd : decode c.code pc = .ok (.return_, 1)) (hc : cells ≤ kc) (hs : slots ≤ ks) (hQ : Q (none) T.heap locs) : Goes p e below s ReturnedEndW kc ks Q T (mkF m pc Ls []) := by
  obtain ⟨fs, hr, hrun, hended, h1, h2, h3, hsame⟩ := X.leaveW hS hk (v := none) (fun _ => rfl) hlk
  exact ⟨_, _, X.returnOut hx hret hd hr, hrun, hended, _, _, rfl, hQ, h1, h2, h3, hsame.mono hc hs⟩
theorem Goes.retNH {vm1 : Vm} {k0 : Nat} {Z : State} {a0 : Array Value} {EL : List (String × Nat)} (X : Stand p l e R (s.setVm vm1) m args below meth c T locs cells slots) (hx : p.tables.exec = Jvm.exec) (hlk : meth.locks = false) (hS : s.Since vm1 k0) (hk : k0 ≤ T.heap.size) (hZ : Z.Warmed39 vm1) (hEL : EW Z a0 EL) (C : CHr Z EL s.vm s.heap vm1 T.heap) {pc : Nat} {Ls : Array Slot} {z : Int32} {t : FieldType} {rest : List Value} (hret : meth.sig.returnType = some t) (ht : t = .boolean ∨ t = .byte ∨ t = .char ∨ t = .short) (hd : decode c.code pc = .ok (.ireturn, 1)) (hc : cells ≤ kc) (hs : slots ≤ ks) (hQ : Q (some (.int (nar t z))) T.heap locs) : Goes p e below s (HeldEnd Z EL) kc ks Q T (mkF m pc Ls (.int z :: rest)) := by
  obtain ⟨fs, hr, hrun, hended, h1, h2, h3, hsame⟩ := X.leaveW hS hk (v := some (.int (nar t z))) (fun h => by rw [hret] at h; cases h) hlk
  exact ⟨_, _, RoadKit.retN X hx hret ht hd hr, hrun, hended, _, _, rfl, hQ, C.trans (CHv.at (T := T) X hZ hEL C.1), h1, h2, h3, hsame.mono hc hs⟩
theorem Goes.retIH {vm1 : Vm} {k0 : Nat} {Z : State} {a0 : Array Value} {EL : List (String × Nat)} (X : Stand p l e R (s.setVm vm1) m args below meth c T locs cells slots) (hx : p.tables.exec = Jvm.exec) (hlk : meth.locks = false) (hS : s.Since vm1 k0) (hk : k0 ≤ T.heap.size) (hZ : Z.Warmed39 vm1) (hEL : EW Z a0 EL) (C : CHr Z EL s.vm s.heap vm1 T.heap) {pc : Nat} {Ls : Array Slot} {z : Int32} {rest : List Value} (hret : meth.sig.returnType = some .int) (hd : decode c.code pc = .ok (.ireturn, 1)) (hc : cells ≤ kc) (hs : slots ≤ ks) (hQ : Q (some (.int z)) T.heap locs) : Goes p e below s (HeldEnd Z EL) kc ks Q T (mkF m pc Ls (.int z :: rest)) := by
  obtain ⟨fs, hr, hrun, hended, h1, h2, h3, hsame⟩ := X.leaveW hS hk (v := some (.int z)) (fun h => by rw [hret] at h; cases h) hlk
  exact ⟨_, _, RoadKit.retI X hx hret hd hr, hrun, hended, _, _, rfl, hQ, C.trans (CHv.at (T := T) X hZ hEL C.1), h1, h2, h3, hsame.mono hc hs⟩
theorem Goes.retAH {vm1 : Vm} {k0 : Nat} {Z : State} {a0 : Array Value} {EL : List (String × Nat)} (X : Stand p l e R (s.setVm vm1) m args below meth c T locs cells slots) (hx : p.tables.exec = Jvm.exec) (hlk : meth.locks = false) (hS : s.Since vm1 k0) (hk : k0 ≤ T.heap.size) (hZ : Z.Warmed39 vm1) (hEL : EW Z a0 EL) (C : CHr Z EL s.vm s.heap vm1 T.heap) {pc : Nat} {Ls : Array Slot} {w : Value} {t : FieldType} (hw : w.isRef = true) (hret : meth.sig.returnType = some t) (ht : t.isReference = true) (hd : decode c.code pc = .ok (.areturn, 1)) (hc : cells ≤ kc) (hs : slots ≤ ks) (hQ : Q (some w) T.heap locs) : Goes p e below s (HeldEnd Z EL) kc ks Q T (mkF m pc Ls [w]) := by
  obtain ⟨fs, hr, hrun, hended, h1, h2, h3, hsame⟩ := X.leaveW hS hk (v := some w) (fun h => by rw [hret] at h; cases h) hlk
  exact ⟨_, _, X.areturnOut hx hw hret ht hd hr, hrun, hended, _, _, rfl, hQ, C.trans (CHv.at (T := T) X hZ hEL C.1), h1, h2, h3, hsame.mono hc hs⟩
theorem Goes.retVH {vm1 : Vm} {k0 : Nat} {Z : State} {a0 : Array Value} {EL : List (String × Nat)} (X : Stand p l e R (s.setVm vm1) m args below meth c T locs cells slots) (hx : p.tables.exec = Jvm.exec) (hlk : meth.locks = false) (hS : s.Since vm1 k0) (hk : k0 ≤ T.heap.size) (hZ : Z.Warmed39 vm1) (hEL : EW Z a0 EL) (C : CHr Z EL s.vm s.heap vm1 T.heap) {pc : Nat} {Ls : Array Slot} (hret : meth.sig.returnType = none) (hd : decode c.code pc = .ok (.return_, 1)) (hc : cells ≤ kc) (hs : slots ≤ ks) (hQ : Q (none) T.heap locs) : Goes p e below s (HeldEnd Z EL) kc ks Q T (mkF m pc Ls []) := by
  obtain ⟨fs, hr, hrun, hended, h1, h2, h3, hsame⟩ := X.leaveW hS hk (v := none) (fun _ => rfl) hlk
  exact ⟨_, _, X.returnOut hx hret hd hr, hrun, hended, _, _, rfl, hQ, C.trans (CHv.at (T := T) X hZ hEL C.1), h1, h2, h3, hsame.mono hc hs⟩
end New
/-- a boolean as the machine holds it -/
def bit (P : Prop) [Decidable P] : Int32 := if P then 1 else 0
theorem bit_t {P : Prop} [Decidable P] (h : P) : bit P = 1 := if_pos h
theorem bit_f {P : Prop} [Decidable P] (h : ¬ P) : bit P = 0 := if_neg h
theorem nar_bit (P : Prop) [Decidable P] : nar .boolean (bit P) = bit P := by unfold bit; split <;> rfl
theorem bit_ne {P : Prop} [Decidable P] : ¬ bit P = 0 ↔ P := by unfold bit; split <;> simp_all
theorem bit_eq {P R : Prop} [Decidable P] [Decidable R] : bit P = bit R ↔ (P ↔ R) := by unfold bit; split <;> split <;> simp_all
theorem own_selPriv {Z s : State} {a0 args : Array Value} {y : MethodName} {n : Nat} (hZ : Z.Warmed39 s.vm) (wi : (Cond.instantiable y.cls n).before a0 Z = true) (wp : (Cond.privateMethod y).before a0 Z = true) (wm : (Cond.instanceMethod y).before a0 Z = true) (hy : y.cls ≠ "java/lang/invoke/MethodHandle" ∧ y.cls ≠ "java/lang/invoke/VarHandle") : (Cond.selects y.cls y y).before args s = true := by
  obtain ⟨c, k, h1, h2, h3, h4, -⟩ := Cond.instantiable_spec (mv hZ wi : (Cond.instantiable y.cls n).before args s = true)
  exact selects_self_of_private h1 h2 (Bool.or_eq_false_iff.mp h4).1 (Cond.privateMethod_at (mvP hZ wp (args := args))) (mv hZ wm) hy
theorem own_fldI {s : State} {args : Array Value} {t : Term} {a : Addr} {C n d : String} {k : Int32} (ev : t.eval args s none [] s = some (.ref a)) (h : (Jvm.Cond.eq (Term.field t C n d) (Term.int k)).value args s none s [] = some true) : Fld s s.heap a C n d (.int k) := by
  obtain ⟨x, y, h1, h2, h3, h4⟩ := cmp_v (Or.inl h)
  obtain rfl : Value.int k = y := Option.some.inj h2
  obtain ⟨z, rfl⟩ := h4
  have q : z = k := by simpa [Cond.value, h1, h2] using h
  subst q
  exact Fld.start ((fld_at ev).symm.trans h1)
end Jvm.RoadKit
/- laws to paste: Road.backV, Road.eqW, Road.codOf (cut by pick.py; bodies as the Statement names them) -/
namespace Jvm.Pilot.@@N@@
namespace StrChars
open Jvm Sem ClassFile Op Lib Jvm.Stand Jvm.Free.XT Jvm.Free.ALB Jvm.Free.JM Jvm.Free
open Jvm.Lib.Cold (StaticIs)
/-- a char array whose places are chars -/
def Ch (a : Addr) (A : Cell) (U : State) : Prop := Arr .char a A U ∧ Typed .char A
theorem Ch.mv {a : Addr} {A : Cell} {U U' : State} (h : Ch a A U) (hal : U.vm.Alike U'.vm) (hh : U'.heap = U.heap) : Ch a A U' := ⟨h.1.mv hal hh, h.2⟩
theorem Ch.keep {a : Addr} {A : Cell} {U U' : State} (h : Ch a A U) (hal : U.vm.Alike U'.vm) (hk : U'.heap[a]? = some A) : Ch a A U' := ⟨h.1.keep hal hk, h.2⟩
/-- what place i of a char[]'s cell holds -/
def cv (A : Cell) (i : Nat) : Int32 := match A.slots[i]? with | some (.int x) => x | _ => 0
theorem Ch.get {a : Addr} {A : Cell} {U : State} (h : Ch a A U) {i : Nat} (hi : i < A.slots.size) : A.slots[i]? = some (.int (cv A i)) := by
  have e := Array.getElem?_eq_getElem hi
  have f := h.2 i _ e
  unfold cv; rw [e]
  generalize A.slots[i] = v at f
  cases v <;> simp [fits] at f ⊢
/-- the byte that i2b leaves of a char -/
def lo8 (x : Int32) : Int32 := x.toInt8.toInt32
theorem fits_lo8 (y : Int32) : fits .byte (.int (lo8 y)) = true := by
  have h1 := y.toInt8.le_toInt
  have h2 := y.toInt8.toInt_lt
  simp only [lo8, fits, Bool.and_eq_true, decide_eq_true_eq, Int32.le_iff_toInt_le, Int8.toInt_toInt32, show (-128 : Int32).toInt = -128 from by decide, show (127 : Int32).toInt = 127 from by decide]
  omega
/-- A' is A but that each place j of lo .. hi - 1 holds f j -/
def Laid (A A' : Cell) (lo hi : Nat) (f : Nat → Value) : Prop := A'.cls = A.cls ∧ A'.vm = A.vm ∧ A'.slots.size = A.slots.size ∧ ∀ i, A'.slots[i]? = if lo ≤ i ∧ i < hi then some (f i) else A.slots[i]?
theorem Laid.zero (A : Cell) (lo : Nat) (f : Nat → Value) : Laid A A lo (lo + 0) f := ⟨rfl, rfl, rfl, fun i => by rw [if_neg (by omega)]⟩
theorem Laid.step {A Ak : Cell} {lo k : Nat} {f : Nat → Value} {v : Value} (h : Laid A Ak lo k f) (hlo : lo ≤ k) (hk : k < Ak.slots.size) (hv : v = f k) : Laid A (Ak.setSlot k v) lo (k + 1) f := by
  refine ⟨h.1, h.2.1, by simpa [Cell.setSlot] using h.2.2.1, fun i => ?_⟩
  by_cases e : k = i
  · subst e; rw [Cell.slots_setSlot_self v hk, if_pos (by omega), hv]
  · rw [Cell.slots_setSlot_ne v e, h.2.2.2 i]
    by_cases q : lo ≤ i ∧ i < k
    · rw [if_pos q, if_pos (by omega)]
    · rw [if_neg q, if_neg (by omega)]
def U16 : String := "java/lang/StringUTF16"
namespace Cmp5
def yN : MethodName := ⟨"java/lang/StringUTF16", "compress", "([CI[BII)I"⟩
abbrev yB : ByteArray := jdk_52_method_21_code
theorem d0 : decode yB 0 = .ok (.iconst 0, 1) := by decide +kernel
theorem d1 : decode yB 1 = .ok (.istore 5, 2) := by decide +kernel
theorem d3 : decode yB 3 = .ok (.iload 5, 2) := by decide +kernel
theorem d5 : decode yB 5 = .ok (.iload 4, 2) := by decide +kernel
theorem d7 : decode yB 7 = .ok (.if_icmp (.ge) 37, 3) := by decide +kernel
theorem d10 : decode yB 10 = .ok (.aload_n 0, 1) := by decide +kernel
theorem d11 : decode yB 11 = .ok (.iload_n 1, 1) := by decide +kernel
theorem d12 : decode yB 12 = .ok (.caload, 1) := by decide +kernel
theorem d13 : decode yB 13 = .ok (.istore 6, 2) := by decide +kernel
theorem d15 : decode yB 15 = .ok (.iload 6, 2) := by decide +kernel
theorem d17 : decode yB 17 = .ok (.sipush 255, 3) := by decide +kernel
theorem d20 : decode yB 20 = .ok (.if_icmp (.le) 6, 3) := by decide +kernel
theorem d26 : decode yB 26 = .ok (.aload_n 2, 1) := by decide +kernel
theorem d27 : decode yB 27 = .ok (.iload_n 3, 1) := by decide +kernel
theorem d28 : decode yB 28 = .ok (.iload 6, 2) := by decide +kernel
theorem d30 : decode yB 30 = .ok (.i2b, 1) := by decide +kernel
theorem d31 : decode yB 31 = .ok (.bastore, 1) := by decide +kernel
theorem d32 : decode yB 32 = .ok (.iinc 1 1, 3) := by decide +kernel
theorem d35 : decode yB 35 = .ok (.iinc 3 1, 3) := by decide +kernel
theorem d38 : decode yB 38 = .ok (.iinc 5 1, 3) := by decide +kernel
theorem d41 : decode yB 41 = .ok (.goto (-38), 3) := by decide +kernel
theorem d44 : decode yB 44 = .ok (.iload 4, 2) := by decide +kernel
theorem d46 : decode yB 46 = .ok (.ireturn, 1) := by decide +kernel
def site : List Cond := []
def tab : Cond := tabOf yN yB 7 (some .int) site
def P (b : Addr) (A : Cell) (d : Addr) (B : Cell) (o q len : Nat) (args : Array Value) (s : State) : Prop := args = #[.ref b, .int (Int32.ofNat o), .ref d, .int (Int32.ofNat q), .int (Int32.ofNat len)] ∧ Ch b A s ∧ Arr .byte d B s ∧ b ≠ d ∧ o + len ≤ A.slots.size ∧ q + len ≤ B.slots.size ∧ ∀ i, i < len → ¬ 255 < cv A (o + i)
def E (b : Addr) (A : Cell) (d : Addr) (B : Cell) (o q len : Nat) (r : Option Value) (s u : State) : Prop := r = some (.int (Int32.ofNat len)) ∧ ∃ B', Put d B' s u ∧ Laid B B' q (q + len) (fun j => Value.int (lo8 (cv A (o + (j - q)))))
/-- no char of the range above 255: len; the places written hold each char's low byte -/
theorem law (l : Launch) (b : Addr) (A : Cell) (d : Addr) (B : Cell) (o q len : Nat) : Law l yN 5 5 0 0 yB 7 (some .int) site (P b A d B o q len) (E b A d B o q len) (copyLocs d q len) 0 0 := by
  refine Law.of_walk (plainFor_of_name (by decide +kernel)) (by decide +kernel) (by decide +kernel) (by decide) (fun _ _ h => by rw [h.1]; rfl) (fun _ U U' hal hh h => ⟨h.1, h.2.1.mv hal hh, h.2.2.1.mv hal hh, h.2.2.2⟩) (fun r U U' V V' h1 hal h2 h => ⟨h.1, h.2.elim fun B' q => ⟨B', q.1.mv h1 h2, q.2⟩⟩) ?_
  intro p e s m args below meth c s₁ X0 hexec hbytes hml hret hlk hnm hown hh0 W hP
  obtain ⟨rfl, hA, hB, hne, l1, l2, hp⟩ := hP
  have c1 : Steps p.tables e below (s₁.setTop (entryFrame m #[.ref b, .int (Int32.ofNat o), .ref d, .int (Int32.ofNat q), .int (Int32.ofNat len)] 7)) (s₁.setTop (mkF m 0 #[.val (.ref b), .val (.int (Int32.ofNat o)), .val (.ref d), .val (.int (Int32.ofNat q)), .val (.int (Int32.ofNat len)), .unset, .unset] [])) := entry rfl
  have hA0 := hA.1.mv X0.warmed.alike hh0
  have hB0 := hB.mv X0.warmed.alike hh0
  have a31 := hA.1.2.2.2
  have c2 : Steps p.tables e below (s₁.setTop (entryFrame m #[.ref b, .int (Int32.ofNat o), .ref d, .int (Int32.ofNat q), .int (Int32.ofNat len)] 7)) (s₁.setTop (mkF m 3 #[.val (.ref b), .val (.int (Int32.ofNat o)), .val (.ref d), .val (.int (Int32.ofNat q)), .val (.int (Int32.ofNat len)), .val (.int 0), .unset] [])) := c1.trans (by
    refine iconstV X0.here hexec rfl 0 (hb hbytes d0) (by decide) ?_
    refine XS.istore X0.here hexec rfl (hb hbytes d1) rfl rfl ?_
    exact Steps.refl _)
  have loop : ∀ (r i : Nat), i + r = len → ∀ (z : Slot), (z = .unset ∨ ∃ w, z = .val w ∧ w.category = 1) → ∀ (Tl : State) (Bk : Cell), Stand p l e { frames := 0, locals := 0, cells := 0, slots := 0 } s m #[.ref b, .int (Int32.ofNat o), .ref d, .int (Int32.ofNat q), .int (Int32.ofNat len)] below meth c Tl ([] ++ copyLocs d q i) 0 0 → Put d Bk s₁ Tl → Laid B Bk q (q + i) (fun j => Value.int (lo8 (cv A (o + (j - q))))) →
      Steps p.tables e below (s₁.setTop (entryFrame m #[.ref b, .int (Int32.ofNat o), .ref d, .int (Int32.ofNat q), .int (Int32.ofNat len)] 7)) (Tl.setTop (mkF m 3 #[.val (.ref b), .val (.int (Int32.ofNat (o + i))), .val (.ref d), .val (.int (Int32.ofNat (q + i))), .val (.int (Int32.ofNat len)), .val (.int (Int32.ofNat i)), z] [])) → ∃ (T' : State) (B' : Cell) (z' : Slot), Stand p l e { frames := 0, locals := 0, cells := 0, slots := 0 } s m #[.ref b, .int (Int32.ofNat o), .ref d, .int (Int32.ofNat q), .int (Int32.ofNat len)] below meth c T' ([] ++ copyLocs d q len) 0 0 ∧ Put d B' s₁ T' ∧ Laid B B' q (q + len) (fun j => Value.int (lo8 (cv A (o + (j - q))))) ∧
      Steps p.tables e below (s₁.setTop (entryFrame m #[.ref b, .int (Int32.ofNat o), .ref d, .int (Int32.ofNat q), .int (Int32.ofNat len)] 7)) (T'.setTop (mkF m 3 #[.val (.ref b), .val (.int (Int32.ofNat (o + len))), .val (.ref d), .val (.int (Int32.ofNat (q + len))), .val (.int (Int32.ofNat len)), .val (.int (Int32.ofNat len)), z'] [])) := by
    intro r
    induction r with
    | zero =>
      intro i hi z hz Tl Bk Xl pl fl cl
      have hil : i = len := by omega
      rw [hil] at Xl fl cl
      exact ⟨Tl, Bk, z, Xl, pl, fl, cl⟩
    | succ r ih =>
      intro i hi z hz Tl Bk Xl pl fl cl
      have all := X0.warmed.alike.symm.trans Xl.warmed.alike
      have hAl := hA0.keep all (pl.other hne hA0.1)
      have hBk := hB0.like all pl.1 fl.1 fl.2.1 fl.2.2.1
      have hlt : q + i < Bk.slots.size := by rw [fl.2.2.1]; omega
      have c3 : Steps p.tables e below (s₁.setTop (entryFrame m #[.ref b, .int (Int32.ofNat o), .ref d, .int (Int32.ofNat q), .int (Int32.ofNat len)] 7)) (Tl.setTop (mkF m 12 #[.val (.ref b), .val (.int (Int32.ofNat (o + i))), .val (.ref d), .val (.int (Int32.ofNat (q + i))), .val (.int (Int32.ofNat len)), .val (.int (Int32.ofNat i)), z] [.int (Int32.ofNat (o + i)), .ref b])) := cl.trans (by
        refine XS.iload Xl.here hexec rfl (hb hbytes d3) rfl ?_
        refine XS.iload Xl.here hexec rfl (hb hbytes d5) rfl ?_
        refine XS.icmpNo Xl.here hexec rfl (hb hbytes d7) rfl (ii_ge_f (lt32 (by omega) (by omega))) ?_
        refine XS.aloadN Xl.here hexec rfl (hb hbytes d10) rfl rfl ?_
        refine XS.iloadN Xl.here hexec rfl (hb hbytes d11) rfl ?_
        exact Steps.refl _)
      have c4 : Steps p.tables e below (s₁.setTop (entryFrame m #[.ref b, .int (Int32.ofNat o), .ref d, .int (Int32.ofNat q), .int (Int32.ofNat len)] 7)) (Tl.setTop (mkF m 13 #[.val (.ref b), .val (.int (Int32.ofNat (o + i))), .val (.ref d), .val (.int (Int32.ofNat (q + i))), .val (.int (Int32.ofNat len)), .val (.int (Int32.ofNat i)), z] [.int (cv A (o + i))])) := c3.trans (by
        refine Xl.aget hexec hAl rfl (hA.get (i := o + i) (by omega)) rfl rfl (hb hbytes d12) ?_
        exact Steps.refl _)
      have c5 : Steps p.tables e below (s₁.setTop (entryFrame m #[.ref b, .int (Int32.ofNat o), .ref d, .int (Int32.ofNat q), .int (Int32.ofNat len)] 7)) (Tl.setTop (mkF m 15 #[.val (.ref b), .val (.int (Int32.ofNat (o + i))), .val (.ref d), .val (.int (Int32.ofNat (q + i))), .val (.int (Int32.ofNat len)), .val (.int (Int32.ofNat i)), .val (.int (cv A (o + i)))] [])) := c4.trans (by
        refine XS.istoreS Xl.here hexec rfl (hb hbytes d13) rfl rfl hz ?_
        exact Steps.refl _)
      have c6 : Steps p.tables e below (s₁.setTop (entryFrame m #[.ref b, .int (Int32.ofNat o), .ref d, .int (Int32.ofNat q), .int (Int32.ofNat len)] 7)) (Tl.setTop (mkF m 31 #[.val (.ref b), .val (.int (Int32.ofNat (o + i))), .val (.ref d), .val (.int (Int32.ofNat (q + i))), .val (.int (Int32.ofNat len)), .val (.int (Int32.ofNat i)), .val (.int (cv A (o + i)))] [.int (lo8 (cv A (o + i))), .int (Int32.ofNat (q + i)), .ref d])) := c5.trans (by
        refine XS.iload Xl.here hexec rfl (hb hbytes d15) rfl ?_
        refine sipushV Xl.here hexec rfl 255 (hb hbytes d17) (by decide) ?_
        refine XS.icmpYes Xl.here hexec rfl (pc0 := 20) rfl (hb hbytes d20) rfl (ii_le_t (hp i (by omega))) (by decide) rfl ?_
        refine XS.aloadN Xl.here hexec rfl (hb hbytes d26) rfl rfl ?_
        refine XS.iloadN Xl.here hexec rfl (hb hbytes d27) rfl ?_
        refine XS.iload Xl.here hexec rfl (hb hbytes d28) rfl ?_
        refine i2b Xl.here hexec rfl (hb hbytes d30) rfl ?_
        exact Steps.refl _)
      obtain ⟨T7, X7, p7, st7⟩ := Xl.aput hexec hBk rfl hlt rfl (fits_lo8 (cv A (o + i))) (g := (mkF m 31 #[.val (.ref b), .val (.int (Int32.ofNat (o + i))), .val (.ref d), .val (.int (Int32.ofNat (q + i))), .val (.int (Int32.ofNat len)), .val (.int (Int32.ofNat i)), .val (.int (cv A (o + i)))] [.int (lo8 (cv A (o + i))), .int (Int32.ofNat (q + i)), .ref d])) rfl (rest := []) rfl (hb hbytes d31)
      have c8 : Steps p.tables e below (s₁.setTop (entryFrame m #[.ref b, .int (Int32.ofNat o), .ref d, .int (Int32.ofNat q), .int (Int32.ofNat len)] 7)) (T7.setTop (mkF m 32 #[.val (.ref b), .val (.int (Int32.ofNat (o + i))), .val (.ref d), .val (.int (Int32.ofNat (q + i))), .val (.int (Int32.ofNat len)), .val (.int (Int32.ofNat i)), .val (.int (cv A (o + i)))] [])) := c6.trans (st7 _ (Steps.refl _))
      have c9 : Steps p.tables e below (s₁.setTop (entryFrame m #[.ref b, .int (Int32.ofNat o), .ref d, .int (Int32.ofNat q), .int (Int32.ofNat len)] 7)) (T7.setTop (mkF m 3 #[.val (.ref b), .val (.int (Int32.ofNat (o + i) + 1)), .val (.ref d), .val (.int (Int32.ofNat (q + i) + 1)), .val (.int (Int32.ofNat len)), .val (.int (Int32.ofNat i + 1)), .val (.int (cv A (o + i)))] [])) := c8.trans (by
        refine iincV X7.here hexec rfl 1 (hb hbytes d32) (by decide) rfl rfl ?_
        refine iincV X7.here hexec rfl 1 (hb hbytes d35) (by decide) rfl rfl ?_
        refine iincV X7.here hexec rfl 1 (hb hbytes d38) (by decide) rfl rfl ?_
        refine XS.goto X7.here hexec rfl (pc0 := 41) rfl (hb hbytes d41) (by decide) rfl ?_
        exact Steps.refl _)
      have c10 : Steps p.tables e below (s₁.setTop (entryFrame m #[.ref b, .int (Int32.ofNat o), .ref d, .int (Int32.ofNat q), .int (Int32.ofNat len)] 7)) (T7.setTop (mkF m 3 #[.val (.ref b), .val (.int (Int32.ofNat (o + (i + 1)))), .val (.ref d), .val (.int (Int32.ofNat (q + (i + 1)))), .val (.int (Int32.ofNat len)), .val (.int (Int32.ofNat (i + 1))), .val (.int (cv A (o + i)))] [])) := by
        have := c9
        rw [succ32, succ32, succ32] at this
        exact this
      exact ih (i + 1) (by omega) _ (Or.inr ⟨_, rfl, rfl⟩) T7 _ (by rw [copyLocs_step, ← List.append_assoc]; exact X7) (pl.trans p7) (fl.step (by omega) hlt (by simp)) c10
  obtain ⟨T9, B9, z9, X9, p9, f9, g9⟩ := loop len 0 (by omega) .unset (Or.inl rfl) s₁ B (by simpa [copyLocs] using X0) ⟨hB0.1, fun _ _ => rfl, rfl⟩ (Laid.zero _ _ _) c2
  have c11 : Steps p.tables e below (s₁.setTop (entryFrame m #[.ref b, .int (Int32.ofNat o), .ref d, .int (Int32.ofNat q), .int (Int32.ofNat len)] 7)) (T9.setTop (mkF m 46 #[.val (.ref b), .val (.int (Int32.ofNat (o + len))), .val (.ref d), .val (.int (Int32.ofNat (q + len))), .val (.int (Int32.ofNat len)), .val (.int (Int32.ofNat len)), z9] [.int (Int32.ofNat len)])) := g9.trans (by
    refine XS.iload X9.here hexec rfl (hb hbytes d3) rfl ?_
    refine XS.iload X9.here hexec rfl (hb hbytes d5) rfl ?_
    refine XS.icmpYes X9.here hexec rfl (pc0 := 7) rfl (hb hbytes d7) rfl (ii_ge_t (nlt32 (by omega) (Nat.le_refl _))) (by decide) rfl ?_
    refine XS.iload X9.here hexec rfl (hb hbytes d44) rfl ?_
    exact Steps.refl _)
  exact ⟨T9, some (.int (Int32.ofNat len)), _, _, _, X9, by simp, rfl, rfl, (fun h => by cases h), ⟨rfl, B9, p9.from hh0, f9⟩, fun fs hl => c11.trans (X9.ireturnOut hexec hret rfl (Or.inl rfl) (hb hbytes d46) hl)⟩
end Cmp5
namespace Cmp3
def yN : MethodName := ⟨"java/lang/StringUTF16", "compress", "([CII)[B"⟩
abbrev yB : ByteArray := jdk_52_method_16_code
theorem d0 : decode yB 0 = .ok (.iload_n 2, 1) := by decide +kernel
theorem d1 : decode yB 1 = .ok (.newarray .byte, 2) := by decide +kernel
theorem d3 : decode yB 3 = .ok (.astore_n 3, 1) := by decide +kernel
theorem d4 : decode yB 4 = .ok (.aload_n 0, 1) := by decide +kernel
theorem d5 : decode yB 5 = .ok (.iload_n 1, 1) := by decide +kernel
theorem d6 : decode yB 6 = .ok (.aload_n 3, 1) := by decide +kernel
theorem d7 : decode yB 7 = .ok (.iconst 0, 1) := by decide +kernel
theorem d8 : decode yB 8 = .ok (.iload_n 2, 1) := by decide +kernel
theorem d9 : decode yB 9 = .ok (.invokestatic 115, 3) := by decide +kernel
theorem d12 : decode yB 12 = .ok (.istore 4, 2) := by decide +kernel
theorem d14 : decode yB 14 = .ok (.iload 4, 2) := by decide +kernel
theorem d16 : decode yB 16 = .ok (.iload_n 2, 1) := by decide +kernel
theorem d17 : decode yB 17 = .ok (.if_icmp (.eq) 40, 3) := by decide +kernel
theorem d57 : decode yB 57 = .ok (.aload_n 3, 1) := by decide +kernel
theorem d58 : decode yB 58 = .ok (.areturn, 1) := by decide +kernel
def site : List Cond := [.arrayClass .byte, Cmp5.tab] ++ staticW U16 115 Cmp5.yN
def tab : Cond := tabOf yN yB 6 (some (.array .byte)) site
def P (b : Addr) (A : Cell) (o len : Nat) (args : Array Value) (s : State) : Prop := args = #[.ref b, .int (Int32.ofNat o), .int (Int32.ofNat len)] ∧ Ch b A s ∧ o + len ≤ A.slots.size ∧ len ≤ 536870912 ∧ ∀ i, i < len → ¬ 255 < cv A (o + i)
def E (b : Addr) (A : Cell) (o len : Nat) (r : Option Value) (s u : State) : Prop := NewArr .byte "[B" len (fun j => .int (lo8 (cv A (o + j)))) r s u ∧ u.heap.size = s.heap.size + 1
/-- no char of the range above 255: a new byte[] of their low bytes -/
theorem law (l : Launch) (b : Addr) (A : Cell) (o len : Nat) : Law l yN 3 3 1 18 yB 6 (some (.array .byte)) site (P b A o len) (E b A o len) [] 1 len := by
  refine Law.of_walk (plainFor_of_name (by decide +kernel)) (by decide +kernel) (by decide +kernel) (by decide) (fun _ _ h => by rw [h.1]; rfl) (fun _ U U' hal hh h => ⟨h.1, h.2.1.mv hal hh, h.2.2⟩) (fun r U U' V V' h1 hal h2 h => ⟨NewArr.mv r U U' V V' h1 hal h2 h.1, by rw [h1, h2]; exact h.2⟩) ?_
  intro p e s m args below meth c s₁ X0 hexec hbytes hml hret hlk hnm hown hh0 W hP
  obtain ⟨rfl, hA, l1, l2, hp⟩ := hP
  have a31 := hA.1.2.2.2
  have c1 : Steps p.tables e below (s₁.setTop (entryFrame m #[.ref b, .int (Int32.ofNat o), .int (Int32.ofNat len)] 6)) (s₁.setTop (mkF m 0 #[.val (.ref b), .val (.int (Int32.ofNat o)), .val (.int (Int32.ofNat len)), .unset, .unset, .unset] [])) := entry rfl
  have c2 : Steps p.tables e below (s₁.setTop (entryFrame m #[.ref b, .int (Int32.ofNat o), .int (Int32.ofNat len)] 6)) (s₁.setTop (mkF m 1 #[.val (.ref b), .val (.int (Int32.ofNat o)), .val (.int (Int32.ofNat len)), .unset, .unset, .unset] [.int (Int32.ofNat len)])) := c1.trans (by
    refine XS.iloadN X0.here hexec rfl (hb hbytes d0) rfl ?_
    exact Steps.refl _)
  obtain ⟨T3, B3, X3, ba3, bs3, bv3, bh3, bf3, st3⟩ := X0.anew hexec (atype := .byte) (wk W (.arrayClass .byte)) rfl (by show len * 1 ≤ _; omega) (by omega) (g := (mkF m 1 #[.val (.ref b), .val (.int (Int32.ofNat o)), .val (.int (Int32.ofNat len)), .unset, .unset, .unset] [.int (Int32.ofNat len)])) rfl (hb hbytes d1) (rest := []) rfl (Nat.le_refl _) (by show 0 + len ≤ len; omega)
  rw [hh0] at ba3 st3
  have kp3 : XT.Kept s T3 := (XT.Kept.of_eq hh0).push bh3
  have hA3 := hA.keep X3.warmed.alike (kp3 _ _ hA.1.1)
  have hne : b ≠ s.heap.size := hA.1.ne
  have c4 : Steps p.tables e below (s₁.setTop (entryFrame m #[.ref b, .int (Int32.ofNat o), .int (Int32.ofNat len)] 6)) (T3.setTop (mkF m 3 #[.val (.ref b), .val (.int (Int32.ofNat o)), .val (.int (Int32.ofNat len)), .unset, .unset, .unset] [.ref s.heap.size])) := c2.trans (st3 _ (Steps.refl _))
  have c5 : Steps p.tables e below (s₁.setTop (entryFrame m #[.ref b, .int (Int32.ofNat o), .int (Int32.ofNat len)] 6)) (T3.setTop (mkF m 9 #[.val (.ref b), .val (.int (Int32.ofNat o)), .val (.int (Int32.ofNat len)), .val (.ref s.heap.size), .unset, .unset] [.int (Int32.ofNat len), .int 0, .ref s.heap.size, .int (Int32.ofNat o), .ref b])) := c4.trans (by
    refine XS.astoreN X3.here hexec rfl (hb hbytes d3) rfl rfl rfl ?_
    refine XS.aloadN X3.here hexec rfl (hb hbytes d4) rfl rfl ?_
    refine XS.iloadN X3.here hexec rfl (hb hbytes d5) rfl ?_
    refine XS.aloadN X3.here hexec rfl (hb hbytes d6) rfl rfl ?_
    refine iconstV X3.here hexec rfl 0 (hb hbytes d7) (by decide) ?_
    refine XS.iloadN X3.here hexec rfl (hb hbytes d8) rfl ?_
    exact Steps.refl _)
  obtain ⟨v6, T6, X6, E6, g6⟩ := X3.callS hexec (Cmp5.law l b A s.heap.size B3 o 0 len) hown (wks W (staticW U16 115 Cmp5.yN)) (wk W Cmp5.tab) (W := 0) (Nat.le_of_ble_eq_true rfl) (Nat.le_of_ble_eq_true rfl) (Nat.le_refl _) (by show 0 + len + 0 ≤ len; omega) (g := (mkF m 9 #[.val (.ref b), .val (.int (Int32.ofNat o)), .val (.int (Int32.ofNat len)), .val (.ref s.heap.size), .unset, .unset] [.int (Int32.ofNat len), .int (Int32.ofNat 0), .ref s.heap.size, .int (Int32.ofNat o), .ref b])) rfl (by rw [hml]; rfl) c5 (argsL := [.ref b, .int (Int32.ofNat o), .ref s.heap.size, .int (Int32.ofNat 0), .int (Int32.ofNat len)]) (rest := []) rfl rfl (by show 2 * 0 + 0 ≤ _; decide) (hb hbytes d9) (⟨rfl, hA3, ba3, hne, l1, by rw [bs3]; simp, hp⟩)
  obtain ⟨rfl, B6, p6, f6⟩ := E6
  have c7 : Steps p.tables e below (s₁.setTop (entryFrame m #[.ref b, .int (Int32.ofNat o), .int (Int32.ofNat len)] 6)) (T6.setTop (mkF m 12 #[.val (.ref b), .val (.int (Int32.ofNat o)), .val (.int (Int32.ofNat len)), .val (.ref s.heap.size), .unset, .unset] [.int (Int32.ofNat len)])) := g6
  have c8 : Steps p.tables e below (s₁.setTop (entryFrame m #[.ref b, .int (Int32.ofNat o), .int (Int32.ofNat len)] 6)) (T6.setTop (mkF m 58 #[.val (.ref b), .val (.int (Int32.ofNat o)), .val (.int (Int32.ofNat len)), .val (.ref s.heap.size), .val (.int (Int32.ofNat len)), .unset] [.ref s.heap.size])) := c7.trans (by
    refine XS.istore X6.here hexec rfl (hb hbytes d12) rfl rfl ?_
    refine XS.iload X6.here hexec rfl (hb hbytes d14) rfl ?_
    refine XS.iloadN X6.here hexec rfl (hb hbytes d16) rfl ?_
    refine XS.icmpYes X6.here hexec rfl (pc0 := 17) rfl (hb hbytes d17) rfl (ii_eq_t rfl) (by decide) rfl ?_
    refine XS.aloadN X6.here hexec rfl (hb hbytes d57) rfl rfl ?_
    exact Steps.refl _)
  have X8 := X6.wide (L' := []) (cells' := 1) (slots' := len) (fun x hx hlt => by
    simp only [List.nil_append, copyLocs, List.mem_map, List.mem_range] at hx
    obtain ⟨i, -, rfl⟩ := hx
    exact absurd hlt (Nat.lt_irrefl _)) (Nat.le_refl _) (by omega)
  exact ⟨T6, some (.ref s.heap.size), _, _, _, X8, rfl, rfl, rfl, (fun h => by cases h), ⟨⟨rfl, B6, ba3.like (X3.warmed.alike.symm.trans X6.warmed.alike) p6.1 f6.1 f6.2.1 f6.2.2.1, f6.2.1.trans bv3, by rw [X6.warmed.alike.findClass, f6.1]; exact bf3, by rw [f6.2.2.1, bs3]; simp, fun j hj => by rw [f6.2.2.2 j, if_pos (by omega)]; rfl, kp3.put p6 (Nat.le_refl _)⟩, by rw [p6.2.2, bh3, hh0]; simp⟩, fun fs hl => c8.trans (X8.areturnOut hexec rfl hret rfl (hb hbytes d58) hl)⟩
end Cmp3
namespace CodL
def yN : MethodName := ⟨"java/lang/StringUTF16", "coderFromArrayLen", "([BI)B"⟩
abbrev yB : ByteArray := jdk_52_method_15_code
theorem d0 : decode yB 0 = .ok (.iload_n 1, 1) := by decide +kernel
theorem d1 : decode yB 1 = .ok (.aload_n 0, 1) := by decide +kernel
theorem d2 : decode yB 2 = .ok (.arraylength, 1) := by decide +kernel
theorem d3 : decode yB 3 = .ok (.isub, 1) := by decide +kernel
theorem d4 : decode yB 4 = .ok (.bipush 31, 2) := by decide +kernel
theorem d6 : decode yB 6 = .ok (.iushr, 1) := by decide +kernel
theorem d7 : decode yB 7 = .ok (.i2b, 1) := by decide +kernel
theorem d8 : decode yB 8 = .ok (.ireturn, 1) := by decide +kernel
def site : List Cond := []
def tab : Cond := tabOf yN yB 2 (some .byte) site
def P (d : Addr) (B : Cell) (args : Array Value) (s : State) : Prop := args = #[.ref d, .int (Int32.ofNat B.slots.size)] ∧ Arr .byte d B s
def E (r : Option Value) (s u : State) : Prop := XT.PureE (some (.int 0)) r s u
/-- an array as long as the number of chars: LATIN1 -/
theorem law (l : Launch) (d : Addr) (B : Cell) : Law l yN 2 2 0 0 yB 2 (some .byte) site (P d B) E [] 0 0 := by
  refine Law.of_walk (plainFor_of_name (by decide +kernel)) (by decide +kernel) (by decide +kernel) (by decide) (fun _ _ h => by rw [h.1]; rfl) (fun _ U U' hal hh h => ⟨h.1, h.2.mv hal hh⟩) (fun r U U' V V' h1 hal h2 h => XT.PureE.mv r U U' V V' h1 hal h2 h) ?_
  intro p e s m args below meth c s₁ X0 hexec hbytes hml hret hlk hnm hown hh0 W hP
  obtain ⟨rfl, hB⟩ := hP
  have hB0 := hB.mv X0.warmed.alike hh0
  have c1 : Steps p.tables e below (s₁.setTop (entryFrame m #[.ref d, .int (Int32.ofNat B.slots.size)] 2)) (s₁.setTop (mkF m 0 #[.val (.ref d), .val (.int (Int32.ofNat B.slots.size))] [])) := entry rfl
  have c2 : Steps p.tables e below (s₁.setTop (entryFrame m #[.ref d, .int (Int32.ofNat B.slots.size)] 2)) (s₁.setTop (mkF m 2 #[.val (.ref d), .val (.int (Int32.ofNat B.slots.size))] [.ref d, .int (Int32.ofNat B.slots.size)])) := c1.trans (by
    refine XS.iloadN X0.here hexec rfl (hb hbytes d0) rfl ?_
    refine XS.aloadN X0.here hexec rfl (hb hbytes d1) rfl rfl ?_
    exact Steps.refl _)
  have c3 : Steps p.tables e below (s₁.setTop (entryFrame m #[.ref d, .int (Int32.ofNat B.slots.size)] 2)) (s₁.setTop (mkF m 8 #[.val (.ref d), .val (.int (Int32.ofNat B.slots.size))] [.int (lo8 (ushr (Int32.ofNat B.slots.size - Int32.ofNat B.slots.size) 31))])) := c2.trans (by
    refine X0.alen hexec hB0 rfl rfl (hb hbytes d2) ?_
    refine XS.isub X0.here hexec rfl (hb hbytes d3) rfl ?_
    refine bipushV X0.here hexec rfl 31 (hb hbytes d4) (by decide) ?_
    refine iushr X0.here hexec rfl (hb hbytes d6) rfl ?_
    refine i2b X0.here hexec rfl (hb hbytes d7) rfl ?_
    exact Steps.refl _)
  have e0 : lo8 (ushr (Int32.ofNat B.slots.size - Int32.ofNat B.slots.size) 31) = 0 := by rw [Int32.sub_self]; decide
  rw [e0] at c3
  exact ⟨s₁, some (.int 0), _, _, _, X0, rfl, rfl, rfl, (fun h => by cases h), ⟨rfl, hh0⟩, fun fs hl => c3.trans (X0.ireturnOut hexec hret rfl (Or.inr (Or.inr (Or.inl rfl))) (hb hbytes d8) hl)⟩
end CodL
/-- the String at a is Latin-1 over a new byte[] (the heap's one new cell): the low bytes of the len chars of A from o on; every cell but a is kept -/
def Got (a : Addr) (D : Cell) (fV fC : Field) (A : Cell) (o len : Nat) (r : Option Value) (s u : State) : Prop := r = none ∧ ∃ D' V : Cell, Blank "java/lang/String" a D' u ∧ Same D D' [fV.slot, fC.slot] ∧ D'.slots[fV.slot]? = some (.ref s.heap.size) ∧ D'.slots[fC.slot]? = some (.int 0) ∧ Arr .byte s.heap.size V u ∧ V.vm = .none ∧ u.vm.findClass "[B" = some V.cls ∧ V.slots.size = len ∧ (∀ j, j < len → V.slots[j]? = some (.int (lo8 (cv A (o + j))))) ∧ (∀ (y : Addr) (c : Cell), y ≠ a → s.heap[y]? = some c → u.heap[y]? = some c) ∧ u.heap.size = s.heap.size + 1
theorem Got.mv {a : Addr} {D A : Cell} {fV fC : Field} {o len : Nat} : ∀ r (U U' V V' : State), U'.heap = U.heap → V.vm.Alike V'.vm → V'.heap = V.heap → Got a D fV fC A o len r U V → Got a D fV fC A o len r U' V' :=
  fun r U U' V V' h1 hal h2 ⟨e0, D', X, a1, a2, a3, a4, a5, a6, a7, a8, a9, a10, a11⟩ => ⟨e0, D', X, a1.mv hal h2, a2, by rw [h1]; exact a3, a4, by rw [h1]; exact a5.mv hal h2, a6, by rw [hal.findClass]; exact a7, a8, a9, by rw [h1, h2]; exact a10, by rw [h1, h2]; exact a11⟩
namespace New4
def yN : MethodName := ⟨"java/lang/String", "<init>", "([CIILjava/lang/Void;)V"⟩
abbrev yB : ByteArray := jdk_42_method_149_code
theorem d0 : decode yB 0 = .ok (.aload_n 0, 1) := by decide +kernel
theorem d1 : decode yB 1 = .ok (.invokespecial 1, 3) := by decide +kernel
theorem d4 : decode yB 4 = .ok (.iload_n 3, 1) := by decide +kernel
theorem d5 : decode yB 5 = .ok (.ifCond (.ne) 22, 3) := by decide +kernel
theorem d27 : decode yB 27 = .ok (.getstatic 38, 3) := by decide +kernel
theorem d30 : decode yB 30 = .ok (.ifCond (.eq) 28, 3) := by decide +kernel
theorem d33 : decode yB 33 = .ok (.aload_n 1, 1) := by decide +kernel
theorem d34 : decode yB 34 = .ok (.iload_n 2, 1) := by decide +kernel
theorem d35 : decode yB 35 = .ok (.iload_n 3, 1) := by decide +kernel
theorem d36 : decode yB 36 = .ok (.invokestatic 177, 3) := by decide +kernel
theorem d39 : decode yB 39 = .ok (.astore 5, 2) := by decide +kernel
theorem d41 : decode yB 41 = .ok (.aload_n 0, 1) := by decide +kernel
theorem d42 : decode yB 42 = .ok (.aload 5, 2) := by decide +kernel
theorem d44 : decode yB 44 = .ok (.iload_n 3, 1) := by decide +kernel
theorem d45 : decode yB 45 = .ok (.invokestatic 47, 3) := by decide +kernel
theorem d48 : decode yB 48 = .ok (.putfield 15, 3) := by decide +kernel
theorem d51 : decode yB 51 = .ok (.aload_n 0, 1) := by decide +kernel
theorem d52 : decode yB 52 = .ok (.aload 5, 2) := by decide +kernel
theorem d54 : decode yB 54 = .ok (.putfield 9, 3) := by decide +kernel
theorem d57 : decode yB 57 = .ok (.return_, 1) := by decide +kernel
def site : List Cond := [.fieldLink "java/lang/String" 38 "java/lang/String" "COMPACT_STRINGS" "Z", Cmp3.tab, CodL.tab, .laysFinal "java/lang/String" "java/lang/String" "value" "[B", .fieldLink "java/lang/String" 9 "java/lang/String" "value" "[B", .laysFinal "java/lang/String" "java/lang/String" "coder" "B", .fieldLink "java/lang/String" 15 "java/lang/String" "coder" "B"] ++ objW "java/lang/String" 1 ++ staticW "java/lang/String" 177 Cmp3.yN ++ staticW "java/lang/String" 47 CodL.yN
def tab : Cond := tabOf yN yB 6 none site
def P (a : Addr) (D : Cell) (fV fC : Field) (b : Addr) (A : Cell) (z : Int32) (o len : Nat) (args : Array Value) (s : State) : Prop := args = #[.ref a, .ref b, .int (Int32.ofNat o), .int (Int32.ofNat len), .null] ∧ Blank "java/lang/String" a D s ∧ Found "java/lang/String" "value" "[B" fV s ∧ Found "java/lang/String" "coder" "B" fC s ∧ Ch b A s ∧ StaticIs s "java/lang/String" "COMPACT_STRINGS" "Z" (.int z) ∧ ¬ z = 0 ∧ 0 < len ∧ o + len ≤ A.slots.size ∧ len ≤ 536870912 ∧ ∀ i, i < len → ¬ 255 < cv A (o + i)
def E (a : Addr) (D : Cell) (fV fC : Field) (A : Cell) (o len : Nat) (r : Option Value) (s u : State) : Prop := Got a D fV fC A o len r s u
/-- len > 0, no char of the range above 255: a Latin-1 String of their low bytes -/
theorem law (l : Launch) (a : Addr) (D : Cell) (fV fC : Field) (b : Addr) (A : Cell) (z : Int32) (o len : Nat) : Law l yN 5 4 2 35 yB 6 none site (P a D fV fC b A z o len) (E a D fV fC A o len) [⟨a, fC.slot⟩, ⟨a, fV.slot⟩] 1 len := by
  refine Law.of_walk (plainFor_of_name (by decide +kernel)) (by decide +kernel) (by decide +kernel) (by decide) (fun _ _ h => by rw [h.1]; rfl) (fun _ U U' hal hh h => ⟨h.1, h.2.1.mv hal hh, h.2.2.1.al hal, h.2.2.2.1.al hal, h.2.2.2.2.1.mv hal hh, h.2.2.2.2.2.1.there hal hh, h.2.2.2.2.2.2⟩) (fun r U U' V V' h1 hal h2 h => Got.mv r U U' V V' h1 hal h2 h) ?_
  intro p e s m args below meth c s₁ X0 hexec hbytes hml hret hlk hnm hown hh0 W hP
  obtain ⟨rfl, hB, f1, f2, hA, s1, hz, l0, l1, l2, hp⟩ := hP
  have a31 := hA.1.2.2.2
  have c1 : Steps p.tables e below (s₁.setTop (entryFrame m #[.ref a, .ref b, .int (Int32.ofNat o), .int (Int32.ofNat len), .null] 6)) (s₁.setTop (mkF m 0 #[.val (.ref a), .val (.ref b), .val (.int (Int32.ofNat o)), .val (.int (Int32.ofNat len)), .val .null, .unset] [])) := entry rfl
  have c2 : Steps p.tables e below (s₁.setTop (entryFrame m #[.ref a, .ref b, .int (Int32.ofNat o), .int (Int32.ofNat len), .null] 6)) (s₁.setTop (mkF m 1 #[.val (.ref a), .val (.ref b), .val (.int (Int32.ofNat o)), .val (.int (Int32.ofNat len)), .val .null, .unset] [.ref a])) := c1.trans (by
    refine XS.aloadN X0.here hexec rfl (hb hbytes d0) rfl rfl ?_
    exact Steps.refl _)
  obtain ⟨T3, X3, q3, st3⟩ := X0.oinit hexec hown (wks W (objW "java/lang/String" 1)) (g := (mkF m 1 #[.val (.ref a), .val (.ref b), .val (.int (Int32.ofNat o)), .val (.int (Int32.ofNat len)), .val .null, .unset] [.ref a])) rfl (by rw [hml]; rfl) (rest := []) rfl (hb hbytes d1) (W := 0) (by show 2 * 0 + 0 ≤ _; decide) (Nat.le_of_ble_eq_true rfl) (Nat.le_of_ble_eq_true rfl)
  have hh3 := q3.trans hh0
  have c4 : Steps p.tables e below (s₁.setTop (entryFrame m #[.ref a, .ref b, .int (Int32.ofNat o), .int (Int32.ofNat len), .null] 6)) (T3.setTop (mkF m 27 #[.val (.ref a), .val (.ref b), .val (.int (Int32.ofNat o)), .val (.int (Int32.ofNat len)), .val .null, .unset] [])) := (c2.trans (st3 _ (Steps.refl _))).trans (by
    refine XS.iloadN X3.here hexec rfl (hb hbytes d4) rfl ?_
    refine XS.ifYes X3.here hexec rfl (pc0 := 5) rfl (hb hbytes d5) rfl (i0_ne_t (nz32 (by omega) l0)) (by decide) rfl ?_
    exact Steps.refl _)
  obtain ⟨T5, X5, q5, st5⟩ := X3.sget hexec hown (wk W (.fieldLink "java/lang/String" 38 "java/lang/String" "COMPACT_STRINGS" "Z")) s1 (fun _ _ h => by rw [hh3]; exact h) (g := (mkF m 27 #[.val (.ref a), .val (.ref b), .val (.int (Int32.ofNat o)), .val (.int (Int32.ofNat len)), .val .null, .unset] [])) rfl (hb hbytes d27)
  have hh5 := q5.trans hh3
  have c6 : Steps p.tables e below (s₁.setTop (entryFrame m #[.ref a, .ref b, .int (Int32.ofNat o), .int (Int32.ofNat len), .null] 6)) (T5.setTop (mkF m 30 #[.val (.ref a), .val (.ref b), .val (.int (Int32.ofNat o)), .val (.int (Int32.ofNat len)), .val .null, .unset] [.int z])) := c4.trans (st5 _ (Steps.refl _))
  have c7 : Steps p.tables e below (s₁.setTop (entryFrame m #[.ref a, .ref b, .int (Int32.ofNat o), .int (Int32.ofNat len), .null] 6)) (T5.setTop (mkF m 36 #[.val (.ref a), .val (.ref b), .val (.int (Int32.ofNat o)), .val (.int (Int32.ofNat len)), .val .null, .unset] [.int (Int32.ofNat len), .int (Int32.ofNat o), .ref b])) := c6.trans (by
    refine XS.ifNo X5.here hexec rfl (hb hbytes d30) rfl (i0_eq_f hz) ?_
    refine XS.aloadN X5.here hexec rfl (hb hbytes d33) rfl rfl ?_
    refine XS.iloadN X5.here hexec rfl (hb hbytes d34) rfl ?_
    refine XS.iloadN X5.here hexec rfl (hb hbytes d35) rfl ?_
    exact Steps.refl _)
  obtain ⟨v8, T8, X8, E8, g8⟩ := X5.callS hexec (Cmp3.law l b A o len) hown (wks W (staticW "java/lang/String" 177 Cmp3.yN)) (wk W Cmp3.tab) (W := 0) (Nat.le_of_ble_eq_true rfl) (Nat.le_of_ble_eq_true rfl) (Nat.le_refl _) (by show 0 + len ≤ len; omega) (g := (mkF m 36 #[.val (.ref a), .val (.ref b), .val (.int (Int32.ofNat o)), .val (.int (Int32.ofNat len)), .val .null, .unset] [.int (Int32.ofNat len), .int (Int32.ofNat o), .ref b])) rfl (by rw [hml]; rfl) c7 (argsL := [.ref b, .int (Int32.ofNat o), .int (Int32.ofNat len)]) (rest := []) rfl rfl (by show 2 * 0 + 0 ≤ _; decide) (hb hbytes d36) (⟨rfl, hA.mv X5.warmed.alike hh5, l1, l2, hp⟩)
  obtain ⟨e8, z8⟩ := E8
  obtain ⟨rfl, N, n1, n2, n3, n4, n5, n6⟩ := NewArr.mv _ T5 s _ _ hh5.symm (Vm.Alike.refl _) rfl e8
  rw [hh5] at z8
  have hB1 := hB.keep X8.warmed.alike (n6 _ _ hB.1)
  have hne : s.heap.size ≠ a := (Nat.ne_of_lt (Array.getElem?_eq_some_iff.mp hB.1).1).symm
  have c9 : Steps p.tables e below (s₁.setTop (entryFrame m #[.ref a, .ref b, .int (Int32.ofNat o), .int (Int32.ofNat len), .null] 6)) (T8.setTop (mkF m 39 #[.val (.ref a), .val (.ref b), .val (.int (Int32.ofNat o)), .val (.int (Int32.ofNat len)), .val .null, .unset] [.ref s.heap.size])) := g8
  have c10 : Steps p.tables e below (s₁.setTop (entryFrame m #[.ref a, .ref b, .int (Int32.ofNat o), .int (Int32.ofNat len), .null] 6)) (T8.setTop (mkF m 45 #[.val (.ref a), .val (.ref b), .val (.int (Int32.ofNat o)), .val (.int (Int32.ofNat len)), .val .null, .val (.ref s.heap.size)] [.int (Int32.ofNat N.slots.size), .ref s.heap.size, .ref a])) := by
    have hc : Steps p.tables e below (s₁.setTop (entryFrame m #[.ref a, .ref b, .int (Int32.ofNat o), .int (Int32.ofNat len), .null] 6)) (T8.setTop (mkF m 45 #[.val (.ref a), .val (.ref b), .val (.int (Int32.ofNat o)), .val (.int (Int32.ofNat len)), .val .null, .val (.ref s.heap.size)] [.int (Int32.ofNat len), .ref s.heap.size, .ref a])) := c9.trans (by
      refine XS.astore X8.here hexec rfl (hb hbytes d39) rfl rfl rfl ?_
      refine XS.aloadN X8.here hexec rfl (hb hbytes d41) rfl rfl ?_
      refine XS.aload X8.here hexec rfl (hb hbytes d42) rfl rfl ?_
      refine XS.iloadN X8.here hexec rfl (hb hbytes d44) rfl ?_
      exact Steps.refl _)
    rw [n4]; exact hc
  obtain ⟨v11, T11, X11, E11, g11⟩ := X8.callS hexec (CodL.law l s.heap.size N) hown (wks W (staticW "java/lang/String" 47 CodL.yN)) (wk W CodL.tab) (W := 1) (Nat.le_of_ble_eq_true rfl) (Nat.le_of_ble_eq_true rfl) (Nat.le_refl _) (by show 0 + len + 0 ≤ len; omega) (g := (mkF m 45 #[.val (.ref a), .val (.ref b), .val (.int (Int32.ofNat o)), .val (.int (Int32.ofNat len)), .val .null, .val (.ref s.heap.size)] [.int (Int32.ofNat N.slots.size), .ref s.heap.size, .ref a])) rfl (by rw [hml]; rfl) c10 (argsL := [.ref s.heap.size, .int (Int32.ofNat N.slots.size)]) (rest := [.ref a]) rfl rfl (by show 2 * 0 + (1 + 0) ≤ _; decide) (hb hbytes d45) (⟨rfl, n1⟩)
  obtain ⟨rfl, q11⟩ := E11
  have hB11 := hB1.mv (X8.warmed.alike.symm.trans X11.warmed.alike) q11
  have c12 : Steps p.tables e below (s₁.setTop (entryFrame m #[.ref a, .ref b, .int (Int32.ofNat o), .int (Int32.ofNat len), .null] 6)) (T11.setTop (mkF m 48 #[.val (.ref a), .val (.ref b), .val (.int (Int32.ofNat o)), .val (.int (Int32.ofNat len)), .val .null, .val (.ref s.heap.size)] [.int 0, .ref a])) := g11
  obtain ⟨T13, X13, p13, bl13, sl13, st13⟩ := X11.finit hexec hown (wk W (.fieldLink "java/lang/String" 15 "java/lang/String" "coder" "B")) (Or.inr ⟨_, (wk W (.laysFinal "java/lang/String" "java/lang/String" "coder" "B"))⟩) (Or.inl ⟨rfl, hnm⟩) f2 (Or.inl rfl) hB11 (t := .byte) (by decide +kernel) rfl (g := (mkF m 48 #[.val (.ref a), .val (.ref b), .val (.int (Int32.ofNat o)), .val (.int (Int32.ofNat len)), .val .null, .val (.ref s.heap.size)] [.int 0, .ref a])) rfl (rest := []) rfl (hb hbytes d48)
  have c14 : Steps p.tables e below (s₁.setTop (entryFrame m #[.ref a, .ref b, .int (Int32.ofNat o), .int (Int32.ofNat len), .null] 6)) (T13.setTop (mkF m 54 #[.val (.ref a), .val (.ref b), .val (.int (Int32.ofNat o)), .val (.int (Int32.ofNat len)), .val .null, .val (.ref s.heap.size)] [.ref s.heap.size, .ref a])) := (c12.trans (st13 _ (Steps.refl _))).trans (by
    refine XS.aloadN X13.here hexec rfl (hb hbytes d51) rfl rfl ?_
    refine XS.aload X13.here hexec rfl (hb hbytes d52) rfl rfl ?_
    exact Steps.refl _)
  obtain ⟨T15, X15, p15, bl15, sl15, st15⟩ := X13.finit hexec hown (wk W (.fieldLink "java/lang/String" 9 "java/lang/String" "value" "[B")) (Or.inr ⟨_, (wk W (.laysFinal "java/lang/String" "java/lang/String" "value" "[B"))⟩) (Or.inl ⟨rfl, hnm⟩) f1 (Or.inl rfl) bl13 (t := (.array .byte)) (by decide +kernel) rfl (g := (mkF m 54 #[.val (.ref a), .val (.ref b), .val (.int (Int32.ofNat o)), .val (.int (Int32.ofNat len)), .val .null, .val (.ref s.heap.size)] [.ref s.heap.size, .ref a])) rfl (rest := []) rfl (hb hbytes d54)
  have c16 : Steps p.tables e below (s₁.setTop (entryFrame m #[.ref a, .ref b, .int (Int32.ofNat o), .int (Int32.ofNat len), .null] 6)) (T15.setTop (mkF m 57 #[.val (.ref a), .val (.ref b), .val (.int (Int32.ofNat o)), .val (.int (Int32.ofNat len)), .val .null, .val (.ref s.heap.size)] [])) := c14.trans (st15 _ (Steps.refl _))
  have ap := apart (Or.inr ⟨_, (wk W (.laysFinal "java/lang/String" "java/lang/String" "value" "[B"))⟩) (Or.inr ⟨_, (wk W (.laysFinal "java/lang/String" "java/lang/String" "coder" "B"))⟩) f1 f2 (t₁ := .array .byte) (t₂ := .byte) (by decide +kernel) (by decide +kernel) (by decide)
  have al := X8.warmed.alike.symm.trans X15.warmed.alike
  have n7 : T11.heap[s.heap.size]? = some N := by rw [q11]; exact n1.1
  exact ⟨T15, none, _, _, _, X15, by simp, rfl, by omega, (fun _ => rfl), ⟨rfl, _, N, bl15, ((Same.refl D _).set _ (by simp)).set _ (by simp), sl15, (Cell.slots_setSlot_ne _ ap).trans sl13, n1.keep al (p15.other hne (p13.other hne n7)), n2, by rw [al.findClass]; exact n3, n4, n5, fun y c h1 h2 => p15.other h1 (p13.other h1 (by rw [q11]; exact n6 y c h2)), by rw [p15.2.2, p13.2.2, q11]; exact z8⟩, fun fs hl => c16.trans (X15.returnOut hexec hret (hb hbytes d57) hl)⟩
end New4
namespace New1
def yN : MethodName := ⟨"java/lang/String", "<init>", "([C)V"⟩
abbrev yB : ByteArray := jdk_42_method_3_code
theorem d0 : decode yB 0 = .ok (.aload_n 0, 1) := by decide +kernel
theorem d1 : decode yB 1 = .ok (.aload_n 1, 1) := by decide +kernel
theorem d2 : decode yB 2 = .ok (.iconst 0, 1) := by decide +kernel
theorem d3 : decode yB 3 = .ok (.aload_n 1, 1) := by decide +kernel
theorem d4 : decode yB 4 = .ok (.arraylength, 1) := by decide +kernel
theorem d5 : decode yB 5 = .ok (.aconst_null, 1) := by decide +kernel
theorem d6 : decode yB 6 = .ok (.invokespecial 27, 3) := by decide +kernel
theorem d9 : decode yB 9 = .ok (.return_, 1) := by decide +kernel
def site : List Cond := [New4.tab] ++ initW "java/lang/String" 27 New4.yN
def tab : Cond := tabOf yN yB 2 none site
def P (a : Addr) (D : Cell) (fV fC : Field) (b : Addr) (A : Cell) (z : Int32) (args : Array Value) (s : State) : Prop := args = #[.ref a, .ref b] ∧ Blank "java/lang/String" a D s ∧ Found "java/lang/String" "value" "[B" fV s ∧ Found "java/lang/String" "coder" "B" fC s ∧ Ch b A s ∧ StaticIs s "java/lang/String" "COMPACT_STRINGS" "Z" (.int z) ∧ ¬ z = 0 ∧ 0 < A.slots.size ∧ A.slots.size ≤ 536870912 ∧ ∀ i, i < A.slots.size → ¬ 255 < cv A i
def E (a : Addr) (D : Cell) (fV fC : Field) (A : Cell) (r : Option Value) (s u : State) : Prop := Got a D fV fC A 0 A.slots.size r s u
/-- new String(chars), not empty, no char above 255: a Latin-1 String of their low bytes -/
theorem law (l : Launch) (a : Addr) (D : Cell) (fV fC : Field) (b : Addr) (A : Cell) (z : Int32) : Law l yN 2 1 3 52 yB 2 none site (P a D fV fC b A z) (E a D fV fC A) [⟨a, fC.slot⟩, ⟨a, fV.slot⟩] 1 A.slots.size := by
  refine Law.of_walk (plainFor_of_name (by decide +kernel)) (by decide +kernel) (by decide +kernel) (by decide) (fun _ _ h => by rw [h.1]; rfl) (fun _ U U' hal hh h => ⟨h.1, h.2.1.mv hal hh, h.2.2.1.al hal, h.2.2.2.1.al hal, h.2.2.2.2.1.mv hal hh, h.2.2.2.2.2.1.there hal hh, h.2.2.2.2.2.2⟩) (fun r U U' V V' h1 hal h2 h => Got.mv r U U' V V' h1 hal h2 h) ?_
  intro p e s m args below meth c s₁ X0 hexec hbytes hml hret hlk hnm hown hh0 W hP
  obtain ⟨rfl, hB, f1, f2, hA, s1, hz, l0, l2, hp⟩ := hP
  have c1 : Steps p.tables e below (s₁.setTop (entryFrame m #[.ref a, .ref b] 2)) (s₁.setTop (mkF m 0 #[.val (.ref a), .val (.ref b)] [])) := entry rfl
  have c2 : Steps p.tables e below (s₁.setTop (entryFrame m #[.ref a, .ref b] 2)) (s₁.setTop (mkF m 6 #[.val (.ref a), .val (.ref b)] [.null, .int (Int32.ofNat A.slots.size), .int 0, .ref b, .ref a])) := c1.trans (by
    refine XS.aloadN X0.here hexec rfl (hb hbytes d0) rfl rfl ?_
    refine XS.aloadN X0.here hexec rfl (hb hbytes d1) rfl rfl ?_
    refine iconstV X0.here hexec rfl 0 (hb hbytes d2) (by decide) ?_
    refine XS.aloadN X0.here hexec rfl (hb hbytes d3) rfl rfl ?_
    refine X0.alen hexec (hA.1.mv X0.warmed.alike hh0) rfl rfl (hb hbytes d4) ?_
    refine XS.aconstNull X0.here hexec rfl (hb hbytes d5) ?_
    exact Steps.refl _)
  obtain ⟨v3, T3, X3, E3, g3⟩ := X0.callN hexec (New4.law l a D fV fC b A z 0 A.slots.size) rfl hown (wks W (initW "java/lang/String" 27 New4.yN)) (W New4.tab (by simp only [site, List.mem_cons, List.mem_append, true_or, or_true])) (W := 0) (Nat.le_of_ble_eq_true rfl) (Nat.le_of_ble_eq_true rfl) (Nat.le_refl _) (by show 0 + A.slots.size ≤ A.slots.size; omega) (g := (mkF m 6 #[.val (.ref a), .val (.ref b)] [.null, .int (Int32.ofNat A.slots.size), .int (Int32.ofNat 0), .ref b, .ref a])) rfl (by rw [hml]; rfl) c2 (argsL := [.ref b, .int (Int32.ofNat 0), .int (Int32.ofNat A.slots.size), .null]) (rest := []) rfl rfl (by show 2 * 0 + 0 ≤ _; decide) (hb hbytes d6) (⟨rfl, hB.mv X0.warmed.alike hh0, f1.al X0.warmed.alike, f2.al X0.warmed.alike, hA.mv X0.warmed.alike hh0, s1.there X0.warmed.alike hh0, hz, l0, by omega, l2, fun i hi => by rw [Nat.zero_add]; exact hp i hi⟩)
  have e0 := Got.mv _ s₁ s _ _ hh0.symm (Vm.Alike.refl _) rfl E3
  obtain rfl := e0.1
  have c4 : Steps p.tables e below (s₁.setTop (entryFrame m #[.ref a, .ref b] 2)) (T3.setTop (mkF m 9 #[.val (.ref a), .val (.ref b)] [])) := g3
  exact ⟨T3, none, _, _, _, X3, by simp, rfl, by omega, (fun _ => rfl), e0, fun fs hl => c4.trans (X3.returnOut hexec hret (hb hbytes d9) hl)⟩
theorem pays {l : Launch} {R : Room} {p : Program} {e : Env} {below : List Frame} {s : State} {sargs : Array Value} {len W : Nat} (a : Addr) (D : Cell) (fV fC : Field) (b : Addr) (A : Cell) (z : Int32) (htab : tab.before sargs s = true) (hfr : 4 ≤ R.frames) (hlo : W + 65 ≤ R.locals) :
    Back l R p e below s sargs yN len W (fun A₁ a₁ => A₁.cells + 1 ≤ R.cells ∧ A₁.slots + A.slots.size ≤ R.slots ∧ P a D fV fC b A z a₁ A₁.U) (fun A₁ _ v₁ B₁ => E a D fV fC A v₁ A₁.U B₁.U ∧ B₁.locs = A₁.locs ++ [⟨a, fC.slot⟩, ⟨a, fV.slot⟩] ∧ B₁.cells = A₁.cells + 1 ∧ B₁.slots = A₁.slots + A.slots.size) :=
  (law l a D fV fC b A z).pays htab hfr (by omega)
end New1
/-- the byte, read back as charAt reads it, is the char -/
theorem lo8_mask {x : Int32} (h0 : ¬ x < 0) (h1 : ¬ 255 < x) : lo8 x &&& 255 = x := by
  have t : ∀ k : Fin 256, lo8 (Int32.ofNat k.val) &&& 255 = Int32.ofNat k.val := by decide +kernel
  rw [Int32.lt_iff_toInt_lt] at h0 h1
  have e0 : (0 : Int32).toInt = 0 := rfl
  have e1 : (255 : Int32).toInt = 255 := rfl
  obtain ⟨k, hk⟩ : ∃ k : Nat, x.toInt = k := ⟨x.toInt.toNat, by omega⟩
  have hx : x = Int32.ofNat k := Int32.toInt_inj.mp (by rw [hk, Int32.toInt_ofNat_small (by omega)])
  rw [hx]
  exact t ⟨k, by omega⟩
end StrChars
namespace StrChars.Road
open Jvm Sem ClassFile Op Lib Jvm.Stand Jvm.Free Jvm.Free.XT
open Jvm.Lib.Cold (StaticIs)
abbrev ST : String := "java/lang/String"
/-- every table word that New1's law asks, flat -/
abbrev words : List Jvm.Cond := [.code New1.yN New1.yB 2 none, .initialized ST, .methodLink ST 27 New4.yN, .instanceMethod New4.yN,
  .code New4.yN New4.yB 6 none, .fieldLink ST 38 ST "COMPACT_STRINGS" "Z", .laysFinal ST ST "value" "[B", .fieldLink ST 9 ST "value" "[B", .laysFinal ST ST "coder" "B", .fieldLink ST 15 ST "coder" "B",
  .methodLink ST 1 Lib.objectInit, .instanceMethod Lib.objectInit, .code Lib.objectInit ⟨#[0xb1]⟩ 1 none, .methodLink ST 177 Cmp3.yN, .static Cmp3.yN, .methodLink ST 47 CodL.yN, .static CodL.yN,
  .code Cmp3.yN Cmp3.yB 6 (some (.array .byte)), .initialized U16, .arrayClass .byte, .methodLink U16 115 Cmp5.yN, .static Cmp5.yN, .code Cmp5.yN Cmp5.yB 7 (some .int), .code CodL.yN CodL.yB 2 (some .byte)]
theorem tab_of {a : Array Value} {s : State} (h : ∀ w ∈ words, w.before a s = true) : New1.tab.before a s = true := by
  have h5 : Cmp5.tab.before a s = true := unparts (wk h (.code Cmp5.yN Cmp5.yB 7 (some .int))) (wks h (.initialized Cmp5.yN.cls :: Cmp5.site))
  have hc : CodL.tab.before a s = true := unparts (wk h (.code CodL.yN CodL.yB 2 (some .byte))) (wks h (.initialized CodL.yN.cls :: CodL.site))
  have q5 : ∀ w ∈ Cmp5.tab :: words, w.before a s = true := fun w hw => (List.mem_cons.mp hw).elim (fun e => e ▸ h5) (h w)
  have h3 : Cmp3.tab.before a s = true := unparts (wk q5 (.code Cmp3.yN Cmp3.yB 6 (some (.array .byte)))) (wks q5 (.initialized Cmp3.yN.cls :: Cmp3.site))
  have q3 : ∀ w ∈ Cmp3.tab :: CodL.tab :: words, w.before a s = true := fun w hw => (List.mem_cons.mp hw).elim (fun e => e ▸ h3) fun hw => (List.mem_cons.mp hw).elim (fun e => e ▸ hc) (h w)
  have h4 : New4.tab.before a s = true := unparts (wk q3 (.code New4.yN New4.yB 6 none)) (wks q3 (.initialized New4.yN.cls :: New4.site))
  have q4 : ∀ w ∈ New4.tab :: words, w.before a s = true := fun w hw => (List.mem_cons.mp hw).elim (fun e => e ▸ h4) (h w)
  exact unparts (wk q4 (.code New1.yN New1.yB 2 none)) (wks q4 (.initialized New1.yN.cls :: New1.site))
/-- the words ride from the start Z to the walk's own state -/
theorem moved {Z s : State} {a0 args : Array Value} (hZ : Z.Warmed39 s.vm) (hw : ∀ d ∈ words, d.before a0 Z = true) : ∀ d ∈ words, d.before args s = true := fun d hd => by
  have q := hw d hd
  have t : ∀ d ∈ words, d = .arrayClass .byte ∨ (d.onTables && d.keepsFace) = true := by decide +kernel
  rcases t d hd with rfl | t
  · exact RoadKit.mvA hZ q
  · exact RoadKit.mv hZ q t
/-- WHAT COMES BACK, over the tables of the start Z: h the heap at the call, h' behind it -/
def Q (Z : State) (x : Addr) (A : Cell) (h : Heap) (v : Option Value) (h' : Heap) (L : List Loc) : Prop := v = none ∧ (∀ y ∈ L, y.base = x) ∧ RoadKit.Keep h h' [x] ∧ h'.size = h.size + 1 ∧ RoadKit.Exa Z h' x ST ∧ RoadKit.Fld Z h' x ST "value" "[B" (.ref h.size) ∧ RoadKit.Fld Z h' x ST "coder" "B" (.int 0) ∧
  (∃ V : Cell, RoadKit.Arr Z h' h.size V .byte ∧ V.vm = .none ∧ Z.vm.findClass "[B" = some V.cls ∧ V.slots.size = A.slots.size ∧ ∀ j, j < A.slots.size → V.slots[j]? = some (.int (lo8 (cv A j)))) ∧
  ∀ (O n d : String) (w : Value), RoadKit.Fld Z h x O n d w → RoadKit.slotOf Z O n d ≠ RoadKit.slotOf Z ST "value" "[B" → RoadKit.slotOf Z O n d ≠ RoadKit.slotOf Z ST "coder" "B" → RoadKit.Fld Z h' x O n d w
/-- **new String(chars) AT A CALL, IN THE ROAD'S FORM**: for specialBack behind newO: x the fresh String, b the char[] with the cell A -/
theorem back {p : Program} {l : Launch} {e : Env} {R : Room} {s : State} {args : Array Value} {below : List Frame} {len W : Nat} {Z : State} {a0 : Array Value} {h : Heap} (hZ : Z.Warmed39 s.vm) (hw : ∀ d ∈ words, d.before a0 Z = true) {kI : Nat} (wi : (Jvm.Cond.instantiable ST kI).before a0 Z = true)
    {x b : Addr} {A : Cell} {z : Int32} {v0 c0 : Value} (E : RoadKit.Exa Z h x ST) (V : RoadKit.Fld Z h x ST "value" "[B" v0) (C : RoadKit.Fld Z h x ST "coder" "B" c0) (K : RoadKit.Arr Z h b A .char) (hty : Typed .char A) (S : RoadKit.Sta Z h ST "COMPACT_STRINGS" "Z" (.int z)) (hz : ¬ z = 0)
    (l0 : 0 < A.slots.size) (l2 : A.slots.size ≤ 536870912) (hp : ∀ i, i < A.slots.size → ¬ 255 < cv A i) (hfr : 4 ≤ R.frames) (hlo : W + 65 ≤ R.locals) :
    Back l R p e below s args New1.yN len W (fun P a => a = #[.ref x, .ref b] ∧ P.U.heap = h ∧ P.cells + 1 ≤ R.cells ∧ P.slots + A.slots.size ≤ R.slots)
      (fun P _ v B => ∃ L, Q Z x A h v B.U.heap L ∧ B.locs = P.locs ++ L ∧ B.cells = P.cells + 1 ∧ B.slots = P.slots + A.slots.size) := by
  intro m meth c P g ig mk a X hg hsize hdg hW hn hp'
  obtain ⟨rfl, rfl, r1, r2⟩ := hp'
  have al : Z.vm.Alike P.U.vm := hZ.alike.trans X.warmed.alike
  obtain ⟨D, cfV, kV, iV, fV, hD, gV, stV, knV, obV, asV, slV⟩ := id V
  obtain ⟨D', cfC, kC, iC, fC, hD', gC, stC, -, -, asC, slC⟩ := id C
  cases hD.symm.trans hD'
  obtain ⟨D2, kD, e1, e2, e3, e4, e5⟩ := id E
  cases hD.symm.trans e1
  obtain ⟨c2, k2, i1, i2, i3, -⟩ := Cond.instantiable_spec wi
  cases e2.symm.trans i1
  cases e3.symm.trans i2
  obtain ⟨kU, u1, u2⟩ := al.2.2 _ _ e3
  have hB : Blank ST x D P.U := ⟨hD, ⟨knV, fun q hq => by rw [hq] at obV; cases obV⟩, by rw [al.findClass]; exact e2, kU, u1, by rw [u2]; exact i3, by rw [u2]; exact e5 i3⟩
  have F1 : Found ST "value" "[B" fV P.U := ⟨SBG.found_only al ⟨cfV, kV, iV, gV⟩, stV⟩
  have F2 : Found ST "coder" "B" fC P.U := ⟨SBG.found_only al ⟨cfC, kC, iC, gC⟩, stC⟩
  have hA : Ch b A P.U := ⟨⟨K.1, State.isArrayOf_alike al K.2.1, K.2.2, by omega⟩, hty⟩
  have hS : StaticIs P.U ST "COMPACT_STRINGS" "Z" (.int z) := by
    obtain ⟨cfS, iS, kS, fS, st, cS, t1, t2, t3, t4, t5, t6, t7⟩ := S
    exact StaticIs.there (s := { Z with heap := P.U.heap }) ⟨cfS, iS, kS, fS, st, cS, t1, t2, t3, t4, t5, (fun q => by rw [q] at t6; cases t6), t7⟩ al rfl
  obtain ⟨v, B, X', ⟨⟨hv, E', V', q1, q2, q3, q4, q5, q6, q7, q8, q9, q10, q11⟩, hl, hc, hs⟩, st⟩ := New1.pays x D fV fC b A z (tab_of (moved hZ hw)) hfr hlo m meth c P g ig mk _ X hg hsize hdg hW hn ⟨r1, r2, rfl, hB, F1, F2, hA, hS, hz, l0, l2, hp⟩
  have al' : Z.vm.Alike B.U.vm := hZ.alike.trans X'.warmed.alike
  have hsz : E'.slots.size = D.slots.size := by
    obtain ⟨-, -, -, kB, w1, w2, w3⟩ := q1
    obtain ⟨kB', y1, y2⟩ := al'.2.2 _ _ e3
    rw [q2.2.1] at w1
    cases w1.symm.trans y1
    rw [w3, e5 i3, y2]
  refine ⟨v, B, X', ⟨_, ⟨hv, ?_, ⟨by omega, fun y cy hy hn' => q10 y cy (by simpa using hn') hy, fun y cy hy => ?_⟩, q11, ⟨E', _, q1.1, by rw [q2.2.1]; exact e2, by rw [q2.2.1]; exact e3, by rw [q2.1]; exact obV, fun _ => by rw [hsz]; exact e5 i3⟩,
    ⟨E', cfV, kV, iV, fV, q1.1, gV, stV, by rw [q2.1]; exact knV, by rw [q2.1]; exact obV, by rw [q2.2.1]; exact asV, q3⟩, ⟨E', cfC, kC, iC, fC, q1.1, gC, stC, by rw [q2.1]; exact knV, by rw [q2.1]; exact obV, by rw [q2.2.1]; exact asC, q4⟩,
    ⟨V', ⟨q5.1, State.isArrayOf_alike al'.symm q5.2.1, q5.2.2.1⟩, q6, by rw [← al'.findClass]; exact q7, q8, fun j hj => by have := q9 j hj; rwa [Nat.zero_add] at this⟩, fun O n d w F n1 n2 => ?_⟩, hl, hc, hs⟩, st⟩
  · intro y hy
    simp only [List.mem_cons, List.not_mem_nil, or_false] at hy
    rcases hy with rfl | rfl <;> rfl
  · by_cases q : y = x
    · subst q
      cases hD.symm.trans hy
      exact ⟨E', q1.1, q2.2.1, q2.1, hsz⟩
    · exact ⟨cy, q10 y cy q hy, rfl, rfl, rfl⟩
  · obtain ⟨D3, cf, k, i, f, g1, g2, g3, g4, g5, g6, g7⟩ := F
    cases hD.symm.trans g1
    simp only [RoadKit.slotOf, g2, gV, gC, Option.map_some, Option.getD_some] at n1 n2
    exact ⟨E', cf, k, i, f, q1.1, g2, g3, by rw [q2.1]; exact g4, by rw [q2.1]; exact g5, by rw [q2.2.1]; exact g6, by rw [q2.2.2 f.slot (by simp [n1, n2])]; exact g7⟩
end StrChars.Road
namespace StrChars.Road
open Jvm Sem ClassFile Op Lib Jvm.Stand Jvm.Free Jvm.Free.XT
/-- WHAT COMES BACK, the byte[] as a list of values -/
def QA (Z : State) (x : Addr) (zn : Int32) (cs : List Int32) (h : Heap) (v : Option Value) (h' : Heap) (L : List Loc) : Prop := v = none ∧ (∀ y ∈ L, y.base = x) ∧ RoadKit.Keep h h' [x] ∧ h'.size = h.size + 1 ∧ RoadKit.Exa Z h' x ST ∧ RoadKit.Fld Z h' x ST "value" "[B" (.ref h.size) ∧ RoadKit.Fld Z h' x ST "coder" "B" (.int 0) ∧
  (∃ kb, Z.vm.findClass "[B" = some kb ∧ RoadKit.Arv Z h' h.size kb .byte zn (cs.map fun c => .int (lo8 c)) (.int 0)) ∧
  ∀ (O n d : String) (w : Value), RoadKit.Fld Z h x O n d w → RoadKit.slotOf Z O n d ≠ RoadKit.slotOf Z ST "value" "[B" → RoadKit.slotOf Z O n d ≠ RoadKit.slotOf Z ST "coder" "B" → RoadKit.Fld Z h' x O n d w
/-- **new String(chars) AT A CALL, THE ARRAYS AS LISTS**: the char[] at b holds cs, not empty, no char above 255 -/
theorem backArv {p : Program} {l : Launch} {e : Env} {R : Room} {s : State} {args : Array Value} {below : List Frame} {len W : Nat} {Z : State} {a0 : Array Value} {h : Heap} (hZ : Z.Warmed39 s.vm) (hw : ∀ d ∈ words, d.before a0 Z = true) {kI : Nat} (wi : (Jvm.Cond.instantiable ST kI).before a0 Z = true)
    {x b : Addr} {k : ClassId} {zn z : Int32} {cs : List Int32} {dv v0 c0 : Value} (E : RoadKit.Exa Z h x ST) (V : RoadKit.Fld Z h x ST "value" "[B" v0) (C : RoadKit.Fld Z h x ST "coder" "B" c0) (K : RoadKit.Arv Z h b k .char zn (cs.map Value.int) dv) (S : RoadKit.Sta Z h ST "COMPACT_STRINGS" "Z" (.int z)) (hz : ¬ z = 0)
    (hlen : zn.toNatClampNeg = cs.length) (h0 : 0 < cs.length) (hbig : cs.length ≤ 536870912) (hall : ∀ c ∈ cs, ¬ 255 < c) (hfr : 4 ≤ R.frames) (hlo : W + 65 ≤ R.locals) :
    Back l R p e below s args New1.yN len W (fun P a => a = #[.ref x, .ref b] ∧ P.U.heap = h ∧ P.cells + 1 ≤ R.cells ∧ P.slots + cs.length ≤ R.slots)
      (fun P _ v B => ∃ L, QA Z x zn cs h v B.U.heap L ∧ B.locs = P.locs ++ L ∧ B.cells = P.cells + 1 ∧ B.slots = P.slots + cs.length) := by
  obtain ⟨A, K1, K2, K3, K4, K5, K6⟩ := K
  have e : A.slots.size = cs.length := K3.trans hlen
  have hat : ∀ (i : Nat) (hi : i < cs.length), A.slots[i]? = some (.int cs[i]) := fun i hi => by rw [K5 i (by omega)]; simp [List.getD_eq_getElem?_getD, hi]
  have hcv : ∀ (i : Nat) (hi : i < cs.length), cv A i = cs[i] := fun i hi => by unfold cv; rw [hat i hi]
  have hty : Typed .char A := fun i v hv => by
    have hi : i < A.slots.size := (Array.getElem?_eq_some_iff.mp hv).1
    have q := K5 i hi
    rw [hv] at q
    rw [Option.some.inj q]
    exact K6 i hi
  refine Back.mono (back hZ hw wi E V C K1 hty S hz (by omega) (by omega) (fun i hi => by rw [hcv i (by omega)]; exact hall _ (List.getElem_mem _)) hfr hlo) (fun P a hp => ⟨hp.1, hp.2.1, hp.2.2.1, by rw [e]; exact hp.2.2.2⟩) (fun P a v B hp hq => ?_)
  obtain ⟨L, ⟨q1, q2, q3, q4, q5, q6, q7, ⟨V', v1, v2, v3, v4, v5⟩, q9⟩, hl, hc, hs⟩ := hq
  refine ⟨L, ⟨q1, q2, q3, q4, q5, q6, q7, ⟨V'.cls, v3, V', v1, rfl, by rw [v4, e, hlen], K4, fun i hi => ?_, fun i hi => ?_⟩, q9⟩, hl, hc, by rw [hs, e]⟩
  · have hi' : i < cs.length := by omega
    rw [v5 i (by omega), hcv i hi']; simp [List.getD_eq_getElem?_getD, hi']
  · have hi' : i < cs.length := by omega
    simp only [List.getD_eq_getElem?_getD, List.getElem?_map, List.getElem?_eq_getElem hi', Option.map_some, Option.getD_some]
    exact fits_lo8 _
end StrChars.Road
namespace StrChars.Road
open Jvm Sem ClassFile Op Lib Jvm.Stand Jvm.Free Jvm.Free.XT
/-- WHAT COMES BACK, in the writer's own shape -/
def QV (Z : State) (x : Addr) (N : Int32) (bs : List Int32) (h : Heap) (n0 : Nat) (v : Option Value) (h' : Heap) (L : List Loc) : Prop := v = none ∧ RoadKit.Fr n0 L ∧ RoadKit.Keep h h' [x] ∧ RoadKit.Exa Z h' x ST ∧ RoadKit.Fld Z h' x ST "coder" "B" (.int 0) ∧
  ∃ (t : Addr) (kb : ClassId), n0 ≤ t ∧ h.size ≤ t ∧ ¬ t = x ∧ RoadKit.Fld Z h' x ST "value" "[B" (.ref t) ∧ RoadKit.Arv Z h' t kb .byte N (bs.map Value.int) (.int 0)
/-- **new String(chars) AT A CALL, FOR THE WRITER**: a char[] of n known ints, each 0 to 255 -/
theorem backV {p : Program} {l : Launch} {e : Env} {R : Room} {s : State} {args : Array Value} {below : List Frame} {len W : Nat} {Z : State} {a0 : Array Value} {h : Heap} (hZ : Z.Warmed39 s.vm) (hw : ∀ d ∈ words, d.before a0 Z = true) {kI : Nat} (wi : (Jvm.Cond.instantiable ST kI).before a0 Z = true)
    {x b : Addr} {kC : ClassId} {cs bs : List Int32} {d v0 c0 : Value} {z N : Int32} {n n0 : Nat} (hx0 : n0 ≤ x) (hh0 : n0 ≤ h.size) (E : RoadKit.Exa Z h x ST) (V : RoadKit.Fld Z h x ST "value" "[B" v0) (C : RoadKit.Fld Z h x ST "coder" "B" c0) (K : RoadKit.Arv Z h b kC .char N (cs.map Value.int) d) (S : RoadKit.Sta Z h ST "COMPACT_STRINGS" "Z" (.int z)) (hz : ¬ z = 0)
    (hn : cs.length = n) (hN : N = Int32.ofNat n) (l0 : 0 < n) (l2 : n ≤ 4000) (hp : ∀ c ∈ cs, ¬ c < 0 ∧ ¬ (255 : Int32) < c) (hb : bs = cs.map (fun c => c.toInt8.toInt32)) (hfr : 4 ≤ R.frames) (hlo : W + 65 ≤ R.locals) :
    Back l R p e below s args (⟨"java/lang/String", "<init>", "([C)V"⟩ : MethodName) len W (fun P a => a = #[.ref x, .ref b] ∧ P.U.heap = h ∧ P.cells + 1 ≤ R.cells ∧ P.slots + n ≤ R.slots)
      (fun P _ v B => ∃ L, QV Z x N bs h n0 v B.U.heap L ∧ B.locs = P.locs ++ L ∧ B.cells = P.cells + 1 ∧ B.slots = P.slots + n) := by
  subst hn hN hb
  refine Back.mono (backArv hZ hw wi E V C K S hz (n32 (by omega)) l0 (by omega) (fun c hc => (hp c hc).2) hfr hlo) (fun P a hp => hp) (fun P a v B hp hq => ?_)
  obtain ⟨L, ⟨q1, q2, q3, q4, q5, q6, q7, ⟨kb, v1, v2⟩, q9⟩, hl, hc, hs⟩ := hq
  exact ⟨L, ⟨q1, fun y hy => by rw [q2 y hy]; exact hx0, q3, q5, q7, h.size, kb, hh0, Nat.le_refl _, Nat.ne_of_gt E.lt, q6, by rw [List.map_map]; exact v2⟩, hl, hc, hs⟩
end StrChars.Road
namespace StrChars
open Jvm Sem ClassFile Op Lib Jvm.Stand Jvm.Free.XT Jvm.Free.ALB Jvm.Free.JM Jvm.Free
open Jvm.Lib.Cold (StaticIs)
def hi8 (x : Int32) : Int32 := lo8 (x >>> ((8 : Int32) &&& 31))
/-- what StringUTF16.getChar makes of two bytes -/
def pairCh (u v : Int32) : Int32 := (((u &&& 255) <<< ((0 : Int32) &&& 31)) ||| ((v &&& 255) <<< ((8 : Int32) &&& 31))).toUInt32.toUInt16.toUInt32.toInt32
theorem lo8_and (x : Int32) : (lo8 x &&& 255).toBitVec.toNat = x.toBitVec.toNat % 256 := by
  have h : (lo8 x).toBitVec = (x.toBitVec.signExtend 8).signExtend 32 := by rw [lo8, Int8.toBitVec_toInt32, Int32.toBitVec_toInt8]
  rw [Int32.toBitVec_and, BitVec.toNat_and, h]
  have e : ((x.toBitVec.signExtend 8).signExtend 32).toNat % 256 = x.toBitVec.toNat % 256 := by
    rw [BitVec.toNat_signExtend]
    have hlt := x.toBitVec.isLt
    simp only [BitVec.toNat_setWidth, BitVec.toNat_signExtend]
    split <;> split <;> omega
  rw [← e]
  exact Nat.and_two_pow_sub_one_eq_mod _ 8
theorem pair_says {c : Int32} (h0 : ¬ c < 0) (h1 : ¬ 65535 < c) : pairCh (lo8 c) (hi8 c) = c := by
  rw [Int32.lt_iff_toInt_lt] at h0 h1
  have e0 : (0 : Int32).toInt = 0 := rfl
  have e1 : (65535 : Int32).toInt = 65535 := rfl
  have hc : c.toInt = c.toBitVec.toNat := by
    have := c.toBitVec.isLt
    have e : c.toInt = c.toBitVec.toInt := rfl
    rw [e] at h0 h1
    rw [e]
    rw [BitVec.toInt_eq_toNat_cond] at h0 h1 ⊢
    split at h0 <;> split <;> omega
  have hn : c.toBitVec.toNat < 65536 := by omega
  have a1 := lo8_and c
  have a2 : (hi8 c &&& 255).toBitVec.toNat = c.toBitVec.toNat / 256 := by
    rw [hi8, lo8_and]
    have e : ((8 : Int32) &&& 31) = 8 := by decide
    rw [e, Int32.toBitVec_shiftRight]
    have e2 : ((8 : Int32).toBitVec.smod 32) = 8#32 := by decide
    rw [e2, BitVec.sshiftRight_eq', BitVec.toNat_sshiftRight_of_msb_false (by rw [BitVec.msb_eq_false_iff_two_mul_lt]; omega)]
    show c.toBitVec.toNat >>> 8 % 256 = _
    rw [Nat.shiftRight_eq_div_pow]
    omega
  unfold pairCh
  apply Int32.toBitVec_inj.mp
  apply BitVec.eq_of_toNat_eq
  have f0 : ((0 : Int32) &&& 31) = 0 := by decide
  have f8 : ((8 : Int32) &&& 31) = 8 := by decide
  rw [f0, f8]
  have g : (((lo8 c &&& 255) <<< (0 : Int32)) ||| ((hi8 c &&& 255) <<< (8 : Int32))).toBitVec.toNat = c.toBitVec.toNat := by
    rw [Int32.toBitVec_or, Int32.toBitVec_shiftLeft, Int32.toBitVec_shiftLeft]
    have s0 : ((0 : Int32).toBitVec.smod 32) = 0#32 := by decide
    have s8 : ((8 : Int32).toBitVec.smod 32) = 8#32 := by decide
    rw [s0, s8, BitVec.toNat_or]
    simp only [BitVec.shiftLeft_eq', BitVec.toNat_shiftLeft, a1, a2]
    show (c.toBitVec.toNat % 256) <<< 0 % 2 ^ 32 ||| (c.toBitVec.toNat / 256) <<< 8 % 2 ^ 32 = _
    rw [Nat.shiftLeft_zero, Nat.mod_eq_of_lt (show c.toBitVec.toNat % 256 < 2 ^ 32 by omega), Nat.mod_eq_of_lt (show (c.toBitVec.toNat / 256) <<< 8 < 2 ^ 32 by rw [Nat.shiftLeft_eq]; omega), Nat.or_comm, ← Nat.shiftLeft_add_eq_or_of_lt (by omega), Nat.shiftLeft_eq]
    omega
  show BitVec.toNat (((((lo8 c &&& 255) <<< (0 : Int32)) ||| ((hi8 c &&& 255) <<< (8 : Int32))).toBitVec.setWidth 16).setWidth 32) = _
  rw [BitVec.toNat_setWidth, BitVec.toNat_setWidth, g]
  omega
end StrChars
namespace StrChars
open Jvm Sem ClassFile Op Lib Jvm.Stand Jvm.Free.XT Jvm.Free.ALB Jvm.Free.JM Jvm.Free
open Jvm.Lib.Cold (StaticIs)
/-- the array's cell V codes the n chars f 0 .. f (n - 1) by the coder cd, as the JDK does: coder 1 just where some char is above 255 -/
def Cod (cd : Int32) (n : Nat) (f : Nat → Int32) (V : Cell) : Prop := (cd = 0 ∧ V.slots.size = n ∧ ∀ j, j < n → V.slots[j]? = some (.int (lo8 (f j))) ∧ ¬ 255 < f j) ∨ (cd = 1 ∧ V.slots.size = 2 * n ∧ (∀ j, j < n → V.slots[2 * j]? = some (.int (lo8 (f j))) ∧ V.slots[2 * j + 1]? = some (.int (hi8 (f j)))) ∧ ∃ j, j < n ∧ 255 < f j)
/-- **x is a String of the n chars f 0 .. f (n - 1)**, Latin-1 or UTF-16; its array at t has the cell V -/
def Txt (x t : Addr) (V : Cell) (cd : Int32) (n : Nat) (f : Nat → Int32) (U : State) : Prop := Exact "java/lang/String" x U ∧ Has x "java/lang/String" "value" "[B" (.ref t) U ∧ Has x "java/lang/String" "coder" "B" (.int cd) U ∧ XT.Arr .byte t V U ∧ Cod cd n f V ∧ ∀ j, j < n → ¬ f j < 0 ∧ ¬ 65535 < f j
theorem Txt.mv {x t : Addr} {V : Cell} {cd : Int32} {n : Nat} {f : Nat → Int32} {U U' : State} (h : Txt x t V cd n f U) (hal : U.vm.Alike U'.vm) (hh : U'.heap = U.heap) : Txt x t V cd n f U' := ⟨h.1.mv hal hh, h.2.1.mv hal hh, h.2.2.1.mv hal hh, h.2.2.2.1.mv hal hh, h.2.2.2.2⟩
end StrChars
namespace StrChars.Road
open Jvm Sem ClassFile Op Lib Jvm.Stand Jvm.Free Jvm.Free.XT
open Jvm.Lib.Cold (StaticIs)
theorem consq {a : Array Value} {s : State} {c : Jvm.Cond} {L : List Jvm.Cond} (h0 : c.before a s = true) (h : ∀ w ∈ L, w.before a s = true) : ∀ w ∈ c :: L, w.before a s = true := fun w hw => (List.mem_cons.mp hw).elim (fun e => e ▸ h0) (h w)
/-- the bytes of the chars cs, low before high -/
def wideBytes : List Int32 → List Value
  | [] => []
  | c :: cs => .int (lo8 c) :: .int (hi8 c) :: wideBytes cs
theorem wide_lo (d : Value) : ∀ (cs : List Int32) (j : Nat), j < cs.length → (wideBytes cs).getD (2 * j) d = .int (lo8 (cs.getD j 0))
  | [], j, h => absurd h (Nat.not_lt_zero j)
  | c :: cs, 0, _ => rfl
  | c :: cs, j + 1, h => by
    have q := wide_lo d cs j (by simpa using h)
    rw [show 2 * (j + 1) = 2 * j + 1 + 1 from by omega]
    simpa [wideBytes] using q
theorem wide_hi (d : Value) : ∀ (cs : List Int32) (j : Nat), j < cs.length → (wideBytes cs).getD (2 * j + 1) d = .int (hi8 (cs.getD j 0))
  | [], j, h => absurd h (Nat.not_lt_zero j)
  | c :: cs, 0, _ => rfl
  | c :: cs, j + 1, h => by
    have q := wide_hi d cs j (by simpa using h)
    rw [show 2 * (j + 1) + 1 = 2 * j + 1 + 1 + 1 from by omega]
    simpa [wideBytes] using q
theorem low_at (d : Value) (cs : List Int32) (j : Nat) (h : j < cs.length) : (cs.map fun c => Value.int (lo8 c)).getD j d = .int (lo8 (cs.getD j 0)) := by
  simp [List.getD_eq_getElem?_getD, h]
/-- an array of N2 bytes vs codes the chars cs by the coder cd -/
def CodA (cs : List Int32) (cd N2 : Int32) (vs : List Value) : Prop := (cd = 0 ∧ N2 = Int32.ofNat cs.length ∧ vs = (cs.map fun c => Value.int (lo8 c)) ∧ ∀ c ∈ cs, ¬ 255 < c) ∨ (cd = 1 ∧ N2 = Int32.ofNat (2 * cs.length) ∧ vs = wideBytes cs ∧ ∃ c ∈ cs, 255 < c)
theorem CodA.cod {cs : List Int32} {cd N2 : Int32} {vs : List Value} {V : Cell} (h : CodA cs cd N2 vs) (hn : 2 * cs.length < 2 ^ 31) (hs : V.slots.size = N2.toNatClampNeg) (hv : RoadKit.Has V vs (.int 0)) : Cod cd cs.length (fun j => cs.getD j 0) V := by
  rcases h with ⟨rfl, rfl, rfl, h⟩ | ⟨rfl, rfl, rfl, c, hc, hw⟩
  · rw [n32 (by omega)] at hs
    exact Or.inl ⟨rfl, hs, fun j hj => ⟨by rw [hv j (by omega), low_at _ _ _ hj], by
      have e : cs.getD j 0 = cs[j] := by simp [List.getD_eq_getElem?_getD, hj]
      show ¬ 255 < cs.getD j 0
      rw [e]; exact h _ (List.getElem_mem _)⟩⟩
  · rw [n32 (by omega)] at hs
    obtain ⟨j, hj, rfl⟩ := List.getElem_of_mem hc
    exact Or.inr ⟨rfl, hs, fun j hj => ⟨by rw [hv _ (by omega), wide_lo _ _ _ hj], by rw [hv _ (by omega), wide_hi _ _ _ hj]⟩, j, hj, by
      have e : cs.getD j 0 = cs[j] := by simp [List.getD_eq_getElem?_getD, hj]
      show 255 < cs.getD j 0
      rw [e]; exact hw⟩
/-- an object of exactly java/lang/String, its two fields found: as the laws ask it -/
theorem strObj {Z U : State} {a0 : Array Value} {kI : Nat} (wi : (Jvm.Cond.instantiable ST kI).before a0 Z = true) (al : Z.vm.Alike U.vm) {x : Addr} {v0 c0 : Value} (E : RoadKit.Exa Z U.heap x ST) (V : RoadKit.Fld Z U.heap x ST "value" "[B" v0) (C : RoadKit.Fld Z U.heap x ST "coder" "B" c0) :
    ∃ (D : Cell) (fV fC : Field), Blank ST x D U ∧ Found ST "value" "[B" fV U ∧ Found ST "coder" "B" fC U ∧ D.slots[fV.slot]? = some v0 ∧ D.slots[fC.slot]? = some c0 ∧ RoadKit.slotOf Z ST "value" "[B" = fV.slot ∧ RoadKit.slotOf Z ST "coder" "B" = fC.slot := by
  obtain ⟨D, cfV, kV, iV, fV, hD, gV, stV, knV, obV, asV, slV⟩ := V
  obtain ⟨D', cfC, kC, iC, fC, hD', gC, stC, -, -, asC, slC⟩ := C
  cases hD.symm.trans hD'
  obtain ⟨D2, kD, e1, e2, e3, e4, e5⟩ := E
  cases hD.symm.trans e1
  obtain ⟨c2, k2, i1, i2, i3, -⟩ := Cond.instantiable_spec wi
  cases e2.symm.trans i1
  cases e3.symm.trans i2
  obtain ⟨kU, u1, u2⟩ := al.2.2 _ _ e3
  exact ⟨D, fV, fC, ⟨hD, ⟨knV, fun q hq => by rw [hq] at obV; cases obV⟩, by rw [al.findClass]; exact e2, kU, u1, by rw [u2]; exact i3, by rw [u2]; exact e5 i3⟩, ⟨SBG.found_only al ⟨cfV, kV, iV, gV⟩, stV⟩, ⟨SBG.found_only al ⟨cfC, kC, iC, gC⟩, stC⟩, slV, slC, by simp [RoadKit.slotOf, gV], by simp [RoadKit.slotOf, gC]⟩
theorem sta_is {Z U : State} (al : Z.vm.Alike U.vm) {C n d : String} {v : Value} (S : RoadKit.Sta Z U.heap C n d v) : StaticIs U C n d v := by
  obtain ⟨cfS, iS, kS, fS, st, cS, t1, t2, t3, t4, t5, t6, t7⟩ := S
  exact StaticIs.there (s := { Z with heap := U.heap }) ⟨cfS, iS, kS, fS, st, cS, t1, t2, t3, t4, t5, (fun q => by rw [q] at t6; cases t6), t7⟩ al rfl
end StrChars.Road
namespace StrChars
open Jvm Sem ClassFile Op Lib Jvm.Stand Jvm.Free.XT Jvm.Free.ALB Jvm.Free.JM Jvm.Free
open Jvm.Lib.Cold (StaticIs)
/-- what place i of a byte[]'s cell holds -/
def yv (A : Cell) (i : Nat) : Int32 := match A.slots[i]? with | some (.int x) => x | _ => 0
theorem yv_get {a : Addr} {A : Cell} {U : State} (h : XT.Arr .byte a A U) (ht : Typed .byte A) {i : Nat} (hi : i < A.slots.size) : A.slots[i]? = some (.int (yv A i)) := by
  have e := Array.getElem?_eq_getElem hi
  have f := ht i _ e
  unfold yv; rw [e]
  generalize A.slots[i] = v at f
  cases v <;> simp [fits] at f ⊢
/-- the two arrays are equal, place for place -/
def EqC (A B : Cell) : Prop := A.slots.size = B.slots.size ∧ ∀ i, i < A.slots.size → yv A i = yv B i
/-- a boolean that says whether p -/
def Says01 (q : Prop) (r : Option Value) (s u : State) : Prop := ∃ v : Int32, r = some (.int v) ∧ u.heap = s.heap ∧ ((v = 1 ∧ q) ∨ (v = 0 ∧ ¬ q))
theorem Says01.mv {q : Prop} : ∀ r (U U' V V' : State), U'.heap = U.heap → V.vm.Alike V'.vm → V'.heap = V.heap → Says01 q r U V → Says01 q r U' V' :=
  fun r U U' V V' h1 _ h2 ⟨v, a, b, c⟩ => ⟨v, a, by rw [h1, h2]; exact b, c⟩
namespace LEq
def yN : MethodName := ⟨"java/lang/StringLatin1", "equals", "([B[B)Z"⟩
abbrev yB : ByteArray := jdk_43_method_13_code
theorem d0 : decode yB 0 = .ok (.aload_n 0, 1) := by decide +kernel
theorem d1 : decode yB 1 = .ok (.arraylength, 1) := by decide +kernel
theorem d2 : decode yB 2 = .ok (.aload_n 1, 1) := by decide +kernel
theorem d3 : decode yB 3 = .ok (.arraylength, 1) := by decide +kernel
theorem d4 : decode yB 4 = .ok (.if_icmp (.ne) 30, 3) := by decide +kernel
theorem d7 : decode yB 7 = .ok (.iconst 0, 1) := by decide +kernel
theorem d8 : decode yB 8 = .ok (.istore_n 2, 1) := by decide +kernel
theorem d9 : decode yB 9 = .ok (.iload_n 2, 1) := by decide +kernel
theorem d10 : decode yB 10 = .ok (.aload_n 0, 1) := by decide +kernel
theorem d11 : decode yB 11 = .ok (.arraylength, 1) := by decide +kernel
theorem d12 : decode yB 12 = .ok (.if_icmp (.ge) 20, 3) := by decide +kernel
theorem d15 : decode yB 15 = .ok (.aload_n 0, 1) := by decide +kernel
theorem d16 : decode yB 16 = .ok (.iload_n 2, 1) := by decide +kernel
theorem d17 : decode yB 17 = .ok (.baload, 1) := by decide +kernel
theorem d18 : decode yB 18 = .ok (.aload_n 1, 1) := by decide +kernel
theorem d19 : decode yB 19 = .ok (.iload_n 2, 1) := by decide +kernel
theorem d20 : decode yB 20 = .ok (.baload, 1) := by decide +kernel
theorem d21 : decode yB 21 = .ok (.if_icmp (.eq) 5, 3) := by decide +kernel
theorem d24 : decode yB 24 = .ok (.iconst 0, 1) := by decide +kernel
theorem d25 : decode yB 25 = .ok (.ireturn, 1) := by decide +kernel
theorem d26 : decode yB 26 = .ok (.iinc 2 1, 3) := by decide +kernel
theorem d29 : decode yB 29 = .ok (.goto (-20), 3) := by decide +kernel
theorem d32 : decode yB 32 = .ok (.iconst 1, 1) := by decide +kernel
theorem d33 : decode yB 33 = .ok (.ireturn, 1) := by decide +kernel
theorem d34 : decode yB 34 = .ok (.iconst 0, 1) := by decide +kernel
theorem d35 : decode yB 35 = .ok (.ireturn, 1) := by decide +kernel
def site : List Cond := []
def tab : Cond := tabOf yN yB 3 (some .boolean) site
def P (a : Addr) (A : Cell) (b : Addr) (B : Cell) (args : Array Value) (s : State) : Prop := args = #[.ref a, .ref b] ∧ XT.Arr .byte a A s ∧ Typed .byte A ∧ XT.Arr .byte b B s ∧ Typed .byte B
/-- whether two byte[] are equal, place for place -/
theorem law (l : Launch) (a : Addr) (A : Cell) (b : Addr) (B : Cell) : Law l yN 2 2 0 0 yB 3 (some .boolean) site (P a A b B) (Says01 (EqC A B)) [] 0 0 := by
  refine Law.of_walk (plainFor_of_name (by decide +kernel)) (by decide +kernel) (by decide +kernel) (by decide) (fun _ _ h => by rw [h.1]; rfl) (fun _ U U' hal hh h => ⟨h.1, h.2.1.mv hal hh, h.2.2.1, h.2.2.2.1.mv hal hh, h.2.2.2.2⟩) (fun r U U' V V' h1 hal h2 h => Says01.mv r U U' V V' h1 hal h2 h) ?_
  intro p e s m args below meth c s₁ X0 hexec hbytes hml hret hlk hnm hown hh0 W hP
  obtain ⟨rfl, hA, tA, hB, tB⟩ := hP
  have a31 := hA.2.2.2
  have b31 := hB.2.2.2
  have hA0 := hA.mv X0.warmed.alike hh0
  have hB0 := hB.mv X0.warmed.alike hh0
  have c1 : Steps p.tables e below (s₁.setTop (entryFrame m #[.ref a, .ref b] 3)) (s₁.setTop (mkF m 0 #[.val (.ref a), .val (.ref b), .unset] [])) := entry rfl
  have c2 : Steps p.tables e below (s₁.setTop (entryFrame m #[.ref a, .ref b] 3)) (s₁.setTop (mkF m 4 #[.val (.ref a), .val (.ref b), .unset] [.int (Int32.ofNat B.slots.size), .int (Int32.ofNat A.slots.size)])) := c1.trans (by
    refine XS.aloadN X0.here hexec rfl (hb hbytes d0) rfl rfl ?_
    refine X0.alen hexec hA0 rfl rfl (hb hbytes d1) ?_
    refine XS.aloadN X0.here hexec rfl (hb hbytes d2) rfl rfl ?_
    refine X0.alen hexec hB0 rfl rfl (hb hbytes d3) ?_
    exact Steps.refl _)
  by_cases hs : A.slots.size = B.slots.size
  · have c3 : Steps p.tables e below (s₁.setTop (entryFrame m #[.ref a, .ref b] 3)) (s₁.setTop (mkF m 9 #[.val (.ref a), .val (.ref b), .val (.int 0)] [])) := c2.trans (by
      refine XS.icmpNo X0.here hexec rfl (hb hbytes d4) rfl (ii_ne_f (by rw [hs])) ?_
      refine iconstV X0.here hexec rfl 0 (hb hbytes d7) (by decide) ?_
      refine XS.istoreN X0.here hexec rfl (hb hbytes d8) rfl rfl ?_
      exact Steps.refl _)
    have loop : ∀ (r i : Nat), i + r = A.slots.size → (∀ j, j < i → yv A j = yv B j) → Steps p.tables e below (s₁.setTop (entryFrame m #[.ref a, .ref b] 3)) (s₁.setTop (mkF m 9 #[.val (.ref a), .val (.ref b), .val (.int (Int32.ofNat i))] [])) → ∃ (pc : Nat) (Ls : Array Slot) (v : Int32), (pc = 25 ∨ pc = 33) ∧ ((v = 1 ∧ EqC A B) ∨ (v = 0 ∧ ¬ EqC A B)) ∧ Steps p.tables e below (s₁.setTop (entryFrame m #[.ref a, .ref b] 3)) (s₁.setTop (mkF m pc Ls [.int v])) := by
      intro r
      induction r with
      | zero =>
        intro i hi he cl
        exact ⟨33, _, 1, Or.inr rfl, Or.inl ⟨rfl, hs, fun j hj => he j (by omega)⟩, cl.trans (by
          refine XS.iloadN X0.here hexec rfl (hb hbytes d9) rfl ?_
          refine XS.aloadN X0.here hexec rfl (hb hbytes d10) rfl rfl ?_
          refine X0.alen hexec hA0 rfl rfl (hb hbytes d11) ?_
          refine XS.icmpYes X0.here hexec rfl (pc0 := 12) rfl (hb hbytes d12) rfl (ii_ge_t (nlt32 (by omega) (by omega))) (by decide) rfl ?_
          refine iconstV X0.here hexec rfl 1 (hb hbytes d32) (by decide) ?_
          exact Steps.refl _)⟩
      | succ r ih =>
        intro i hi he cl
        have c4 : Steps p.tables e below (s₁.setTop (entryFrame m #[.ref a, .ref b] 3)) (s₁.setTop (mkF m 21 #[.val (.ref a), .val (.ref b), .val (.int (Int32.ofNat i))] [.int (yv B i), .int (yv A i)])) := cl.trans (by
          refine XS.iloadN X0.here hexec rfl (hb hbytes d9) rfl ?_
          refine XS.aloadN X0.here hexec rfl (hb hbytes d10) rfl rfl ?_
          refine X0.alen hexec hA0 rfl rfl (hb hbytes d11) ?_
          refine XS.icmpNo X0.here hexec rfl (hb hbytes d12) rfl (ii_ge_f (lt32 (by omega) (by omega))) ?_
          refine XS.aloadN X0.here hexec rfl (hb hbytes d15) rfl rfl ?_
          refine XS.iloadN X0.here hexec rfl (hb hbytes d16) rfl ?_
          refine X0.aget hexec hA0 rfl (yv_get hA tA (i := i) (by omega)) rfl rfl (hb hbytes d17) ?_
          refine XS.aloadN X0.here hexec rfl (hb hbytes d18) rfl rfl ?_
          refine XS.iloadN X0.here hexec rfl (hb hbytes d19) rfl ?_
          refine X0.aget hexec hB0 rfl (yv_get hB tB (i := i) (by omega)) rfl rfl (hb hbytes d20) ?_
          exact Steps.refl _)
        by_cases hv : yv A i = yv B i
        · have c5 : Steps p.tables e below (s₁.setTop (entryFrame m #[.ref a, .ref b] 3)) (s₁.setTop (mkF m 9 #[.val (.ref a), .val (.ref b), .val (.int (Int32.ofNat i + 1))] [])) := c4.trans (by
            refine XS.icmpYes X0.here hexec rfl (pc0 := 21) rfl (hb hbytes d21) rfl (ii_eq_t hv) (by decide) rfl ?_
            refine iincV X0.here hexec rfl 1 (hb hbytes d26) (by decide) rfl rfl ?_
            refine XS.goto X0.here hexec rfl (pc0 := 29) rfl (hb hbytes d29) (by decide) rfl ?_
            exact Steps.refl _)
          rw [succ32] at c5
          exact ih (i + 1) (by omega) (fun j hj => by
            by_cases e : j = i
            · rw [e]; exact hv
            · exact he j (by omega)) c5
        · exact ⟨25, _, 0, Or.inl rfl, Or.inr ⟨rfl, fun q => hv (q.2 i (by omega))⟩, c4.trans (by
            refine XS.icmpNo X0.here hexec rfl (hb hbytes d21) rfl (ii_eq_f hv) ?_
            refine iconstV X0.here hexec rfl 0 (hb hbytes d24) (by decide) ?_
            exact Steps.refl _)⟩
    obtain ⟨pc, Ls, v, hpc, hv, cz⟩ := loop A.slots.size 0 (by omega) (fun j hj => absurd hj (Nat.not_lt_zero j)) c3
    have nv : narrow .boolean (.int v) = .int v := by rcases hv with ⟨rfl, -⟩ | ⟨rfl, -⟩ <;> rfl
    rcases hpc with rfl | rfl
    · exact ⟨s₁, some (.int v), _, _, _, X0, rfl, rfl, rfl, (fun h => by cases h), ⟨v, rfl, hh0, hv⟩, fun fs hl => cz.trans (X0.ireturnOut hexec hret nv (Or.inr (Or.inl rfl)) (hb hbytes d25) hl)⟩
    · exact ⟨s₁, some (.int v), _, _, _, X0, rfl, rfl, rfl, (fun h => by cases h), ⟨v, rfl, hh0, hv⟩, fun fs hl => cz.trans (X0.ireturnOut hexec hret nv (Or.inr (Or.inl rfl)) (hb hbytes d33) hl)⟩
  · have c3 : Steps p.tables e below (s₁.setTop (entryFrame m #[.ref a, .ref b] 3)) (s₁.setTop (mkF m 35 #[.val (.ref a), .val (.ref b), .unset] [.int 0])) := c2.trans (by
      refine XS.icmpYes X0.here hexec rfl (pc0 := 4) rfl (hb hbytes d4) rfl (ii_ne_t (ne32 a31 b31 hs)) (by decide) rfl ?_
      refine iconstV X0.here hexec rfl 0 (hb hbytes d34) (by decide) ?_
      exact Steps.refl _)
    exact ⟨s₁, some (.int 0), _, _, _, X0, rfl, rfl, rfl, (fun h => by cases h), ⟨0, rfl, hh0, Or.inr ⟨rfl, fun q => hs q.1⟩⟩, fun fs hl => c3.trans (X0.ireturnOut hexec hret rfl (Or.inr (Or.inl rfl)) (hb hbytes d35) hl)⟩
end LEq
theorem Cod.ty {cd : Int32} {n : Nat} {f : Nat → Int32} {V : Cell} (h : Cod cd n f V) : Typed .byte V := fun i v hv => by
  have hi : i < V.slots.size := (Array.getElem?_eq_some_iff.mp hv).1
  rcases h with ⟨-, k1, k2⟩ | ⟨-, k1, k2, -⟩
  · rw [(k2 i (by omega)).1] at hv; cases hv; exact fits_lo8 _
  · rcases Nat.mod_two_eq_zero_or_one i with e | e
    · obtain ⟨j, rfl⟩ : ∃ j, i = 2 * j := ⟨i / 2, by omega⟩
      rw [(k2 j (by omega)).1] at hv; cases hv; exact fits_lo8 _
    · obtain ⟨j, rfl⟩ : ∃ j, i = 2 * j + 1 := ⟨i / 2, by omega⟩
      rw [(k2 j (by omega)).2] at hv; cases hv; exact fits_lo8 _
/-- the same text -/
def SameT (n : Nat) (f : Nat → Int32) (k : Nat) (g : Nat → Int32) : Prop := n = k ∧ ∀ j, j < n → f j = g j
theorem lo8_inj {x y : Int32} (h0 : ¬ x < 0) (h1 : ¬ 255 < x) (k0 : ¬ y < 0) (k1 : ¬ 255 < y) (h : lo8 x = lo8 y) : x = y := by
  rw [← lo8_mask h0 h1, ← lo8_mask k0 k1, h]
/-- arrays coded by one coder are equal just where the texts are -/
theorem Cod.eqv {cd : Int32} {n k : Nat} {f g : Nat → Int32} {V V' : Cell} (h : Cod cd n f V) (h' : Cod cd k g V') (hf : ∀ j, j < n → ¬ f j < 0 ∧ ¬ 65535 < f j) (hg : ∀ j, j < k → ¬ g j < 0 ∧ ¬ 65535 < g j) : EqC V V' ↔ SameT n f k g := by
  have yvv : ∀ {W : Cell} {i : Nat} {x : Int32}, W.slots[i]? = some (.int x) → yv W i = x := fun q => by unfold yv; rw [q]
  rcases h with ⟨rfl, k1, k2⟩ | ⟨rfl, k1, k2, -⟩
  · rcases h' with ⟨-, m1, m2⟩ | ⟨e, -⟩
    · constructor
      · rintro ⟨e1, e2⟩
        refine ⟨by omega, fun j hj => ?_⟩
        have q := e2 j (by omega)
        rw [yvv (k2 j hj).1, yvv (m2 j (by omega)).1] at q
        exact lo8_inj (hf j hj).1 (k2 j hj).2 (hg j (by omega)).1 (m2 j (by omega)).2 q
      · rintro ⟨rfl, e2⟩
        refine ⟨by omega, fun j hj => ?_⟩
        rw [yvv (k2 j (by omega)).1, yvv (m2 j (by omega)).1, e2 j (by omega)]
    · exact absurd e (by decide)
  · rcases h' with ⟨e, -⟩ | ⟨-, m1, m2, -⟩
    · exact absurd e (by decide)
    · constructor
      · rintro ⟨e1, e2⟩
        refine ⟨by omega, fun j hj => ?_⟩
        have q1 := e2 (2 * j) (by omega)
        have q2 := e2 (2 * j + 1) (by omega)
        rw [yvv (k2 j hj).1, yvv (m2 j (by omega)).1] at q1
        rw [yvv (k2 j hj).2, yvv (m2 j (by omega)).2] at q2
        rw [← pair_says (hf j hj).1 (hf j hj).2, ← pair_says (hg j (by omega)).1 (hg j (by omega)).2, q1, q2]
      · rintro ⟨rfl, e2⟩
        refine ⟨by omega, fun i hi => ?_⟩
        rcases Nat.mod_two_eq_zero_or_one i with e | e
        · obtain ⟨j, rfl⟩ : ∃ j, i = 2 * j := ⟨i / 2, by omega⟩
          rw [yvv (k2 j (by omega)).1, yvv (m2 j (by omega)).1, e2 j (by omega)]
        · obtain ⟨j, rfl⟩ : ∃ j, i = 2 * j + 1 := ⟨i / 2, by omega⟩
          rw [yvv (k2 j (by omega)).2, yvv (m2 j (by omega)).2, e2 j (by omega)]
/-- two codings differ: so do the texts -/
theorem Cod.dif {cd cd' : Int32} {n k : Nat} {f g : Nat → Int32} {V V' : Cell} (h : Cod cd n f V) (h' : Cod cd' k g V') (hne : ¬ cd = cd') : ¬ SameT n f k g := by
  rintro ⟨rfl, e⟩
  rcases h with ⟨rfl, -, k2⟩ | ⟨rfl, -, -, j, hj, hw⟩
  · rcases h' with ⟨rfl, -⟩ | ⟨-, -, -, j, hj, hw⟩
    · exact hne rfl
    · exact (k2 j hj).2 (by rw [e j hj]; exact hw)
  · rcases h' with ⟨-, -, m2⟩ | ⟨rfl, -⟩
    · exact (m2 j hj).2 (by rw [← e j hj]; exact hw)
    · exact hne rfl
/-- an object of exactly C is an instance of C -/
theorem cinst {p : Program} {l : Launch} {e : Env} {R : Room} {s : State} {m : MethodId} {args : Array Value} {below : List Frame} {meth : Method} {c : Code} {T : State} {locs : List Loc} {cells slots : Nat} (X : Stand p l e R s m args below meth c T locs cells slots) (hexec : p.tables.exec = Jvm.exec) {own C : String} {index : Nat} (hown : s.vm.findClass own = some m.cls) (hlink : (Cond.classLink own index C).before args s = true) {a : Addr} (hE : Exact C a T)
    {g : JFrame} (hg : g.method = m) {rest : List Value} (hstack : g.stack = .ref a :: rest) (hdg : decode c.code g.pc = .ok (.instanceof index, 3)) :
    ∃ T', Stand p l e R s m args below meth c T' locs cells slots ∧ T'.heap = T.heap ∧ ∀ target, Steps p.tables e below (T'.setTop { g with pc := g.pc + 3, stack := .int 1 :: rest }) target → Steps p.tables e below (T.setTop g) target := by
  obtain ⟨cB, h1, D, h2, h3, h4⟩ := hE
  have h1' : s.vm.findClass C = some cB := by rw [← X.warmed.alike.findClass]; exact h1
  obtain ⟨vm', X', st⟩ := X.instanceofYes hexec hown hlink h2 h4 h1' (by rw [h3]; exact Jvm.Free.SB.assignable_self _ _) hg hstack hdg
  exact ⟨_, X', rfl, st⟩
theorem cself {p : Program} {l : Launch} {e : Env} {R : Room} {s : State} {m : MethodId} {args : Array Value} {below : List Frame} {meth : Method} {c : Code} {T : State} {locs : List Loc} {cells slots : Nat} (X : Stand p l e R s m args below meth c T locs cells slots) (hexec : p.tables.exec = Jvm.exec) {own C : String} {index : Nat} (hown : s.vm.findClass own = some m.cls) (hlink : (Cond.classLink own index C).before args s = true) {a : Addr} (hE : Exact C a T)
    {g : JFrame} (hg : g.method = m) {rest : List Value} (hstack : g.stack = .ref a :: rest) (hdg : decode c.code g.pc = .ok (.checkcast index, 3)) :
    ∃ T', Stand p l e R s m args below meth c T' locs cells slots ∧ T'.heap = T.heap ∧ ∀ target, Steps p.tables e below (T'.setTop { g with pc := g.pc + 3, stack := .ref a :: rest }) target → Steps p.tables e below (T.setTop g) target := by
  obtain ⟨cB, h1, D, h2, h3, h4⟩ := hE
  have h1' : s.vm.findClass C = some cB := by rw [← X.warmed.alike.findClass]; exact h1
  obtain ⟨vm', X', st⟩ := X.checkcastYes hexec hown hlink h2 h4 h1' (by rw [h3]; exact Jvm.Free.SB.assignable_self _ _) hg hstack hdg
  exact ⟨_, X', rfl, fun t h => st t (by rw [← hstack] at h; exact h)⟩
namespace SEq
def yN : MethodName := ⟨"java/lang/String", "equals", "(Ljava/lang/Object;)Z"⟩
abbrev yB : ByteArray := jdk_42_method_66_code
theorem d0 : decode yB 0 = .ok (.aload_n 0, 1) := by decide +kernel
theorem d1 : decode yB 1 = .ok (.aload_n 1, 1) := by decide +kernel
theorem d2 : decode yB 2 = .ok (.if_acmp (.ne) 5, 3) := by decide +kernel
theorem d5 : decode yB 5 = .ok (.iconst 1, 1) := by decide +kernel
theorem d6 : decode yB 6 = .ok (.ireturn, 1) := by decide +kernel
theorem d7 : decode yB 7 = .ok (.aload_n 1, 1) := by decide +kernel
theorem d8 : decode yB 8 = .ok (.instanceof 10, 3) := by decide +kernel
theorem d11 : decode yB 11 = .ok (.ifCond (.eq) 43, 3) := by decide +kernel
theorem d14 : decode yB 14 = .ok (.aload_n 1, 1) := by decide +kernel
theorem d15 : decode yB 15 = .ok (.checkcast 10, 3) := by decide +kernel
theorem d18 : decode yB 18 = .ok (.astore_n 2, 1) := by decide +kernel
theorem d19 : decode yB 19 = .ok (.getstatic 38, 3) := by decide +kernel
theorem d22 : decode yB 22 = .ok (.ifCond (.eq) 14, 3) := by decide +kernel
theorem d25 : decode yB 25 = .ok (.aload_n 0, 1) := by decide +kernel
theorem d26 : decode yB 26 = .ok (.getfield 15, 3) := by decide +kernel
theorem d29 : decode yB 29 = .ok (.aload_n 2, 1) := by decide +kernel
theorem d30 : decode yB 30 = .ok (.getfield 15, 3) := by decide +kernel
theorem d33 : decode yB 33 = .ok (.if_icmp (.ne) 21, 3) := by decide +kernel
theorem d36 : decode yB 36 = .ok (.aload_n 0, 1) := by decide +kernel
theorem d37 : decode yB 37 = .ok (.getfield 9, 3) := by decide +kernel
theorem d40 : decode yB 40 = .ok (.aload_n 2, 1) := by decide +kernel
theorem d41 : decode yB 41 = .ok (.getfield 9, 3) := by decide +kernel
theorem d44 : decode yB 44 = .ok (.invokestatic 541, 3) := by decide +kernel
theorem d47 : decode yB 47 = .ok (.ifCond (.eq) 7, 3) := by decide +kernel
theorem d50 : decode yB 50 = .ok (.iconst 1, 1) := by decide +kernel
theorem d51 : decode yB 51 = .ok (.goto 4, 3) := by decide +kernel
theorem d54 : decode yB 54 = .ok (.iconst 0, 1) := by decide +kernel
theorem d55 : decode yB 55 = .ok (.ireturn, 1) := by decide +kernel
def site : List Cond := [.classLink "java/lang/String" 10 "java/lang/String", .fieldLink "java/lang/String" 38 "java/lang/String" "COMPACT_STRINGS" "Z", .fieldLink "java/lang/String" 15 "java/lang/String" "coder" "B", .fieldLink "java/lang/String" 9 "java/lang/String" "value" "[B", LEq.tab] ++ staticW "java/lang/String" 541 LEq.yN
def tab : Cond := tabOf yN yB 3 (some .boolean) site
def P (x t : Addr) (V : Cell) (cd : Int32) (n : Nat) (f : Nat → Int32) (y t' : Addr) (V' : Cell) (cd' : Int32) (k : Nat) (g : Nat → Int32) (z : Int32) (args : Array Value) (s : State) : Prop := args = #[.ref x, .ref y] ∧ Txt x t V cd n f s ∧ Txt y t' V' cd' k g s ∧ StaticIs s "java/lang/String" "COMPACT_STRINGS" "Z" (.int z) ∧ ¬ z = 0
/-- equals(Object) of two Strings: whether the texts are the same -/
theorem law (l : Launch) (x t : Addr) (V : Cell) (cd : Int32) (n : Nat) (f : Nat → Int32) (y t' : Addr) (V' : Cell) (cd' : Int32) (k : Nat) (g : Nat → Int32) (z : Int32) : Law l yN 2 1 1 14 yB 3 (some .boolean) site (P x t V cd n f y t' V' cd' k g z) (Says01 (SameT n f k g)) [] 0 0 := by
  refine Law.of_walk (plainFor_of_name (by decide +kernel)) (by decide +kernel) (by decide +kernel) (by decide) (fun _ _ h => by rw [h.1]; rfl) (fun _ U U' hal hh h => ⟨h.1, h.2.1.mv hal hh, h.2.2.1.mv hal hh, h.2.2.2.1.there hal hh, h.2.2.2.2⟩) (fun r U U' V V' h1 hal h2 h => Says01.mv r U U' V V' h1 hal h2 h) ?_
  intro p e s m args below meth c s₁ X0 hexec hbytes hml hret hlk hnm hown hh0 W hP
  obtain ⟨rfl, hx, hy, s1, hz⟩ := hP
  have c1 : Steps p.tables e below (s₁.setTop (entryFrame m #[.ref x, .ref y] 3)) (s₁.setTop (mkF m 2 #[.val (.ref x), .val (.ref y), .unset] [.ref y, .ref x])) := Steps.trans (entry rfl) (by
    show Steps p.tables e below (s₁.setTop (mkF m 0 #[.val (.ref x), .val (.ref y), .unset] [])) _
    refine XS.aloadN X0.here hexec rfl (hb hbytes d0) rfl rfl ?_
    refine XS.aloadN X0.here hexec rfl (hb hbytes d1) rfl rfl ?_
    exact Steps.refl _)
  by_cases hxy : x = y
  · have c2 : Steps p.tables e below (s₁.setTop (entryFrame m #[.ref x, .ref y] 3)) (s₁.setTop (mkF m 6 #[.val (.ref x), .val (.ref y), .unset] [.int 1])) := c1.trans (by
      refine acmpNo X0.here hexec rfl (hb hbytes d2) rfl rfl rfl (by simp [acmp, hxy]) ?_
      refine iconstV X0.here hexec rfl 1 (hb hbytes d5) (by decide) ?_
      exact Steps.refl _)
    subst hxy
    have ec : cd = cd' := by
      obtain ⟨D, fd, a1, a2, a3⟩ := hx.2.2.1
      obtain ⟨D', fd', b1, b2, b3⟩ := hy.2.2.1
      cases a1.symm.trans b1
      obtain ⟨q1, q2, q3, q4⟩ := a2.1
      obtain ⟨r1, r2, r3, r4⟩ := b2.1
      cases q4.symm.trans r4
      cases a3.symm.trans b3; rfl
    have et : t = t' := by
      obtain ⟨D, fd, a1, a2, a3⟩ := hx.2.1
      obtain ⟨D', fd', b1, b2, b3⟩ := hy.2.1
      cases a1.symm.trans b1
      obtain ⟨q1, q2, q3, q4⟩ := a2.1
      obtain ⟨r1, r2, r3, r4⟩ := b2.1
      cases q4.symm.trans r4
      cases a3.symm.trans b3; rfl
    subst ec et
    have ev : V = V' := by cases hx.2.2.2.1.1.symm.trans hy.2.2.2.1.1; rfl
    subst ev
    have hs : SameT n f k g := (Cod.eqv hx.2.2.2.2.1 hy.2.2.2.2.1 hx.2.2.2.2.2 hy.2.2.2.2.2).mp ⟨rfl, fun _ _ => rfl⟩
    exact ⟨s₁, some (.int 1), _, _, _, X0, rfl, rfl, rfl, (fun h => by cases h), ⟨1, rfl, hh0, Or.inl ⟨rfl, hs⟩⟩, fun fs hl => c2.trans (X0.ireturnOut hexec hret rfl (Or.inr (Or.inl rfl)) (hb hbytes d6) hl)⟩
  · have c2 : Steps p.tables e below (s₁.setTop (entryFrame m #[.ref x, .ref y] 3)) (s₁.setTop (mkF m 8 #[.val (.ref x), .val (.ref y), .unset] [.ref y])) := c1.trans (by
      refine acmpYes X0.here hexec rfl (pc0 := 2) rfl (hb hbytes d2) rfl rfl rfl (by simp [acmp, hxy]) (by decide) rfl ?_
      refine XS.aloadN X0.here hexec rfl (hb hbytes d7) rfl rfl ?_
      exact Steps.refl _)
    obtain ⟨T3, X3, q3, st3⟩ := cinst X0 hexec hown (wk W (.classLink "java/lang/String" 10 "java/lang/String")) (hy.mv X0.warmed.alike hh0).1 (g := (mkF m 8 #[.val (.ref x), .val (.ref y), .unset] [.ref y])) rfl (rest := []) rfl (hb hbytes d8)
    have hh3 := q3.trans hh0
    have c4 : Steps p.tables e below (s₁.setTop (entryFrame m #[.ref x, .ref y] 3)) (T3.setTop (mkF m 15 #[.val (.ref x), .val (.ref y), .unset] [.ref y])) := (c2.trans (st3 _ (Steps.refl _))).trans (by
      refine XS.ifNo X3.here hexec rfl (hb hbytes d11) rfl (i0_eq_f (by decide)) ?_
      refine XS.aloadN X3.here hexec rfl (hb hbytes d14) rfl rfl ?_
      exact Steps.refl _)
    obtain ⟨T5, X5, q5, st5⟩ := cself X3 hexec hown (wk W (.classLink "java/lang/String" 10 "java/lang/String")) (hy.mv X3.warmed.alike hh3).1 (g := (mkF m 15 #[.val (.ref x), .val (.ref y), .unset] [.ref y])) rfl (rest := []) rfl (hb hbytes d15)
    have hh5 := q5.trans hh3
    have c6 : Steps p.tables e below (s₁.setTop (entryFrame m #[.ref x, .ref y] 3)) (T5.setTop (mkF m 19 #[.val (.ref x), .val (.ref y), .val (.ref y)] [])) := (c4.trans (st5 _ (Steps.refl _))).trans (by
      refine XS.astoreN X5.here hexec rfl (hb hbytes d18) rfl rfl rfl ?_
      exact Steps.refl _)
    obtain ⟨T7, X7, q7, st7⟩ := X5.sget hexec hown (wk W (.fieldLink "java/lang/String" 38 "java/lang/String" "COMPACT_STRINGS" "Z")) s1 (fun _ _ h => by rw [hh5]; exact h) (g := (mkF m 19 #[.val (.ref x), .val (.ref y), .val (.ref y)] [])) rfl (hb hbytes d19)
    have hh7 := q7.trans hh5
    have c8 : Steps p.tables e below (s₁.setTop (entryFrame m #[.ref x, .ref y] 3)) (T7.setTop (mkF m 26 #[.val (.ref x), .val (.ref y), .val (.ref y)] [.ref x])) := (c6.trans (st7 _ (Steps.refl _))).trans (by
      refine XS.ifNo X7.here hexec rfl (hb hbytes d22) rfl (i0_eq_f hz) ?_
      refine XS.aloadN X7.here hexec rfl (hb hbytes d25) rfl rfl ?_
      exact Steps.refl _)
    obtain ⟨T9, X9, q9, st9⟩ := X7.hget hexec hown (wk W (.fieldLink "java/lang/String" 15 "java/lang/String" "coder" "B")) (hx.mv X7.warmed.alike hh7).2.2.1 (g := (mkF m 26 #[.val (.ref x), .val (.ref y), .val (.ref y)] [.ref x])) rfl (rest := []) rfl (hb hbytes d26)
    have hh9 := q9.trans hh7
    have c10 : Steps p.tables e below (s₁.setTop (entryFrame m #[.ref x, .ref y] 3)) (T9.setTop (mkF m 30 #[.val (.ref x), .val (.ref y), .val (.ref y)] [.ref y, .int cd])) := (c8.trans (st9 _ (Steps.refl _))).trans (by
      refine XS.aloadN X9.here hexec rfl (hb hbytes d29) rfl rfl ?_
      exact Steps.refl _)
    obtain ⟨T11, X11, q11, st11⟩ := X9.hget hexec hown (wk W (.fieldLink "java/lang/String" 15 "java/lang/String" "coder" "B")) (hy.mv X9.warmed.alike hh9).2.2.1 (g := (mkF m 30 #[.val (.ref x), .val (.ref y), .val (.ref y)] [.ref y, .int cd])) rfl (rest := [.int cd]) rfl (hb hbytes d30)
    have hh11 := q11.trans hh9
    have c12 : Steps p.tables e below (s₁.setTop (entryFrame m #[.ref x, .ref y] 3)) (T11.setTop (mkF m 33 #[.val (.ref x), .val (.ref y), .val (.ref y)] [.int cd', .int cd])) := c10.trans (st11 _ (Steps.refl _))
    by_cases hcd : cd = cd'
    · subst hcd
      have c13 : Steps p.tables e below (s₁.setTop (entryFrame m #[.ref x, .ref y] 3)) (T11.setTop (mkF m 37 #[.val (.ref x), .val (.ref y), .val (.ref y)] [.ref x])) := c12.trans (by
        refine XS.icmpNo X11.here hexec rfl (hb hbytes d33) rfl (ii_ne_f rfl) ?_
        refine XS.aloadN X11.here hexec rfl (hb hbytes d36) rfl rfl ?_
        exact Steps.refl _)
      obtain ⟨T14, X14, q14, st14⟩ := X11.hget hexec hown (wk W (.fieldLink "java/lang/String" 9 "java/lang/String" "value" "[B")) (hx.mv X11.warmed.alike hh11).2.1 (g := (mkF m 37 #[.val (.ref x), .val (.ref y), .val (.ref y)] [.ref x])) rfl (rest := []) rfl (hb hbytes d37)
      have hh14 := q14.trans hh11
      have c15 : Steps p.tables e below (s₁.setTop (entryFrame m #[.ref x, .ref y] 3)) (T14.setTop (mkF m 41 #[.val (.ref x), .val (.ref y), .val (.ref y)] [.ref y, .ref t])) := (c13.trans (st14 _ (Steps.refl _))).trans (by
        refine XS.aloadN X14.here hexec rfl (hb hbytes d40) rfl rfl ?_
        exact Steps.refl _)
      obtain ⟨T16, X16, q16, st16⟩ := X14.hget hexec hown (wk W (.fieldLink "java/lang/String" 9 "java/lang/String" "value" "[B")) (hy.mv X14.warmed.alike hh14).2.1 (g := (mkF m 41 #[.val (.ref x), .val (.ref y), .val (.ref y)] [.ref y, .ref t])) rfl (rest := [.ref t]) rfl (hb hbytes d41)
      have hh16 := q16.trans hh14
      have c17 : Steps p.tables e below (s₁.setTop (entryFrame m #[.ref x, .ref y] 3)) (T16.setTop (mkF m 44 #[.val (.ref x), .val (.ref y), .val (.ref y)] [.ref t', .ref t])) := c15.trans (st16 _ (Steps.refl _))
      obtain ⟨v18, T18, X18, E18, g18⟩ := X16.callS hexec (LEq.law l t V t' V') hown (wks W (staticW "java/lang/String" 541 LEq.yN)) (wk W LEq.tab) (W := 0) (Nat.le_of_ble_eq_true rfl) (Nat.le_of_ble_eq_true rfl) (Nat.le_refl _) (Nat.le_refl _) (g := (mkF m 44 #[.val (.ref x), .val (.ref y), .val (.ref y)] [.ref t', .ref t])) rfl (by rw [hml]; rfl) c17 (argsL := [.ref t, .ref t']) (rest := []) rfl rfl (by show 2 * 0 + 0 ≤ _; decide) (hb hbytes d44) (⟨rfl, hx.2.2.2.1.mv X16.warmed.alike hh16, hx.2.2.2.2.1.ty, hy.2.2.2.1.mv X16.warmed.alike hh16, hy.2.2.2.2.1.ty⟩)
      obtain ⟨v, rfl, q18, hv⟩ := E18
      have iff := Cod.eqv hx.2.2.2.2.1 hy.2.2.2.2.1 hx.2.2.2.2.2 hy.2.2.2.2.2
      rcases hv with ⟨rfl, he⟩ | ⟨rfl, he⟩
      · have c19 : Steps p.tables e below (s₁.setTop (entryFrame m #[.ref x, .ref y] 3)) (T18.setTop (mkF m 55 #[.val (.ref x), .val (.ref y), .val (.ref y)] [.int 1])) := Steps.trans g18 (by
          refine XS.ifNo X18.here hexec rfl (hb hbytes d47) rfl (i0_eq_f (by decide)) ?_
          refine iconstV X18.here hexec rfl 1 (hb hbytes d50) (by decide) ?_
          refine XS.goto X18.here hexec rfl (pc0 := 51) rfl (hb hbytes d51) (by decide) rfl ?_
          exact Steps.refl _)
        exact ⟨T18, some (.int 1), _, _, _, X18, rfl, rfl, rfl, (fun h => by cases h), ⟨1, rfl, q18.trans hh16, Or.inl ⟨rfl, iff.mp he⟩⟩, fun fs hl => c19.trans (X18.ireturnOut hexec hret rfl (Or.inr (Or.inl rfl)) (hb hbytes d55) hl)⟩
      · have c19 : Steps p.tables e below (s₁.setTop (entryFrame m #[.ref x, .ref y] 3)) (T18.setTop (mkF m 55 #[.val (.ref x), .val (.ref y), .val (.ref y)] [.int 0])) := Steps.trans g18 (by
          refine XS.ifYes X18.here hexec rfl (pc0 := 47) rfl (hb hbytes d47) rfl (i0_eq_t rfl) (by decide) rfl ?_
          refine iconstV X18.here hexec rfl 0 (hb hbytes d54) (by decide) ?_
          exact Steps.refl _)
        exact ⟨T18, some (.int 0), _, _, _, X18, rfl, rfl, rfl, (fun h => by cases h), ⟨0, rfl, q18.trans hh16, Or.inr ⟨rfl, fun q => he (iff.mpr q)⟩⟩, fun fs hl => c19.trans (X18.ireturnOut hexec hret rfl (Or.inr (Or.inl rfl)) (hb hbytes d55) hl)⟩
    · have c13 : Steps p.tables e below (s₁.setTop (entryFrame m #[.ref x, .ref y] 3)) (T11.setTop (mkF m 55 #[.val (.ref x), .val (.ref y), .val (.ref y)] [.int 0])) := c12.trans (by
        refine XS.icmpYes X11.here hexec rfl (pc0 := 33) rfl (hb hbytes d33) rfl (ii_ne_t hcd) (by decide) rfl ?_
        refine iconstV X11.here hexec rfl 0 (hb hbytes d54) (by decide) ?_
        exact Steps.refl _)
      exact ⟨T11, some (.int 0), _, _, _, X11, rfl, rfl, rfl, (fun h => by cases h), ⟨0, rfl, hh11, Or.inr ⟨rfl, Cod.dif hx.2.2.2.2.1 hy.2.2.2.2.1 hcd⟩⟩, fun fs hl => c13.trans (X11.ireturnOut hexec hret rfl (Or.inr (Or.inl rfl)) (hb hbytes d55) hl)⟩
theorem pays {l : Launch} {R : Room} {p : Program} {e : Env} {below : List Frame} {s : State} {sargs : Array Value} {len W : Nat} (x t : Addr) (V : Cell) (cd : Int32) (n : Nat) (f : Nat → Int32) (y t' : Addr) (V' : Cell) (cd' : Int32) (k : Nat) (g : Nat → Int32) (z : Int32) (htab : tab.before sargs s = true) (hfr : 2 ≤ R.frames) (hlo : W + 28 ≤ R.locals) :
    Back l R p e below s sargs yN len W (fun A₁ a₁ => A₁.cells + 0 ≤ R.cells ∧ A₁.slots + 0 ≤ R.slots ∧ P x t V cd n f y t' V' cd' k g z a₁ A₁.U) (fun A₁ _ v₁ B₁ => Says01 (SameT n f k g) v₁ A₁.U B₁.U ∧ B₁.locs = A₁.locs ++ [] ∧ B₁.cells = A₁.cells + 0 ∧ B₁.slots = A₁.slots + 0) :=
  (law l x t V cd n f y t' V' cd' k g z).pays htab hfr (by omega)
end SEq
end StrChars
namespace StrChars.Road
open Jvm Sem ClassFile Op Lib Jvm.Stand Jvm.Free Jvm.Free.XT
open Jvm.Lib.Cold (StaticIs)
/-- the words of String.equals(Object) -/
abbrev wordsEq : List Jvm.Cond := [.code SEq.yN SEq.yB 3 (some .boolean), .initialized ST, .classLink ST 10 ST, .fieldLink ST 38 ST "COMPACT_STRINGS" "Z", .fieldLink ST 15 ST "coder" "B", .fieldLink ST 9 ST "value" "[B", .methodLink ST 541 LEq.yN, .static LEq.yN, .code LEq.yN LEq.yB 3 (some .boolean), .initialized "java/lang/StringLatin1"]
theorem tabEq_of {a : Array Value} {s : State} (h : ∀ w ∈ wordsEq, w.before a s = true) : SEq.tab.before a s = true := by
  have hl : LEq.tab.before a s = true := unparts (wk h (.code LEq.yN LEq.yB 3 (some .boolean))) (wks h (.initialized LEq.yN.cls :: LEq.site))
  have q := consq hl h
  exact unparts (wk q (.code SEq.yN SEq.yB 3 (some .boolean))) (wks q (.initialized SEq.yN.cls :: SEq.site))
theorem movedEq {Z s : State} {a0 args : Array Value} (hZ : Z.Warmed39 s.vm) (hw : ∀ d ∈ wordsEq, d.before a0 Z = true) : ∀ d ∈ wordsEq, d.before args s = true := fun d hd => by
  have t : ∀ d ∈ wordsEq, (d.onTables && d.keepsFace) = true := by decide +kernel
  exact RoadKit.mv hZ (hw d hd) (t d hd)
/-- the road's facts of a String, as the laws ask it -/
theorem txt_of {Z U : State} {a0 : Array Value} {kI : Nat} (wi : (Jvm.Cond.instantiable ST kI).before a0 Z = true) (al : Z.vm.Alike U.vm) {x t : Addr} {kb : ClassId} {cs : List Int32} {cd N2 : Int32} {vs : List Value} (E : RoadKit.Exa Z U.heap x ST) (V : RoadKit.Fld Z U.heap x ST "value" "[B" (.ref t)) (C : RoadKit.Fld Z U.heap x ST "coder" "B" (.int cd)) (K : RoadKit.Arv Z U.heap t kb .byte N2 vs (.int 0)) (hc : CodA cs cd N2 vs) (hb : ∀ c ∈ cs, ¬ c < 0 ∧ ¬ (65535 : Int32) < c) (l2 : cs.length ≤ 4000) :
    ∃ A, Txt x t A cd cs.length (fun j => cs.getD j 0) U := by
  obtain ⟨A, K1, K2, K3, K4, K5, K6⟩ := K
  have hcod := hc.cod (by omega) K3 K5
  obtain ⟨D, fV, fC, hB, F1, F2, g1, g2, -, -⟩ := strObj wi al E V C
  exact ⟨A, ⟨_, hB.2.2.1, D, hB.1, rfl, by cases q : D.vm <;> first | rfl | exact absurd q (hB.2.1.2 _)⟩, Has.of hB F1 g1, Has.of hB F2 g2, ⟨K1.1, State.isArrayOf_alike al K1.2.1, K1.2.2, by rcases hcod with ⟨-, q, -⟩ | ⟨-, q, -⟩ <;> omega⟩, hcod, fun j hj => by
    have e : cs.getD j 0 = cs[j] := by simp [List.getD_eq_getElem?_getD, hj]
    show ¬ cs.getD j 0 < 0 ∧ ¬ 65535 < cs.getD j 0
    rw [e]; exact hb _ (List.getElem_mem _)⟩
theorem same_list (cs ds : List Int32) : SameT cs.length (fun j => cs.getD j 0) ds.length (fun j => ds.getD j 0) ↔ cs = ds := by
  constructor
  · rintro ⟨e, q⟩
    refine List.ext_getElem e fun j h1 h2 => ?_
    have := q j h1
    simpa [List.getD_eq_getElem?_getD, h1, h2] using this
  · rintro rfl
    exact ⟨rfl, fun _ _ => rfl⟩
/-- **equals(Object) OF TWO SUCH STRINGS**: 1 just where the chars are the same -/
theorem eqW {p : Program} {l : Launch} {e : Env} {R : Room} {s : State} {args : Array Value} {below : List Frame} {len W : Nat} {Z : State} {a0 : Array Value} {h : Heap} (hZ : Z.Warmed39 s.vm) (hw : ∀ d ∈ wordsEq, d.before a0 Z = true) {kI : Nat} (wi : (Jvm.Cond.instantiable ST kI).before a0 Z = true)
    {x t : Addr} {kb : ClassId} {cs : List Int32} {cd N2 : Int32} {vs : List Value} (E : RoadKit.Exa Z h x ST) (V : RoadKit.Fld Z h x ST "value" "[B" (.ref t)) (C : RoadKit.Fld Z h x ST "coder" "B" (.int cd)) (K : RoadKit.Arv Z h t kb .byte N2 vs (.int 0)) (hc : CodA cs cd N2 vs) (hb : ∀ c ∈ cs, ¬ c < 0 ∧ ¬ (65535 : Int32) < c) (l2 : cs.length ≤ 4000)
    {y t' : Addr} {kb' : ClassId} {ds : List Int32} {cd' N2' : Int32} {vs' : List Value} (E' : RoadKit.Exa Z h y ST) (V' : RoadKit.Fld Z h y ST "value" "[B" (.ref t')) (C' : RoadKit.Fld Z h y ST "coder" "B" (.int cd')) (K' : RoadKit.Arv Z h t' kb' .byte N2' vs' (.int 0)) (hc' : CodA ds cd' N2' vs') (hb' : ∀ c ∈ ds, ¬ c < 0 ∧ ¬ (65535 : Int32) < c) (l2' : ds.length ≤ 4000)
    {z : Int32} (S : RoadKit.Sta Z h ST "COMPACT_STRINGS" "Z" (.int z)) (hz : ¬ z = 0) (hfr : 2 ≤ R.frames) (hlo : W + 28 ≤ R.locals) :
    Back l R p e below s args (⟨"java/lang/String", "equals", "(Ljava/lang/Object;)Z"⟩ : MethodName) len W (fun P a => a = #[.ref x, .ref y] ∧ P.U.heap = h ∧ P.cells + 0 ≤ R.cells ∧ P.slots + 0 ≤ R.slots)
      (fun P _ v B => ∃ L, (((v = some (.int 1) ∧ cs = ds) ∨ (v = some (.int 0) ∧ ¬ cs = ds)) ∧ L = [] ∧ B.U.heap = h) ∧ B.locs = P.locs ++ L ∧ B.cells = P.cells + 0 ∧ B.slots = P.slots + 0) := by
  intro m meth c P g ig mk a X hg hsize hdg hW hn hp'
  obtain ⟨rfl, rfl, r1, r2⟩ := hp'
  have al : Z.vm.Alike P.U.vm := hZ.alike.trans X.warmed.alike
  obtain ⟨A, hx⟩ := txt_of wi al E V C K hc hb l2
  obtain ⟨A', hy⟩ := txt_of wi al E' V' C' K' hc' hb' l2'
  obtain ⟨v, B, X', ⟨⟨w, hv, hh, hq⟩, hl, hk, hs⟩, st⟩ := SEq.pays x t A cd cs.length (fun j => cs.getD j 0) y t' A' cd' ds.length (fun j => ds.getD j 0) z (tabEq_of (movedEq hZ hw)) hfr hlo m meth c P g ig mk _ X hg hsize hdg hW hn ⟨r1, r2, rfl, hx, hy, sta_is al S, hz⟩
  refine ⟨v, B, X', ⟨[], ⟨?_, rfl, hh⟩, hl, hk, hs⟩, st⟩
  rcases hq with ⟨rfl, q⟩ | ⟨rfl, q⟩
  · exact Or.inl ⟨hv, (same_list cs ds).mp q⟩
  · exact Or.inr ⟨hv, fun e => q ((same_list cs ds).mpr e)⟩
end StrChars.Road
namespace StrChars.Road
open Jvm Sem ClassFile Op Lib Jvm.Stand Jvm.Free Jvm.Free.XT
open Jvm.Lib.Cold (StaticIs)
/-- what backV says of its String, as the contracts of this text ask it: cs's low bytes, coder 0 -/
theorem codOf {cs : List Int32} {n : Nat} (hn : cs.length = n) (hb : ∀ c ∈ cs, ¬ 255 < c) : CodA cs 0 (Int32.ofNat n) ((cs.map lo8).map Value.int) := Or.inl ⟨rfl, by rw [hn], by simp [List.map_map, Function.comp_def], hb⟩
end StrChars.Road
end Jvm.Pilot.@@N@@
namespace Jvm.Pilot.@@N@@
open Jvm Jvm.ClassFile Sem Op Lib Jvm.Free Jvm.Stand Jvm.LawKit Jvm.RoadKit Bundle Jvm.Pilot.@@N@@.Jvm.D
theorem own_ch (x : Int32) : ¬ nar .char ((x &&& (255 : Int32)).toUInt32.toUInt16.toUInt32.toInt32) < 0 ∧ ¬ (255 : Int32) < nar .char ((x &&& (255 : Int32)).toUInt32.toUInt16.toUInt32.toInt32) := by
  have t : ∀ k : Fin 256, ¬ nar .char ((Int32.ofNat k.val).toUInt32.toUInt16.toUInt32.toInt32) < 0 ∧ ¬ (255 : Int32) < nar .char ((Int32.ofNat k.val).toUInt32.toUInt16.toUInt32.toInt32) := by decide +kernel
  have h : (x &&& 255).toBitVec.toNat < 256 := by
    simp only [Int32.toBitVec_and, BitVec.toNat_and]
    exact Nat.lt_succ_of_le Nat.and_le_right
  have e : (x &&& 255) = Int32.ofNat (x &&& 255).toBitVec.toNat := by
    apply Int32.toBitVec_inj.mp
    show _ = BitVec.ofNat 32 _
    rw [BitVec.ofNat_toNat]; simp
  rw [e]
  exact t ⟨_, h⟩
theorem own_eqv {l : Launch} {R : Room} {p : Program} {e : Env} {below : List Frame} {s : State} {args : Array Value} {y : MethodName} {len W n0 : Nat} {Pre : Pt → Array Value → Prop} {cs ds : List Int32} {h : Heap}
    (hB : Back l R p e below s args y len W Pre (fun P _ v B => ∃ L, (((v = some (.int 1) ∧ cs = ds) ∨ (v = some (.int 0) ∧ ¬ cs = ds)) ∧ L = [] ∧ B.U.heap = h) ∧ B.locs = P.locs ++ L ∧ B.cells = P.cells + 0 ∧ B.slots = P.slots + 0)) :
    Back l R p e below s args y len W Pre (fun P _ v B => ∃ L, (v = some (.int (bit (cs = ds))) ∧ Fr n0 L ∧ B.U.heap = h) ∧ B.locs = P.locs ++ L ∧ B.cells = P.cells + 0 ∧ B.slots = P.slots + 0) :=
  Back.mono hB (fun _ _ q => q) (fun P a v B _ hq => by
    obtain ⟨L, ⟨hv, rfl, hh⟩, r⟩ := hq
    refine ⟨[], ⟨?_, Fr.nil _, hh⟩, r⟩
    rcases hv with ⟨rfl, q⟩ | ⟨rfl, q⟩
    · rw [bit_t q]
    · rw [bit_f q])
theorem own_bit1 {P : Prop} [Decidable P] (h : ¬ bit P = 0) : P := by
  by_cases q : P
  · exact q
  · exact absurd (bit_f q) h
theorem own_bit0 {P : Prop} [Decidable P] (h : bit P = 0) : ¬ P := fun q => by rw [bit_t q] at h; exact absurd h (by decide)
theorem own_up {c : Int32} (h : ¬ c < 0 ∧ ¬ (255 : Int32) < c) : ¬ c < 0 ∧ ¬ (65535 : Int32) < c := ⟨h.1, fun q => h.2 (Int32.lt_trans (by decide) q)⟩
theorem own_arv {Z : State} {args : Array Value} {t : Term} {a : Addr} {ty : FieldType} {z : Int32} {vs : List Value} {dv : Value} (hf : Fit Z) (ev : t.eval args Z none [] Z = some (.ref a)) (h1 : (Jvm.Cond.arrayOf t ty).value args Z none Z [] = some true)
    (h2 : (Jvm.Cond.eq (Term.length t) (Term.int z)).value args Z none Z [] = some true) (hz : ¬ z < 0) (hl : z.toNatClampNeg = vs.length) (H : ∀ c, Z.heap[a]? = some c → HasL c 0 vs) : ∃ k, Arv Z Z.heap a k ty z vs dv := by
  obtain ⟨c, A⟩ := Arr.start ev h1
  obtain ⟨x, y, g1, g2, -, g4⟩ := cmp_v (Or.inl h2)
  obtain rfl : Value.int z = y := Option.some.inj g2
  obtain ⟨w, rfl⟩ := g4
  have q : w = z := by simpa [Cond.value, g1, g2] using h2
  subst q
  obtain ⟨a', cell, e1, e2, e3⟩ := Term.length_spec g1
  cases ev.symm.trans e1
  cases A.1.symm.trans (State.arrayAt?_spec e2).1
  have hs : c.slots.size < 2 ^ 31 := by
    by_cases q : c.slots.size < 2 ^ 31
    · exact q
    · simp [Term.eval, ev, e2, q] at g1
  exact ⟨_, Arv.start hf A hs (Value.int.inj e3).symm hz hl (H c A.1)⟩
theorem own_elI {Z : State} {args : Array Value} {t : Term} {a : Addr} {j k : Int32} {c : Cell} (ev : t.eval args Z none [] Z = some (.ref a)) (hc : Z.heap[a]? = some c) (h : (Jvm.Cond.eq (Term.elem t (Term.int j)) (Term.int k)).value args Z none Z [] = some true) : c.slots[j.toNatClampNeg]? = some (.int k) := by
  obtain ⟨x, y, g1, g2, -, g4⟩ := cmp_v (Or.inl h)
  obtain rfl : Value.int k = y := Option.some.inj g2
  obtain ⟨w, rfl⟩ := g4
  have q : w = k := by simpa [Cond.value, g1, g2] using h
  subst q
  exact (elem_in g1 ev (Term.int_eval j) hc).2
theorem own_elR {Z : State} {args : Array Value} {t u : Term} {a b : Addr} {j : Int32} {c : Cell} (ev : t.eval args Z none [] Z = some (.ref a)) (eu : u.eval args Z none [] Z = some (.ref b)) (hc : Z.heap[a]? = some c) (h : (Jvm.Cond.eq (Term.elem t (Term.int j)) u).value args Z none Z [] = some true) : c.slots[j.toNatClampNeg]? = some (.ref b) := by
  obtain ⟨x, y, g1, g2, g3, g4⟩ := cmp_v (Or.inl h)
  cases eu.symm.trans g2
  have q : x = .ref b := by
    cases x <;> simp [Cond.value, g1, eu, Kin, Value.isRef] at h g3 g4 ⊢ <;> first | exact h | exact absurd g3 (by simp)
  subst q
  exact (elem_in g1 ev (Term.int_eval j) hc).2
theorem own_small (x : Int32) (h : ¬ x < 0 ∧ ¬ (255 : Int32) < x) : ∃ k : Fin 256, x = Int32.ofNat k.val := by
  have h1 : 0 ≤ x.toInt := by have := h.1; rw [Int32.lt_iff_toInt_lt] at this; simpa using this
  have h2 : x.toInt ≤ 255 := by have := h.2; rw [Int32.lt_iff_toInt_lt] at this; simpa using this
  refine ⟨⟨x.toInt.toNat, by omega⟩, ?_⟩
  apply Int32.toInt_inj.mp
  show x.toInt = _
  rw [Int32.toInt_ofNat_small (show x.toInt.toNat < 2 ^ 31 by omega)]
  show x.toInt = ((x.toInt.toNat : Nat) : Int)
  omega
theorem own_ncq {x : Int32} (h : ¬ x < 0 ∧ ¬ (255 : Int32) < x) : nar .char x = x := by
  obtain ⟨k, rfl⟩ := own_small x h
  exact (by decide +kernel : ∀ k : Fin 256, nar .char (Int32.ofNat k.val) = Int32.ofNat k.val) k
theorem own_nc {x : Int32} (h : ¬ x < 0 ∧ ¬ (255 : Int32) < x) : ¬ nar .char x < 0 ∧ ¬ (255 : Int32) < nar .char x := by rw [own_ncq h]; exact h
theorem own_nb {x : Int32} : nar .byte x.toInt8.toInt32 = StrChars.lo8 x := by
  show x.toInt8.toInt32.toInt8.toInt32 = x.toInt8.toInt32
  rw [Int8.toInt8_toInt32]
theorem own_chb (x : Int32) : ¬ (x &&& (255 : Int32)).toUInt32.toUInt16.toUInt32.toInt32 < 0 ∧ ¬ (255 : Int32) < (x &&& (255 : Int32)).toUInt32.toUInt16.toUInt32.toInt32 := by
  have t : ∀ k : Fin 256, ¬ (Int32.ofNat k.val).toUInt32.toUInt16.toUInt32.toInt32 < 0 ∧ ¬ (255 : Int32) < (Int32.ofNat k.val).toUInt32.toUInt16.toUInt32.toInt32 := by decide +kernel
  have h : (x &&& 255).toBitVec.toNat < 256 := by
    simp only [Int32.toBitVec_and, BitVec.toNat_and]
    exact Nat.lt_succ_of_le Nat.and_le_right
  have e : (x &&& 255) = Int32.ofNat (x &&& 255).toBitVec.toNat := by
    apply Int32.toBitVec_inj.mp
    show _ = BitVec.ofNat 32 _
    rw [BitVec.ofNat_toNat]; simp
  rw [e]
  exact t ⟨_, h⟩
theorem own_st0 {s : Int32} {P : Prop} (h : (s = 0 ∧ ¬ P) ∨ (s = 1 ∧ P)) (q : s = 0) : ¬ P := by
  rcases h with h | h
  · exact h.2
  · rw [h.1] at q; exact absurd q (by decide)
theorem own_st1 {s : Int32} {P : Prop} (h : (s = 0 ∧ ¬ P) ∨ (s = 1 ∧ P)) (q : ¬ s = 0) : P := by
  rcases h with h | h
  · exact absurd h.1 q
  · exact h.2
theorem own_words : ∀ d ∈ StrChars.Road.words, d ∈ tables_1 := by decide +kernel
theorem own_wordsE : ∀ d ∈ StrChars.Road.wordsEq, d ∈ tables_1 := by decide +kernel
theorem own_codB : StrChars.Road.CodA [(98 : Int32), (105 : Int32), (100 : Int32)] 0 3 [(.int (98 : Int32)), (.int (105 : Int32)), (.int (100 : Int32))] := Or.inl ⟨rfl, rfl, rfl, by decide⟩
theorem own_bdB : ∀ c ∈ ([(98 : Int32), (105 : Int32), (100 : Int32)] : List Int32), ¬ c < 0 ∧ ¬ (65535 : Int32) < c := by decide
theorem own_codA : StrChars.Road.CodA [(97 : Int32), (115 : Int32), (107 : Int32)] 0 3 [(.int (97 : Int32)), (.int (115 : Int32)), (.int (107 : Int32))] := Or.inl ⟨rfl, rfl, rfl, by decide⟩
theorem own_bdA : ∀ c ∈ ([(97 : Int32), (115 : Int32), (107 : Int32)] : List Int32), ¬ c < 0 ∧ ¬ (65535 : Int32) < c := by decide
theorem own_EW {Z : State} {a0 : Array Value} (hw : ∀ d ∈ tables_1, d.before a0 Z = true) : EW Z a0 consts_1 := EW.cons (hw _ (List.mem_of_getElem? (i := 74) rfl)) (by decide) (EW.cons (hw _ (List.mem_of_getElem? (i := 78) rfl)) (by decide) EW.nil)
theorem own_lowB : (List.map StrChars.lo8 [nar .char (98 : Int32), nar .char (105 : Int32), nar .char (100 : Int32)]).map Value.int = [(.int (98 : Int32)), (.int (105 : Int32)), (.int (100 : Int32))] := by decide +kernel
theorem pn_com_example_marktide_marktide_engine_SideNamedPinLaw : plainName "com/example/marktide/marktide/engine/SideNamedPinLaw" = true := by first | (simp [plainName, overriddenIn]; done) | decide +kernel
theorem ef_rm_labelB (m : MethodId) (x0 : Int32) : entryFrame m #[(.int x0)] 2 = mkF m 0 #[.val (.int x0), .unset] [] := by first | (simp [entryFrame, mkF, argsToLocals, Value.category]; done) | rfl
def Q_rm_labelB (Z : State) (cz : Int32) (h0 : Heap) (n0 : Nat) (v : Option Value) (h : Heap) (L : List Loc) : Prop := Fr n0 L ∧ Keep h0 h [] ∧ ∃ (b t : Addr) (kb : ClassId), v = some (.ref b) ∧ Exa Z h b "java/lang/String" ∧ Fld Z h b "java/lang/String" "value" "[B" (.ref t) ∧ Fld Z h b "java/lang/String" "coder" "B" (.int 0) ∧ Arv Z h t kb .byte 3 [(.int (98 : Int32)), (.int (105 : Int32)), (.int (100 : Int32))] (.int 0)
theorem d1_0 : decode method_2_code 0 = .ok (.iconst 3, 1) := by decide +kernel
theorem d1_1 : decode method_2_code 1 = .ok (.newarray .char, 2) := by decide +kernel
theorem d1_3 : decode method_2_code 3 = .ok (.astore_n 1, 1) := by decide +kernel
theorem d1_4 : decode method_2_code 4 = .ok (.iload_n 0, 1) := by decide +kernel
theorem d1_5 : decode method_2_code 5 = .ok (.ifCond .eq 21, 3) := by decide +kernel
theorem d1_26 : decode method_2_code 26 = .ok (.aload_n 1, 1) := by decide +kernel
theorem d1_27 : decode method_2_code 27 = .ok (.iconst 0, 1) := by decide +kernel
theorem d1_28 : decode method_2_code 28 = .ok (.bipush 98, 2) := by decide +kernel
theorem d1_30 : decode method_2_code 30 = .ok (.castore, 1) := by decide +kernel
theorem d1_31 : decode method_2_code 31 = .ok (.aload_n 1, 1) := by decide +kernel
theorem d1_32 : decode method_2_code 32 = .ok (.iconst 1, 1) := by decide +kernel
theorem d1_33 : decode method_2_code 33 = .ok (.bipush 105, 2) := by decide +kernel
theorem d1_35 : decode method_2_code 35 = .ok (.castore, 1) := by decide +kernel
theorem d1_36 : decode method_2_code 36 = .ok (.aload_n 1, 1) := by decide +kernel
theorem d1_37 : decode method_2_code 37 = .ok (.iconst 2, 1) := by decide +kernel
theorem d1_38 : decode method_2_code 38 = .ok (.bipush 100, 2) := by decide +kernel
theorem d1_40 : decode method_2_code 40 = .ok (.castore, 1) := by decide +kernel
theorem d1_41 : decode method_2_code 41 = .ok (.new 7, 3) := by decide +kernel
theorem d1_44 : decode method_2_code 44 = .ok (.dup, 1) := by decide +kernel
theorem d1_45 : decode method_2_code 45 = .ok (.aload_n 1, 1) := by decide +kernel
theorem d1_46 : decode method_2_code 46 = .ok (.invokespecial 9, 3) := by decide +kernel
theorem pd_0 : parseMethodDescriptor "([C)V" = some ⟨[(.array .char)], none⟩ := by decide +kernel
theorem d1_49 : decode method_2_code 49 = .ok (.areturn, 1) := by decide +kernel
set_option maxRecDepth 65536 in
set_option maxHeartbeats 40000000 in
theorem rm_labelB (l : Launch) (Z : State) (a0 : Array Value) (hw : ∀ d ∈ tables_1, d.before a0 Z = true) (ws : List Jvm.Cond) (cz : Int32) (h0 : Heap) (n0 : Nat) (O : Old Z n0 h0) (S_CS : Sta Z Z.heap "java/lang/String" "COMPACT_STRINGS" "Z" (.int cz)) (hcz : ¬ cz = 0) :
    MetFree l (⟨"com/example/marktide/marktide/engine/SideNamedPinLaw", "label", "(Z)Ljava/lang/String;"⟩ : MethodName) (head1 (Jvm.Cond.code (⟨"com/example/marktide/marktide/engine/SideNamedPinLaw", "label", "(Z)Ljava/lang/String;"⟩ : MethodName) method_2_code 2 (some (.object "java/lang/String")) :: ws) ({ frames := 4, cells := 3, slots := 10, locals := 70 } : Room)) (fun aa U => aa = #[(.int (0 : Int32))] ∧ Z.Warmed39 U.vm ∧ U.heap = h0) (fun _ _ _ _ _ => True) (fun _ U o U' => ∃ v L, o = .returned v ∧ Q_rm_labelB Z cz h0 n0 v U'.heap L ∧ FrameEnd U o U' L ({ frames := 4, cells := 3, slots := 10, locals := 70 } : Room).cells ({ frames := 4, cells := 3, slots := 10, locals := 70 } : Room).slots) := by
  refine MetFree.of_bodySF (plainFor_of_name pn_com_example_marktide_marktide_engine_SideNamedPinLaw) hisR ?_
  intro p e s m args below meth c s₁ Bd hml0 hP hK
  obtain ⟨rfl, hZ, hh⟩ := hP
  have hx := Bd.exec
  have hby := Bd.bytes
  have hml : c.maxLocals = 2 := hml0
  have hown : s.vm.findClass "com/example/marktide/marktide/engine/SideNamedPinLaw" = some m.cls := findClass_of_methodNamed Bd.named
  have hnm := (name_of_methodNamed Bd.named Bd.method).1
  have X0 : Stand p l e ({ frames := 4, cells := 3, slots := 10, locals := 70 } : Room) s m #[(.int (0 : Int32))] below meth c s₁ [] 0 0 := Stand.of_body Bd
  have e0 : s₁.heap = h0 := by rw [← hh, Bd.state]; rfl
  have N0 := Fr.nil n0
  have K : Keep h0 h0 [] := Keep.refl _ _
  show Goes p e below s FrameEnd ({ frames := 4, cells := 3, slots := 10, locals := 70 } : Room).cells ({ frames := 4, cells := 3, slots := 10, locals := 70 } : Room).slots (Q_rm_labelB Z cz h0 n0) s₁ (entryFrame m #[(.int (0 : Int32))] 2)
  refine Goes.cast (ef_rm_labelB m (0 : Int32)) ?_
  refine Goes.to (T' := s₁) (mkF m 1 #[.val (.int (0 : Int32)), .unset] [(.int (3 : Int32))]) (fun t k => XS.iconst X0.here hx rfl (hb hby d1_0) k) ?_
  obtain ⟨T1, h1, k1, X1, e1, E1, A1, st1⟩ := newP X0 hx hZ (hw _ (List.mem_of_getElem? (i := 9) rfl)) e0 (g := (mkF m 1 #[.val (.int (0 : Int32)), .unset] [(.int (3 : Int32))])) rfl (hb hby d1_1) rfl (by decide) (cap := 3) (by decide) (by decide) (by decide) (by decide)
  obtain ⟨b1, g1⟩ : ∃ z, z = h0.size := ⟨_, rfl⟩
  rw [← g1] at A1 st1
  have g_b1 : n0 ≤ b1 := Nat.le_trans (O.1 ▸ O.2.1) (Nat.le_of_eq g1.symm)
  have sz_b1 : h0.size ≤ b1 := Nat.le_trans K.1 (Nat.le_of_eq g1.symm)
  replace O := O.ext E1
  replace K := K.ext E1
  have V_b1 : Arv Z h1 b1 k1 .char (3 : Int32) [(.int (0 : Int32)), (.int (0 : Int32)), (.int (0 : Int32))] (.int (0 : Int32)) := (Arv.new A1 (by decide)).pad (pad_rep [] (.int (0 : Int32)) 3)
  refine Goes.to (T' := T1) (mkF m 3 #[.val (.int (0 : Int32)), .unset] [(.ref b1)]) st1 ?_
  refine Goes.to (T' := T1) (mkF m 4 #[.val (.int (0 : Int32)), .val (.ref b1)] []) (fun t k => XS.astoreN X1.here hx rfl (hb hby d1_3) rfl rfl (l' := #[.val (.int (0 : Int32)), .val (.ref b1)]) rfl k) ?_
  refine Goes.to (T' := T1) (mkF m 5 #[.val (.int (0 : Int32)), .val (.ref b1)] [(.int (0 : Int32))]) (fun t k => XS.iloadN X1.here hx rfl (hb hby d1_4) rfl k) ?_
  refine Goes.to (T' := T1) (mkF m 26 #[.val (.int (0 : Int32)), .val (.ref b1)] []) (fun t k => XS.ifYes X1.here hx rfl (pc0 := 5) (pc' := 26) rfl (hb hby d1_5) rfl ((if0 _ _).trans (teq ((by decide) : (0 : Int32) = (0 : Int32))).1) (by decide) (by decide) k) ?_
  refine Goes.to (T' := T1) (mkF m 27 #[.val (.int (0 : Int32)), .val (.ref b1)] [(.ref b1)]) (fun t k => XS.aloadN X1.here hx rfl (hb hby d1_26) rfl rfl k) ?_
  refine Goes.to (T' := T1) (mkF m 28 #[.val (.int (0 : Int32)), .val (.ref b1)] [(.int (0 : Int32)), (.ref b1)]) (fun t k => XS.iconst X1.here hx rfl (hb hby d1_27) k) ?_
  refine Goes.to (T' := T1) (mkF m 30 #[.val (.int (0 : Int32)), .val (.ref b1)] [(.int (98 : Int32)), (.int (0 : Int32)), (.ref b1)]) (fun t k => XS.bipush X1.here hx rfl (hb hby d1_28) k) ?_
  obtain ⟨cl2, Ar2, q2, S2, M2, H2, G2⟩ := V_b1
  have hin2 : ¬ ((0 : Int32) < 0 ∨ cl2.slots.size ≤ ((0 : Int32)).toNatClampNeg) := inb_of S2 ⟨by decide, by decide⟩
  obtain ⟨T3, h3, X3, e3, W3, st3⟩ := stC X1 hx hZ e1 Ar2 (j := (0 : Int32)) hin2 (g := (mkF m 30 #[.val (.int (0 : Int32)), .val (.ref b1)] [(.int (98 : Int32)), (.int (0 : Int32)), (.ref b1)])) rfl rfl (hb hby d1_30)
  have V_b1 : Arv Z h3 b1 k1 .char (3 : Int32) [(.int (nar .char (98 : Int32))), (.int (0 : Int32)), (.int (0 : Int32))] (.int (0 : Int32)) := Arv.set Ar2 q2 S2 M2 H2 G2 (fits_nar_char _) W3 0 rfl (Nat.le_of_ble_eq_true rfl)
  replace O := O.wr W3 g_b1
  replace K := K.wr W3 (Or.inr sz_b1)
  have N3 := Fr.snoc X3 N0 g_b1
  refine Goes.to (T' := T3) (mkF m 31 #[.val (.int (0 : Int32)), .val (.ref b1)] []) st3 ?_
  refine Goes.to (T' := T3) (mkF m 32 #[.val (.int (0 : Int32)), .val (.ref b1)] [(.ref b1)]) (fun t k => XS.aloadN X3.here hx rfl (hb hby d1_31) rfl rfl k) ?_
  refine Goes.to (T' := T3) (mkF m 33 #[.val (.int (0 : Int32)), .val (.ref b1)] [(.int (1 : Int32)), (.ref b1)]) (fun t k => XS.iconst X3.here hx rfl (hb hby d1_32) k) ?_
  refine Goes.to (T' := T3) (mkF m 35 #[.val (.int (0 : Int32)), .val (.ref b1)] [(.int (105 : Int32)), (.int (1 : Int32)), (.ref b1)]) (fun t k => XS.bipush X3.here hx rfl (hb hby d1_33) k) ?_
  obtain ⟨cl4, Ar4, q4, S4, M4, H4, G4⟩ := V_b1
  have hin4 : ¬ ((1 : Int32) < 0 ∨ cl4.slots.size ≤ ((1 : Int32)).toNatClampNeg) := inb_of S4 ⟨by decide, by decide⟩
  obtain ⟨T5, h5, X5, e5, W5, st5⟩ := stC X3 hx hZ e3 Ar4 (j := (1 : Int32)) hin4 (g := (mkF m 35 #[.val (.int (0 : Int32)), .val (.ref b1)] [(.int (105 : Int32)), (.int (1 : Int32)), (.ref b1)])) rfl rfl (hb hby d1_35)
  have V_b1 : Arv Z h5 b1 k1 .char (3 : Int32) [(.int (nar .char (98 : Int32))), (.int (nar .char (105 : Int32))), (.int (0 : Int32))] (.int (0 : Int32)) := Arv.set Ar4 q4 S4 M4 H4 G4 (fits_nar_char _) W5 1 rfl (Nat.le_of_ble_eq_true rfl)
  replace O := O.wr W5 g_b1
  replace K := K.wr W5 (Or.inr sz_b1)
  have N5 := Fr.snoc X5 N3 g_b1
  refine Goes.to (T' := T5) (mkF m 36 #[.val (.int (0 : Int32)), .val (.ref b1)] []) st5 ?_
  refine Goes.to (T' := T5) (mkF m 37 #[.val (.int (0 : Int32)), .val (.ref b1)] [(.ref b1)]) (fun t k => XS.aloadN X5.here hx rfl (hb hby d1_36) rfl rfl k) ?_
  refine Goes.to (T' := T5) (mkF m 38 #[.val (.int (0 : Int32)), .val (.ref b1)] [(.int (2 : Int32)), (.ref b1)]) (fun t k => XS.iconst X5.here hx rfl (hb hby d1_37) k) ?_
  refine Goes.to (T' := T5) (mkF m 40 #[.val (.int (0 : Int32)), .val (.ref b1)] [(.int (100 : Int32)), (.int (2 : Int32)), (.ref b1)]) (fun t k => XS.bipush X5.here hx rfl (hb hby d1_38) k) ?_
  obtain ⟨cl6, Ar6, q6, S6, M6, H6, G6⟩ := V_b1
  have hin6 : ¬ ((2 : Int32) < 0 ∨ cl6.slots.size ≤ ((2 : Int32)).toNatClampNeg) := inb_of S6 ⟨by decide, by decide⟩
  obtain ⟨T7, h7, X7, e7, W7, st7⟩ := stC X5 hx hZ e5 Ar6 (j := (2 : Int32)) hin6 (g := (mkF m 40 #[.val (.int (0 : Int32)), .val (.ref b1)] [(.int (100 : Int32)), (.int (2 : Int32)), (.ref b1)])) rfl rfl (hb hby d1_40)
  have V_b1 : Arv Z h7 b1 k1 .char (3 : Int32) [(.int (nar .char (98 : Int32))), (.int (nar .char (105 : Int32))), (.int (nar .char (100 : Int32)))] (.int (0 : Int32)) := Arv.set Ar6 q6 S6 M6 H6 G6 (fits_nar_char _) W7 2 rfl (Nat.le_of_ble_eq_true rfl)
  replace O := O.wr W7 g_b1
  replace K := K.wr W7 (Or.inr sz_b1)
  have N7 := Fr.snoc X7 N5 g_b1
  refine Goes.to (T' := T7) (mkF m 41 #[.val (.int (0 : Int32)), .val (.ref b1)] []) st7 ?_
  obtain ⟨T8, h8, X8, e8, E8, A8, D8, -, st8⟩ := newO X7 hx hZ hown (hw _ (List.mem_of_getElem? (i := 10) rfl)) (hw _ (List.mem_of_getElem? (i := 11) rfl)) (hw _ (List.mem_of_getElem? (i := 12) rfl)) e7 (g := (mkF m 41 #[.val (.int (0 : Int32)), .val (.ref b1)] [])) rfl (hb hby d1_41) (by decide) (by decide)
  obtain ⟨b8, g8⟩ : ∃ z, z = h7.size := ⟨_, rfl⟩
  rw [← g8] at A8 D8 st8
  have g_b8 : n0 ≤ b8 := Nat.le_trans (O.1 ▸ O.2.1) (Nat.le_of_eq g8.symm)
  have sz_b8 : h0.size ≤ b8 := Nat.le_trans K.1 (Nat.le_of_eq g8.symm)
  have ne_b1_b8 : b1 ≠ b8 := Nat.ne_of_lt (Nat.lt_of_lt_of_le V_b1.lt (Nat.le_of_eq g8.symm))
  replace O := O.ext E8
  replace V_b1 := V_b1.ext E8
  replace K := K.ext E8
  have E_b8 : Exa Z h8 b8 "java/lang/String" := A8
  have F_coder_b8 : Fld Z h8 b8 "java/lang/String" "coder" "B" (.int (0 : Int32)) := D8 (Or.inr (hw _ (List.mem_of_getElem? (i := 36) rfl))) (ty := .byte) (by decide)
  have F_value_b8 : Fld Z h8 b8 "java/lang/String" "value" "[B" .null := D8 (Or.inr (hw _ (List.mem_of_getElem? (i := 38) rfl))) (ty := (.array .byte)) (by decide)
  refine Goes.to (T' := T8) (mkF m 44 #[.val (.int (0 : Int32)), .val (.ref b1)] [(.ref b8)]) st8 ?_
  refine Goes.to (T' := T8) (mkF m 45 #[.val (.int (0 : Int32)), .val (.ref b1)] [(.ref b8), (.ref b8)]) (fun t k => XS.dup X8.here hx rfl (hb hby d1_44) rfl rfl k) ?_
  refine Goes.to (T' := T8) (mkF m 46 #[.val (.int (0 : Int32)), .val (.ref b1)] [(.ref b1), (.ref b8), (.ref b8)]) (fun t k => XS.aloadN X8.here hx rfl (hb hby d1_45) rfl rfl k) ?_
  have hp : ∀ c ∈ ([(nar .char (98 : Int32)), (nar .char (105 : Int32)), (nar .char (100 : Int32))] : List Int32), ¬ c < 0 ∧ ¬ (255 : Int32) < c := by
    intro c hc
    simp only [List.mem_cons, List.not_mem_nil, or_false] at hc
    rcases hc with rfl | rfl | rfl <;> first | exact own_nc hd0 | exact own_nc hd1 | exact own_nc hd2 | decide
  obtain ⟨_, _, ⟨T9, L9, k9, n9⟩, -, X9, ⟨Lc9, hQ9, l9, y9, z9⟩, st9⟩ := X8.specialBack hx (y := (⟨"java/lang/String", "<init>", "([C)V"⟩ : MethodName)) rfl hown (mvT hZ (hw _ (List.mem_of_getElem? (i := 13) rfl))) (mvT hZ (hw _ (List.mem_of_getElem? (i := 14) rfl))) (mvT hZ (hw _ (List.mem_of_getElem? (i := 15) rfl))) (by decide) (StrChars.Road.backV (W := 1) hZ (fun d hd => hw d (own_words d hd)) (kI := 4) (hw _ (List.mem_of_getElem? (i := 11) rfl)) (cs := ([(nar .char (98 : Int32)), (nar .char (105 : Int32)), (nar .char (100 : Int32))] : List Int32)) (bs := (([(nar .char (98 : Int32)), (nar .char (105 : Int32)), (nar .char (100 : Int32))] : List Int32)).map StrChars.lo8) (n := 3) g_b8 (O.1 ▸ O.2.1) E_b8 F_value_b8 F_coder_b8 V_b1 (S_CS.ext O.2) hcz rfl rfl (by decide) (by decide) hp rfl (by decide) (by decide)) (g := (mkF m 46 #[.val (.int (0 : Int32)), .val (.ref b1)] [(.ref b1), (.ref b8), (.ref b8)])) rfl (by rw [hml]; rfl) (Steps.refl _) (a := b8) (argsL := [(.ref b1)]) (rest := [(.ref b8)]) (lenOf pd_0 rfl) rfl (by show 2 * 0 + _ ≤ _; exact Nat.le_of_eq rfl) (hb hby d1_46) (fun _ _ => ⟨rfl, e8, (by decide : 2 + 1 ≤ _), (by decide : 7 + 3 ≤ _)⟩)
  dsimp only [Pt.U, Pt.locs, Pt.cells, Pt.slots] at X9 l9 y9 z9 st9 hQ9
  subst l9 y9 z9
  obtain ⟨rfl, N9, K9, E', F_c, tb, kb, -, -, -, F_v, V_t⟩ := hQ9
  have N9' := Fr.app N7 N9
  replace V_b1 := V_b1.keep K9 (ninS ne_b1_b8 (nin0))
  replace E_b8 := E_b8.keep K9
  replace O := O.keep K9 (allS g_b8 all0)
  replace K := K.trans K9 (allS (Or.inr sz_b8) all0)
  refine Goes.to (T' := T9) (mkF m 49 #[.val (.int (0 : Int32)), .val (.ref b1)] [(.ref b8)]) (fun t k => st9.trans k) ?_
  rw [own_lowB] at V_t
  refine Goes.retA X9 hx Bd.notSynchronized rfl Bd.returns rfl (hb hby d1_49) (by decide) (by decide) ?_
  exact ⟨N9', K, _, _, _, rfl, E', F_v, F_c, V_t⟩
theorem own_lowA : (List.map StrChars.lo8 [nar .char (97 : Int32), nar .char (115 : Int32), nar .char (107 : Int32)]).map Value.int = [(.int (97 : Int32)), (.int (115 : Int32)), (.int (107 : Int32))] := by decide +kernel
theorem ef_rm_labelA (m : MethodId) (x0 : Int32) : entryFrame m #[(.int x0)] 2 = mkF m 0 #[.val (.int x0), .unset] [] := by first | (simp [entryFrame, mkF, argsToLocals, Value.category]; done) | rfl
def Q_rm_labelA (Z : State) (cz : Int32) (h0 : Heap) (n0 : Nat) (v : Option Value) (h : Heap) (L : List Loc) : Prop := Fr n0 L ∧ Keep h0 h [] ∧ ∃ (b t : Addr) (kb : ClassId), v = some (.ref b) ∧ Exa Z h b "java/lang/String" ∧ Fld Z h b "java/lang/String" "value" "[B" (.ref t) ∧ Fld Z h b "java/lang/String" "coder" "B" (.int 0) ∧ Arv Z h t kb .byte 3 [(.int (97 : Int32)), (.int (115 : Int32)), (.int (107 : Int32))] (.int 0)
theorem d1_8 : decode method_2_code 8 = .ok (.aload_n 1, 1) := by decide +kernel
theorem d1_9 : decode method_2_code 9 = .ok (.iconst 0, 1) := by decide +kernel
theorem d1_10 : decode method_2_code 10 = .ok (.bipush 97, 2) := by decide +kernel
theorem d1_12 : decode method_2_code 12 = .ok (.castore, 1) := by decide +kernel
theorem d1_13 : decode method_2_code 13 = .ok (.aload_n 1, 1) := by decide +kernel
theorem d1_14 : decode method_2_code 14 = .ok (.iconst 1, 1) := by decide +kernel
theorem d1_15 : decode method_2_code 15 = .ok (.bipush 115, 2) := by decide +kernel
theorem d1_17 : decode method_2_code 17 = .ok (.castore, 1) := by decide +kernel
theorem d1_18 : decode method_2_code 18 = .ok (.aload_n 1, 1) := by decide +kernel
theorem d1_19 : decode method_2_code 19 = .ok (.iconst 2, 1) := by decide +kernel
theorem d1_20 : decode method_2_code 20 = .ok (.bipush 107, 2) := by decide +kernel
theorem d1_22 : decode method_2_code 22 = .ok (.castore, 1) := by decide +kernel
theorem d1_23 : decode method_2_code 23 = .ok (.goto 18, 3) := by decide +kernel
set_option maxRecDepth 65536 in
set_option maxHeartbeats 40000000 in
theorem rm_labelA (l : Launch) (Z : State) (a0 : Array Value) (hw : ∀ d ∈ tables_1, d.before a0 Z = true) (ws : List Jvm.Cond) (cz : Int32) (h0 : Heap) (n0 : Nat) (O : Old Z n0 h0) (S_CS : Sta Z Z.heap "java/lang/String" "COMPACT_STRINGS" "Z" (.int cz)) (hcz : ¬ cz = 0) :
    MetFree l (⟨"com/example/marktide/marktide/engine/SideNamedPinLaw", "label", "(Z)Ljava/lang/String;"⟩ : MethodName) (head1 (Jvm.Cond.code (⟨"com/example/marktide/marktide/engine/SideNamedPinLaw", "label", "(Z)Ljava/lang/String;"⟩ : MethodName) method_2_code 2 (some (.object "java/lang/String")) :: ws) ({ frames := 4, cells := 3, slots := 10, locals := 70 } : Room)) (fun aa U => aa = #[(.int (1 : Int32))] ∧ Z.Warmed39 U.vm ∧ U.heap = h0) (fun _ _ _ _ _ => True) (fun _ U o U' => ∃ v L, o = .returned v ∧ Q_rm_labelA Z cz h0 n0 v U'.heap L ∧ FrameEnd U o U' L ({ frames := 4, cells := 3, slots := 10, locals := 70 } : Room).cells ({ frames := 4, cells := 3, slots := 10, locals := 70 } : Room).slots) := by
  refine MetFree.of_bodySF (plainFor_of_name pn_com_example_marktide_marktide_engine_SideNamedPinLaw) hisR ?_
  intro p e s m args below meth c s₁ Bd hml0 hP hK
  obtain ⟨rfl, hZ, hh⟩ := hP
  have hx := Bd.exec
  have hby := Bd.bytes
  have hml : c.maxLocals = 2 := hml0
  have hown : s.vm.findClass "com/example/marktide/marktide/engine/SideNamedPinLaw" = some m.cls := findClass_of_methodNamed Bd.named
  have hnm := (name_of_methodNamed Bd.named Bd.method).1
  have X0 : Stand p l e ({ frames := 4, cells := 3, slots := 10, locals := 70 } : Room) s m #[(.int (1 : Int32))] below meth c s₁ [] 0 0 := Stand.of_body Bd
  have e0 : s₁.heap = h0 := by rw [← hh, Bd.state]; rfl
  have N0 := Fr.nil n0
  have K : Keep h0 h0 [] := Keep.refl _ _
  show Goes p e below s FrameEnd ({ frames := 4, cells := 3, slots := 10, locals := 70 } : Room).cells ({ frames := 4, cells := 3, slots := 10, locals := 70 } : Room).slots (Q_rm_labelA Z cz h0 n0) s₁ (entryFrame m #[(.int (1 : Int32))] 2)
  refine Goes.cast (ef_rm_labelA m (1 : Int32)) ?_
  refine Goes.to (T' := s₁) (mkF m 1 #[.val (.int (1 : Int32)), .unset] [(.int (3 : Int32))]) (fun t k => XS.iconst X0.here hx rfl (hb hby d1_0) k) ?_
  obtain ⟨T1, h1, k1, X1, e1, E1, A1, st1⟩ := newP X0 hx hZ (hw _ (List.mem_of_getElem? (i := 9) rfl)) e0 (g := (mkF m 1 #[.val (.int (1 : Int32)), .unset] [(.int (3 : Int32))])) rfl (hb hby d1_1) rfl (by decide) (cap := 3) (by decide) (by decide) (by decide) (by decide)
  obtain ⟨b1, g1⟩ : ∃ z, z = h0.size := ⟨_, rfl⟩
  rw [← g1] at A1 st1
  have g_b1 : n0 ≤ b1 := Nat.le_trans (O.1 ▸ O.2.1) (Nat.le_of_eq g1.symm)
  have sz_b1 : h0.size ≤ b1 := Nat.le_trans K.1 (Nat.le_of_eq g1.symm)
  replace O := O.ext E1
  replace K := K.ext E1
  have V_b1 : Arv Z h1 b1 k1 .char (3 : Int32) [(.int (0 : Int32)), (.int (0 : Int32)), (.int (0 : Int32))] (.int (0 : Int32)) := (Arv.new A1 (by decide)).pad (pad_rep [] (.int (0 : Int32)) 3)
  refine Goes.to (T' := T1) (mkF m 3 #[.val (.int (1 : Int32)), .unset] [(.ref b1)]) st1 ?_
  refine Goes.to (T' := T1) (mkF m 4 #[.val (.int (1 : Int32)), .val (.ref b1)] []) (fun t k => XS.astoreN X1.here hx rfl (hb hby d1_3) rfl rfl (l' := #[.val (.int (1 : Int32)), .val (.ref b1)]) rfl k) ?_
  refine Goes.to (T' := T1) (mkF m 5 #[.val (.int (1 : Int32)), .val (.ref b1)] [(.int (1 : Int32))]) (fun t k => XS.iloadN X1.here hx rfl (hb hby d1_4) rfl k) ?_
  refine Goes.to (T' := T1) (mkF m 8 #[.val (.int (1 : Int32)), .val (.ref b1)] []) (fun t k => XS.ifNo X1.here hx rfl (hb hby d1_5) rfl ((if0 _ _).trans (feq ((by decide) : ¬ ((1 : Int32) = (0 : Int32)))).1) k) ?_
  refine Goes.to (T' := T1) (mkF m 9 #[.val (.int (1 : Int32)), .val (.ref b1)] [(.ref b1)]) (fun t k => XS.aloadN X1.here hx rfl (hb hby d1_8) rfl rfl k) ?_
  refine Goes.to (T' := T1) (mkF m 10 #[.val (.int (1 : Int32)), .val (.ref b1)] [(.int (0 : Int32)), (.ref b1)]) (fun t k => XS.iconst X1.here hx rfl (hb hby d1_9) k) ?_
  refine Goes.to (T' := T1) (mkF m 12 #[.val (.int (1 : Int32)), .val (.ref b1)] [(.int (97 : Int32)), (.int (0 : Int32)), (.ref b1)]) (fun t k => XS.bipush X1.here hx rfl (hb hby d1_10) k) ?_
  obtain ⟨cl2, Ar2, q2, S2, M2, H2, G2⟩ := V_b1
  have hin2 : ¬ ((0 : Int32) < 0 ∨ cl2.slots.size ≤ ((0 : Int32)).toNatClampNeg) := inb_of S2 ⟨by decide, by decide⟩
  obtain ⟨T3, h3, X3, e3, W3, st3⟩ := stC X1 hx hZ e1 Ar2 (j := (0 : Int32)) hin2 (g := (mkF m 12 #[.val (.int (1 : Int32)), .val (.ref b1)] [(.int (97 : Int32)), (.int (0 : Int32)), (.ref b1)])) rfl rfl (hb hby d1_12)
  have V_b1 : Arv Z h3 b1 k1 .char (3 : Int32) [(.int (nar .char (97 : Int32))), (.int (0 : Int32)), (.int (0 : Int32))] (.int (0 : Int32)) := Arv.set Ar2 q2 S2 M2 H2 G2 (fits_nar_char _) W3 0 rfl (Nat.le_of_ble_eq_true rfl)
  replace O := O.wr W3 g_b1
  replace K := K.wr W3 (Or.inr sz_b1)
  have N3 := Fr.snoc X3 N0 g_b1
  refine Goes.to (T' := T3) (mkF m 13 #[.val (.int (1 : Int32)), .val (.ref b1)] []) st3 ?_
  refine Goes.to (T' := T3) (mkF m 14 #[.val (.int (1 : Int32)), .val (.ref b1)] [(.ref b1)]) (fun t k => XS.aloadN X3.here hx rfl (hb hby d1_13) rfl rfl k) ?_
  refine Goes.to (T' := T3) (mkF m 15 #[.val (.int (1 : Int32)), .val (.ref b1)] [(.int (1 : Int32)), (.ref b1)]) (fun t k => XS.iconst X3.here hx rfl (hb hby d1_14) k) ?_
  refine Goes.to (T' := T3) (mkF m 17 #[.val (.int (1 : Int32)), .val (.ref b1)] [(.int (115 : Int32)), (.int (1 : Int32)), (.ref b1)]) (fun t k => XS.bipush X3.here hx rfl (hb hby d1_15) k) ?_
  obtain ⟨cl4, Ar4, q4, S4, M4, H4, G4⟩ := V_b1
  have hin4 : ¬ ((1 : Int32) < 0 ∨ cl4.slots.size ≤ ((1 : Int32)).toNatClampNeg) := inb_of S4 ⟨by decide, by decide⟩
  obtain ⟨T5, h5, X5, e5, W5, st5⟩ := stC X3 hx hZ e3 Ar4 (j := (1 : Int32)) hin4 (g := (mkF m 17 #[.val (.int (1 : Int32)), .val (.ref b1)] [(.int (115 : Int32)), (.int (1 : Int32)), (.ref b1)])) rfl rfl (hb hby d1_17)
  have V_b1 : Arv Z h5 b1 k1 .char (3 : Int32) [(.int (nar .char (97 : Int32))), (.int (nar .char (115 : Int32))), (.int (0 : Int32))] (.int (0 : Int32)) := Arv.set Ar4 q4 S4 M4 H4 G4 (fits_nar_char _) W5 1 rfl (Nat.le_of_ble_eq_true rfl)
  replace O := O.wr W5 g_b1
  replace K := K.wr W5 (Or.inr sz_b1)
  have N5 := Fr.snoc X5 N3 g_b1
  refine Goes.to (T' := T5) (mkF m 18 #[.val (.int (1 : Int32)), .val (.ref b1)] []) st5 ?_
  refine Goes.to (T' := T5) (mkF m 19 #[.val (.int (1 : Int32)), .val (.ref b1)] [(.ref b1)]) (fun t k => XS.aloadN X5.here hx rfl (hb hby d1_18) rfl rfl k) ?_
  refine Goes.to (T' := T5) (mkF m 20 #[.val (.int (1 : Int32)), .val (.ref b1)] [(.int (2 : Int32)), (.ref b1)]) (fun t k => XS.iconst X5.here hx rfl (hb hby d1_19) k) ?_
  refine Goes.to (T' := T5) (mkF m 22 #[.val (.int (1 : Int32)), .val (.ref b1)] [(.int (107 : Int32)), (.int (2 : Int32)), (.ref b1)]) (fun t k => XS.bipush X5.here hx rfl (hb hby d1_20) k) ?_
  obtain ⟨cl6, Ar6, q6, S6, M6, H6, G6⟩ := V_b1
  have hin6 : ¬ ((2 : Int32) < 0 ∨ cl6.slots.size ≤ ((2 : Int32)).toNatClampNeg) := inb_of S6 ⟨by decide, by decide⟩
  obtain ⟨T7, h7, X7, e7, W7, st7⟩ := stC X5 hx hZ e5 Ar6 (j := (2 : Int32)) hin6 (g := (mkF m 22 #[.val (.int (1 : Int32)), .val (.ref b1)] [(.int (107 : Int32)), (.int (2 : Int32)), (.ref b1)])) rfl rfl (hb hby d1_22)
  have V_b1 : Arv Z h7 b1 k1 .char (3 : Int32) [(.int (nar .char (97 : Int32))), (.int (nar .char (115 : Int32))), (.int (nar .char (107 : Int32)))] (.int (0 : Int32)) := Arv.set Ar6 q6 S6 M6 H6 G6 (fits_nar_char _) W7 2 rfl (Nat.le_of_ble_eq_true rfl)
  replace O := O.wr W7 g_b1
  replace K := K.wr W7 (Or.inr sz_b1)
  have N7 := Fr.snoc X7 N5 g_b1
  refine Goes.to (T' := T7) (mkF m 23 #[.val (.int (1 : Int32)), .val (.ref b1)] []) st7 ?_
  refine Goes.to (T' := T7) (mkF m 41 #[.val (.int (1 : Int32)), .val (.ref b1)] []) (fun t k => XS.goto X7.here hx rfl (pc0 := 23) (pc' := 41) rfl (hb hby d1_23) (by decide) (by decide) k) ?_
  obtain ⟨T8, h8, X8, e8, E8, A8, D8, -, st8⟩ := newO X7 hx hZ hown (hw _ (List.mem_of_getElem? (i := 10) rfl)) (hw _ (List.mem_of_getElem? (i := 11) rfl)) (hw _ (List.mem_of_getElem? (i := 12) rfl)) e7 (g := (mkF m 41 #[.val (.int (1 : Int32)), .val (.ref b1)] [])) rfl (hb hby d1_41) (by decide) (by decide)
  obtain ⟨b8, g8⟩ : ∃ z, z = h7.size := ⟨_, rfl⟩
  rw [← g8] at A8 D8 st8
  have g_b8 : n0 ≤ b8 := Nat.le_trans (O.1 ▸ O.2.1) (Nat.le_of_eq g8.symm)
  have sz_b8 : h0.size ≤ b8 := Nat.le_trans K.1 (Nat.le_of_eq g8.symm)
  have ne_b1_b8 : b1 ≠ b8 := Nat.ne_of_lt (Nat.lt_of_lt_of_le V_b1.lt (Nat.le_of_eq g8.symm))
  replace O := O.ext E8
  replace V_b1 := V_b1.ext E8
  replace K := K.ext E8
  have E_b8 : Exa Z h8 b8 "java/lang/String" := A8
  have F_coder_b8 : Fld Z h8 b8 "java/lang/String" "coder" "B" (.int (0 : Int32)) := D8 (Or.inr (hw _ (List.mem_of_getElem? (i := 36) rfl))) (ty := .byte) (by decide)
  have F_value_b8 : Fld Z h8 b8 "java/lang/String" "value" "[B" .null := D8 (Or.inr (hw _ (List.mem_of_getElem? (i := 38) rfl))) (ty := (.array .byte)) (by decide)
  refine Goes.to (T' := T8) (mkF m 44 #[.val (.int (1 : Int32)), .val (.ref b1)] [(.ref b8)]) st8 ?_
  refine Goes.to (T' := T8) (mkF m 45 #[.val (.int (1 : Int32)), .val (.ref b1)] [(.ref b8), (.ref b8)]) (fun t k => XS.dup X8.here hx rfl (hb hby d1_44) rfl rfl k) ?_
  refine Goes.to (T' := T8) (mkF m 46 #[.val (.int (1 : Int32)), .val (.ref b1)] [(.ref b1), (.ref b8), (.ref b8)]) (fun t k => XS.aloadN X8.here hx rfl (hb hby d1_45) rfl rfl k) ?_
  have hp : ∀ c ∈ ([(nar .char (97 : Int32)), (nar .char (115 : Int32)), (nar .char (107 : Int32))] : List Int32), ¬ c < 0 ∧ ¬ (255 : Int32) < c := by
    intro c hc
    simp only [List.mem_cons, List.not_mem_nil, or_false] at hc
    rcases hc with rfl | rfl | rfl <;> first | exact own_nc hd0 | exact own_nc hd1 | exact own_nc hd2 | decide
  obtain ⟨_, _, ⟨T9, L9, k9, n9⟩, -, X9, ⟨Lc9, hQ9, l9, y9, z9⟩, st9⟩ := X8.specialBack hx (y := (⟨"java/lang/String", "<init>", "([C)V"⟩ : MethodName)) rfl hown (mvT hZ (hw _ (List.mem_of_getElem? (i := 13) rfl))) (mvT hZ (hw _ (List.mem_of_getElem? (i := 14) rfl))) (mvT hZ (hw _ (List.mem_of_getElem? (i := 15) rfl))) (by decide) (StrChars.Road.backV (W := 1) hZ (fun d hd => hw d (own_words d hd)) (kI := 4) (hw _ (List.mem_of_getElem? (i := 11) rfl)) (cs := ([(nar .char (97 : Int32)), (nar .char (115 : Int32)), (nar .char (107 : Int32))] : List Int32)) (bs := (([(nar .char (97 : Int32)), (nar .char (115 : Int32)), (nar .char (107 : Int32))] : List Int32)).map StrChars.lo8) (n := 3) g_b8 (O.1 ▸ O.2.1) E_b8 F_value_b8 F_coder_b8 V_b1 (S_CS.ext O.2) hcz rfl rfl (by decide) (by decide) hp rfl (by decide) (by decide)) (g := (mkF m 46 #[.val (.int (1 : Int32)), .val (.ref b1)] [(.ref b1), (.ref b8), (.ref b8)])) rfl (by rw [hml]; rfl) (Steps.refl _) (a := b8) (argsL := [(.ref b1)]) (rest := [(.ref b8)]) (lenOf pd_0 rfl) rfl (by show 2 * 0 + _ ≤ _; exact Nat.le_of_eq rfl) (hb hby d1_46) (fun _ _ => ⟨rfl, e8, (by decide : 2 + 1 ≤ _), (by decide : 7 + 3 ≤ _)⟩)
  dsimp only [Pt.U, Pt.locs, Pt.cells, Pt.slots] at X9 l9 y9 z9 st9 hQ9
  subst l9 y9 z9
  obtain ⟨rfl, N9, K9, E', F_c, tb, kb, -, -, -, F_v, V_t⟩ := hQ9
  have N9' := Fr.app N7 N9
  replace V_b1 := V_b1.keep K9 (ninS ne_b1_b8 (nin0))
  replace E_b8 := E_b8.keep K9
  replace O := O.keep K9 (allS g_b8 all0)
  replace K := K.trans K9 (allS (Or.inr sz_b8) all0)
  refine Goes.to (T' := T9) (mkF m 49 #[.val (.int (1 : Int32)), .val (.ref b1)] [(.ref b8)]) (fun t k => st9.trans k) ?_
  rw [own_lowA] at V_t
  refine Goes.retA X9 hx Bd.notSynchronized rfl Bd.returns rfl (hb hby d1_49) (by decide) (by decide) ?_
  exact ⟨N9', K, _, _, _, rfl, E', F_v, F_c, V_t⟩
theorem pn_com_example_marktide_marktide_engine_OrderBook_Side : plainName "com/example/marktide/marktide/engine/OrderBook$Side" = true := by first | (simp [plainName, overriddenIn]; done) | decide +kernel
theorem ef_rm_values (m : MethodId)  : entryFrame m #[] 0 = mkF m 0 #[] [] := by first | (simp [entryFrame, mkF, argsToLocals, Value.category]; done) | rfl
def Q_rm_values (Z : State) (va a_BID a_ASK : Addr) (kv : ClassId) (h0 : Heap) (n0 : Nat) (v : Option Value) (h : Heap) (L : List Loc) : Prop := Fr n0 L ∧ Keep h0 h [] ∧ ∃ b : Addr, v = some (.ref b) ∧ n0 ≤ b ∧ Arv Z h b kv (.object "com/example/marktide/marktide/engine/OrderBook$Side") 2 [.ref a_BID, .ref a_ASK] .null
theorem d9_0 : decode prog_24_method_1_code 0 = .ok (.getstatic 10, 3) := by decide +kernel
theorem d9_3 : decode prog_24_method_1_code 3 = .ok (.invokevirtual 14, 3) := by decide +kernel
theorem d9_6 : decode prog_24_method_1_code 6 = .ok (.checkcast 15, 3) := by decide +kernel
theorem d9_9 : decode prog_24_method_1_code 9 = .ok (.areturn, 1) := by decide +kernel
set_option maxRecDepth 65536 in
set_option maxHeartbeats 40000000 in
theorem rm_values (l : Launch) (Z : State) (a0 : Array Value) (hw : ∀ d ∈ tables_1, d.before a0 Z = true) (ws : List Jvm.Cond) (va a_BID a_ASK : Addr) (kv : ClassId) (h0 : Heap) (n0 : Nat) (O : Old Z n0 h0) (S_VALUES : Sta Z Z.heap "com/example/marktide/marktide/engine/OrderBook$Side" "$VALUES" "[Lcom/example/marktide/marktide/engine/OrderBook$Side;" (.ref va)) (V_va : Arv Z Z.heap va kv (.object "com/example/marktide/marktide/engine/OrderBook$Side") 2 [.ref a_BID, .ref a_ASK] .null) (E_va : Exa Z Z.heap va "[Lcom/example/marktide/marktide/engine/OrderBook$Side;") :
    MetFree l (⟨"com/example/marktide/marktide/engine/OrderBook$Side", "values", "()[Lcom/example/marktide/marktide/engine/OrderBook$Side;"⟩ : MethodName) (head1 (Jvm.Cond.code (⟨"com/example/marktide/marktide/engine/OrderBook$Side", "values", "()[Lcom/example/marktide/marktide/engine/OrderBook$Side;"⟩ : MethodName) prog_24_method_1_code 0 (some (.array (.object "com/example/marktide/marktide/engine/OrderBook$Side"))) :: ws) ({ frames := 1, cells := 1, slots := 2, locals := 14 } : Room)) (fun aa U => aa = #[] ∧ Z.Warmed39 U.vm ∧ U.heap = h0) (fun _ _ _ _ _ => True) (fun _ U o U' => ∃ v L, o = .returned v ∧ Q_rm_values Z va a_BID a_ASK kv h0 n0 v U'.heap L ∧ FrameEnd U o U' L ({ frames := 1, cells := 1, slots := 2, locals := 14 } : Room).cells ({ frames := 1, cells := 1, slots := 2, locals := 14 } : Room).slots) := by
  refine MetFree.of_bodySF (plainFor_of_name pn_com_example_marktide_marktide_engine_OrderBook_Side) hisR ?_
  intro p e s m args below meth c s₁ Bd hml0 hP hK
  obtain ⟨rfl, hZ, hh⟩ := hP
  have hx := Bd.exec
  have hby := Bd.bytes
  have hml : c.maxLocals = 0 := hml0
  have hown : s.vm.findClass "com/example/marktide/marktide/engine/OrderBook$Side" = some m.cls := findClass_of_methodNamed Bd.named
  have hnm := (name_of_methodNamed Bd.named Bd.method).1
  have X0 : Stand p l e ({ frames := 1, cells := 1, slots := 2, locals := 14 } : Room) s m #[] below meth c s₁ [] 0 0 := Stand.of_body Bd
  have e0 : s₁.heap = h0 := by rw [← hh, Bd.state]; rfl
  have N0 := Fr.nil n0
  have K : Keep h0 h0 [] := Keep.refl _ _
  show Goes p e below s FrameEnd ({ frames := 1, cells := 1, slots := 2, locals := 14 } : Room).cells ({ frames := 1, cells := 1, slots := 2, locals := 14 } : Room).slots (Q_rm_values Z va a_BID a_ASK kv h0 n0) s₁ (entryFrame m #[] 0)
  refine Goes.cast (ef_rm_values m ) ?_
  obtain ⟨T1, X1, e1, st1⟩ := getS2 X0 hx hZ hown (host := "") (Or.inl (hw _ (List.mem_of_getElem? (i := 45) rfl))) Via.refl e0 (S_VALUES.ext O.2) (g := (mkF m 0 #[] [])) rfl (hb hby d9_0)
  refine Goes.to (T' := T1) (mkF m 3 #[] [(.ref va)]) st1 ?_
  obtain ⟨T2, h2, X2, e2, E2, A2, Q2, st2⟩ := cloneH X1 hx hZ hown (hw _ (List.mem_of_getElem? (i := 47) rfl)) (hw _ (List.mem_of_getElem? (i := 48) rfl)) (hw _ (List.mem_of_getElem? (i := 52) rfl)) (hw _ (List.mem_of_getElem? (i := 50) rfl)) (hw _ (List.mem_of_getElem? (i := 51) rfl)) (hw _ (List.mem_of_getElem? (i := 53) rfl)) e1 ((V_va.ext O.2).arh) (E_va.ext O.2) (g := (mkF m 3 #[] [(.ref va)])) rfl (by rw [hml]; rfl) rfl (hb hby d9_3) (by decide) (W := 0) (by show 2 * 0 + _ ≤ _; exact Nat.le_of_eq rfl) (by decide) (cap := 2) (by decide) (by decide) (by decide)
  obtain ⟨b2, g2⟩ : ∃ z, z = h0.size := ⟨_, rfl⟩
  rw [← g2] at A2 Q2 st2
  have g_b2 : n0 ≤ b2 := Nat.le_trans (O.1 ▸ O.2.1) (Nat.le_of_eq g2.symm)
  have sz_b2 : h0.size ≤ b2 := Nat.le_trans K.1 (Nat.le_of_eq g2.symm)
  replace O := O.ext E2
  replace K := K.ext E2
  have V_b2 : Arv Z h2 b2 kv (.object "com/example/marktide/marktide/engine/OrderBook$Side") 2 [.ref a_BID, .ref a_ASK] .null := A2
  have E_b2 := Q2
  refine Goes.to (T' := T2) (mkF m 6 #[] [(.ref b2)]) st2 ?_
  obtain ⟨T3, X3, e3, st3⟩ := castY X2 hx hZ hown (hw _ (List.mem_of_getElem? (i := 55) rfl)) e2 (Ins.self E_b2) (g := (mkF m 6 #[] [(.ref b2)])) rfl rfl (hb hby d9_6)
  refine Goes.to (T' := T3) (mkF m 9 #[] [(.ref b2)]) st3 ?_
  refine Goes.retA X3 hx Bd.notSynchronized rfl Bd.returns rfl (hb hby d9_9) (by decide) (by decide) ?_
  rw [e3]
  exact ⟨N0, K, _, rfl, g_b2, V_b2⟩
theorem ef_rm_namedB (m : MethodId) (x0 : Addr) : entryFrame m #[(.ref x0)] 5 = mkF m 0 #[.val (.ref x0), .unset, .unset, .unset, .unset] [] := by first | (simp [entryFrame, mkF, argsToLocals, Value.category]; done) | rfl
def Q_rm_namedB (Z : State) (x t1 : Addr) (kx : ClassId) (cs : List Int32) (N2 : Int32) (vs : List Value) (va a_BID a_ASK lBID lASK tBID tASK : Addr) (kv kBID kASK : ClassId) (cz : Int32) (h0 : Heap) (n0 : Nat) (v : Option Value) (h : Heap) (L : List Loc) : Prop := v = some (.ref a_BID) ∧ Fr n0 L ∧ Keep h0 h []
theorem d8_0 : decode prog_24_method_4_code 0 = .ok (.invokestatic 37, 3) := by decide +kernel
theorem pd_1 : parseMethodDescriptor "()[Lcom/example/marktide/marktide/engine/OrderBook$Side;" = some ⟨[], some (.array (.object "com/example/marktide/marktide/engine/OrderBook$Side"))⟩ := by decide +kernel
theorem d8_3 : decode prog_24_method_4_code 3 = .ok (.astore_n 1, 1) := by decide +kernel
theorem d8_4 : decode prog_24_method_4_code 4 = .ok (.aload_n 1, 1) := by decide +kernel
theorem d8_5 : decode prog_24_method_4_code 5 = .ok (.arraylength, 1) := by decide +kernel
theorem d8_6 : decode prog_24_method_4_code 6 = .ok (.istore_n 2, 1) := by decide +kernel
theorem d8_7 : decode prog_24_method_4_code 7 = .ok (.iconst 0, 1) := by decide +kernel
theorem d8_8 : decode prog_24_method_4_code 8 = .ok (.istore_n 3, 1) := by decide +kernel
theorem d8_9 : decode prog_24_method_4_code 9 = .ok (.iload_n 3, 1) := by decide +kernel
theorem d8_10 : decode prog_24_method_4_code 10 = .ok (.iload_n 2, 1) := by decide +kernel
theorem d8_11 : decode prog_24_method_4_code 11 = .ok (.if_icmp .ge 29, 3) := by decide +kernel
theorem d8_14 : decode prog_24_method_4_code 14 = .ok (.aload_n 1, 1) := by decide +kernel
theorem d8_15 : decode prog_24_method_4_code 15 = .ok (.iload_n 3, 1) := by decide +kernel
theorem d8_16 : decode prog_24_method_4_code 16 = .ok (.aaload, 1) := by decide +kernel
theorem d8_17 : decode prog_24_method_4_code 17 = .ok (.astore 4, 2) := by decide +kernel
theorem d8_19 : decode prog_24_method_4_code 19 = .ok (.aload 4, 2) := by decide +kernel
theorem d8_21 : decode prog_24_method_4_code 21 = .ok (.getfield 29, 3) := by decide +kernel
theorem d8_24 : decode prog_24_method_4_code 24 = .ok (.aload_n 0, 1) := by decide +kernel
theorem d8_25 : decode prog_24_method_4_code 25 = .ok (.invokevirtual 41, 3) := by decide +kernel
theorem pd_2 : parseMethodDescriptor "(Ljava/lang/Object;)Z" = some ⟨[(.object "java/lang/Object")], some .boolean⟩ := by decide +kernel
theorem d8_28 : decode prog_24_method_4_code 28 = .ok (.ifCond .eq 6, 3) := by decide +kernel
theorem d8_31 : decode prog_24_method_4_code 31 = .ok (.aload 4, 2) := by decide +kernel
theorem d8_33 : decode prog_24_method_4_code 33 = .ok (.areturn, 1) := by decide +kernel
set_option maxRecDepth 65536 in
set_option maxHeartbeats 40000000 in
theorem rm_namedB (l : Launch) (Z : State) (a0 : Array Value) (hw : ∀ d ∈ tables_1, d.before a0 Z = true) (ws : List Jvm.Cond) (x t1 : Addr) (kx : ClassId) (cs : List Int32) (N2 : Int32) (vs : List Value) (va a_BID a_ASK lBID lASK tBID tASK : Addr) (kv kBID kASK : ClassId) (cz : Int32) (h0 : Heap) (n0 : Nat) (O : Old Z n0 h0) (E_x : Exa Z h0 x "java/lang/String") (F_v : Fld Z h0 x "java/lang/String" "value" "[B" (.ref t1)) (F_c : Fld Z h0 x "java/lang/String" "coder" "B" (.int 0)) (V_t1 : Arv Z h0 t1 kx .byte N2 vs (.int 0)) (hcd : StrChars.Road.CodA cs 0 N2 vs) (hbd : ∀ c ∈ cs, ¬ c < 0 ∧ ¬ (65535 : Int32) < c) (hl : cs.length ≤ 4000) (hq : cs = [(98 : Int32), (105 : Int32), (100 : Int32)]) (S_VALUES : Sta Z Z.heap "com/example/marktide/marktide/engine/OrderBook$Side" "$VALUES" "[Lcom/example/marktide/marktide/engine/OrderBook$Side;" (.ref va)) (V_va : Arv Z Z.heap va kv (.object "com/example/marktide/marktide/engine/OrderBook$Side") 2 [.ref a_BID, .ref a_ASK] .null) (E_va : Exa Z Z.heap va "[Lcom/example/marktide/marktide/engine/OrderBook$Side;") (F_lBID : Fld Z Z.heap a_BID "com/example/marktide/marktide/engine/OrderBook$Side" "label" "Ljava/lang/String;" (.ref lBID)) (E_lBID : Exa Z Z.heap lBID "java/lang/String") (F_vBID : Fld Z Z.heap lBID "java/lang/String" "value" "[B" (.ref tBID)) (F_cBID : Fld Z Z.heap lBID "java/lang/String" "coder" "B" (.int 0)) (V_tBID : Arv Z Z.heap tBID kBID .byte 3 [(.int (98 : Int32)), (.int (105 : Int32)), (.int (100 : Int32))] (.int 0)) (F_lASK : Fld Z Z.heap a_ASK "com/example/marktide/marktide/engine/OrderBook$Side" "label" "Ljava/lang/String;" (.ref lASK)) (E_lASK : Exa Z Z.heap lASK "java/lang/String") (F_vASK : Fld Z Z.heap lASK "java/lang/String" "value" "[B" (.ref tASK)) (F_cASK : Fld Z Z.heap lASK "java/lang/String" "coder" "B" (.int 0)) (V_tASK : Arv Z Z.heap tASK kASK .byte 3 [(.int (97 : Int32)), (.int (115 : Int32)), (.int (107 : Int32))] (.int 0)) (S_CS : Sta Z Z.heap "java/lang/String" "COMPACT_STRINGS" "Z" (.int cz)) (hcz : ¬ cz = 0) :
    MetFree l (⟨"com/example/marktide/marktide/engine/OrderBook$Side", "named", "(Ljava/lang/String;)Lcom/example/marktide/marktide/engine/OrderBook$Side;"⟩ : MethodName) (head1 (Jvm.Cond.code (⟨"com/example/marktide/marktide/engine/OrderBook$Side", "named", "(Ljava/lang/String;)Lcom/example/marktide/marktide/engine/OrderBook$Side;"⟩ : MethodName) prog_24_method_4_code 5 (some (.object "com/example/marktide/marktide/engine/OrderBook$Side")) :: ws) ({ frames := 3, cells := 1, slots := 2, locals := 60 } : Room)) (fun aa U => aa = #[(.ref x)] ∧ Z.Warmed39 U.vm ∧ U.heap = h0) (fun _ _ _ _ _ => True) (fun _ U o U' => ∃ v L, o = .returned v ∧ Q_rm_namedB Z x t1 kx cs N2 vs va a_BID a_ASK lBID lASK tBID tASK kv kBID kASK cz h0 n0 v U'.heap L ∧ FrameEnd U o U' L ({ frames := 3, cells := 1, slots := 2, locals := 60 } : Room).cells ({ frames := 3, cells := 1, slots := 2, locals := 60 } : Room).slots) := by
  refine MetFree.of_bodySF (plainFor_of_name pn_com_example_marktide_marktide_engine_OrderBook_Side) hisR ?_
  intro p e s m args below meth c s₁ Bd hml0 hP hK
  obtain ⟨rfl, hZ, hh⟩ := hP
  have hx := Bd.exec
  have hby := Bd.bytes
  have hml : c.maxLocals = 5 := hml0
  have hown : s.vm.findClass "com/example/marktide/marktide/engine/OrderBook$Side" = some m.cls := findClass_of_methodNamed Bd.named
  have hnm := (name_of_methodNamed Bd.named Bd.method).1
  have X0 : Stand p l e ({ frames := 3, cells := 1, slots := 2, locals := 60 } : Room) s m #[(.ref x)] below meth c s₁ [] 0 0 := Stand.of_body Bd
  have e0 : s₁.heap = h0 := by rw [← hh, Bd.state]; rfl
  have N0 := Fr.nil n0
  have K : Keep h0 h0 [] := Keep.refl _ _
  show Goes p e below s FrameEnd ({ frames := 3, cells := 1, slots := 2, locals := 60 } : Room).cells ({ frames := 3, cells := 1, slots := 2, locals := 60 } : Room).slots (Q_rm_namedB Z x t1 kx cs N2 vs va a_BID a_ASK lBID lASK tBID tASK kv kBID kASK cz h0 n0) s₁ (entryFrame m #[(.ref x)] 5)
  refine Goes.cast (ef_rm_namedB m x) ?_
  obtain ⟨_, _, ⟨T1, L1, k1, n1⟩, -, X1, ⟨Lc1, hQ1, l1, y1, z1⟩, st1⟩ := Jvm.LawKit.callS X0 hx (y := (⟨"com/example/marktide/marktide/engine/OrderBook$Side", "values", "()[Lcom/example/marktide/marktide/engine/OrderBook$Side;"⟩ : MethodName)) hown (mvT hZ (hw _ (List.mem_of_getElem? (i := 42) rfl))) (mvT hZ (hw _ (List.mem_of_getElem? (i := 43) rfl))) (mvT hZ (hw _ (List.mem_of_getElem? (i := 1) rfl))) (mvT hZ (hw _ (List.mem_of_getElem? (i := 44) rfl))) (by decide) (backOf (W := 0) (rm_values l Z a0 hw [] va a_BID a_ASK kv h0 n0 O S_VALUES V_va E_va) hZ (hw _ (List.mem_of_getElem? (i := 44) rfl)) (hw _ (List.mem_of_getElem? (i := 1) rfl)) (by decide) (by decide)) (g := (mkF m 0 #[.val (.ref x), .unset, .unset, .unset, .unset] [])) rfl (by rw [hml]; rfl) (argsL := []) (rest := []) (lenOf pd_1 rfl) rfl (by show 2 * 0 + _ ≤ _; exact Nat.le_of_eq rfl) (hb hby d8_0) (fun _ _ => ⟨rfl, e0, (by decide : 0 + 1 ≤ _), (by decide : 0 + 2 ≤ _)⟩)
  dsimp only [Pt.U, Pt.locs, Pt.cells, Pt.slots] at X1 l1 y1 z1 st1 hQ1
  subst l1 y1 z1
  obtain ⟨N1, K1, vb, rfl, g_vb, V_vb⟩ := hQ1
  have N1' := Fr.app N0 N1
  replace E_x := E_x.keep K1
  replace F_v := F_v.keep K1 nin0
  replace F_c := F_c.keep K1 nin0
  replace V_t1 := V_t1.keep K1 nin0
  replace O := O.keep K1 all0
  replace K := K.trans K1 all0
  refine Goes.to (T' := T1) (mkF m 3 #[.val (.ref x), .unset, .unset, .unset, .unset] [(.ref vb)]) (fun t k => st1 t k) ?_
  refine Goes.to (T' := T1) (mkF m 4 #[.val (.ref x), .val (.ref vb), .unset, .unset, .unset] []) (fun t k => XS.astoreN X1.here hx rfl (hb hby d8_3) rfl rfl (l' := #[.val (.ref x), .val (.ref vb), .unset, .unset, .unset]) rfl k) ?_
  refine Goes.to (T' := T1) (mkF m 5 #[.val (.ref x), .val (.ref vb), .unset, .unset, .unset] [(.ref vb)]) (fun t k => XS.aloadN X1.here hx rfl (hb hby d8_4) rfl rfl k) ?_
  have V'_vb := V_vb
  obtain ⟨cl2, Ar2, -, S2, M2, -, -⟩ := V'_vb
  refine Goes.to (T' := T1) (mkF m 6 #[.val (.ref x), .val (.ref vb), .unset, .unset, .unset] [(.int (2 : Int32))]) (fun t k => X1.arraylength hx Ar2.1 (State.isArrayOf_alike hZ.alike Ar2.2.1) (g := (mkF m 5 #[.val (.ref x), .val (.ref vb), .unset, .unset, .unset] [(.ref vb)])) rfl rfl (hb hby d8_5) _ (by rw [len_of S2 M2]; exact k)) ?_
  refine Goes.to (T' := T1) (mkF m 7 #[.val (.ref x), .val (.ref vb), .val (.int (2 : Int32)), .unset, .unset] []) (fun t k => XS.istoreN X1.here hx rfl (hb hby d8_6) rfl (l' := #[.val (.ref x), .val (.ref vb), .val (.int (2 : Int32)), .unset, .unset]) rfl k) ?_
  refine Goes.to (T' := T1) (mkF m 8 #[.val (.ref x), .val (.ref vb), .val (.int (2 : Int32)), .unset, .unset] [(.int (0 : Int32))]) (fun t k => XS.iconst X1.here hx rfl (hb hby d8_7) k) ?_
  refine Goes.to (T' := T1) (mkF m 9 #[.val (.ref x), .val (.ref vb), .val (.int (2 : Int32)), .val (.int (0 : Int32)), .unset] []) (fun t k => XS.istoreN X1.here hx rfl (hb hby d8_8) rfl (l' := #[.val (.ref x), .val (.ref vb), .val (.int (2 : Int32)), .val (.int (0 : Int32)), .unset]) rfl k) ?_
  refine Goes.to (T' := T1) (mkF m 10 #[.val (.ref x), .val (.ref vb), .val (.int (2 : Int32)), .val (.int (0 : Int32)), .unset] [(.int (0 : Int32))]) (fun t k => XS.iloadN X1.here hx rfl (hb hby d8_9) rfl k) ?_
  refine Goes.to (T' := T1) (mkF m 11 #[.val (.ref x), .val (.ref vb), .val (.int (2 : Int32)), .val (.int (0 : Int32)), .unset] [(.int (2 : Int32)), (.int (0 : Int32))]) (fun t k => XS.iloadN X1.here hx rfl (hb hby d8_10) rfl k) ?_
  refine Goes.to (T' := T1) (mkF m 14 #[.val (.ref x), .val (.ref vb), .val (.int (2 : Int32)), .val (.int (0 : Int32)), .unset] []) (fun t k => XS.icmpNo X1.here hx rfl (hb hby d8_11) rfl (tlt ((by decide) : (0 : Int32) < (2 : Int32))).2.1 k) ?_
  refine Goes.to (T' := T1) (mkF m 15 #[.val (.ref x), .val (.ref vb), .val (.int (2 : Int32)), .val (.int (0 : Int32)), .unset] [(.ref vb)]) (fun t k => XS.aloadN X1.here hx rfl (hb hby d8_14) rfl rfl k) ?_
  refine Goes.to (T' := T1) (mkF m 16 #[.val (.ref x), .val (.ref vb), .val (.int (2 : Int32)), .val (.int (0 : Int32)), .unset] [(.int (0 : Int32)), (.ref vb)]) (fun t k => XS.iloadN X1.here hx rfl (hb hby d8_15) rfl k) ?_
  have V'_vb := V_vb
  obtain ⟨cl3, Ar3, -, S3, M3, H3, -⟩ := V'_vb
  have hin3 : ¬ ((0 : Int32) < 0 ∨ cl3.slots.size ≤ ((0 : Int32)).toNatClampNeg) := inb_of S3 ⟨by decide, by decide⟩
  have hat3 : cl3.slots[((0 : Int32)).toNatClampNeg]? = some (.ref a_BID) := H3.at hin3 rfl
  refine Goes.to (T' := T1) (mkF m 17 #[.val (.ref x), .val (.ref vb), .val (.int (2 : Int32)), .val (.int (0 : Int32)), .unset] [(.ref a_BID)]) (fun t k => X1.aaload hx (j := (0 : Int32)) (v := (.ref a_BID)) Ar3.1 (State.isArrayOf_alike hZ.alike Ar3.2.1) rfl Ar3.2.2 hin3 hat3 (g := (mkF m 16 #[.val (.ref x), .val (.ref vb), .val (.int (2 : Int32)), .val (.int (0 : Int32)), .unset] [(.int (0 : Int32)), (.ref vb)])) rfl rfl (hb hby d8_16) _ k) ?_
  refine Goes.to (T' := T1) (mkF m 19 #[.val (.ref x), .val (.ref vb), .val (.int (2 : Int32)), .val (.int (0 : Int32)), .val (.ref a_BID)] []) (fun t k => XS.astore X1.here hx rfl (hb hby d8_17) rfl rfl (l' := #[.val (.ref x), .val (.ref vb), .val (.int (2 : Int32)), .val (.int (0 : Int32)), .val (.ref a_BID)]) rfl k) ?_
  refine Goes.to (T' := T1) (mkF m 21 #[.val (.ref x), .val (.ref vb), .val (.int (2 : Int32)), .val (.int (0 : Int32)), .val (.ref a_BID)] [(.ref a_BID)]) (fun t k => XS.aload X1.here hx rfl (hb hby d8_19) rfl rfl k) ?_
  obtain ⟨T4, X4, e4, st4⟩ := getF X1 hx hZ hown (host := "") (Or.inl (hw _ (List.mem_of_getElem? (i := 57) rfl))) Via.refl rfl (F_lBID.ext O.2) (g := (mkF m 21 #[.val (.ref x), .val (.ref vb), .val (.int (2 : Int32)), .val (.int (0 : Int32)), .val (.ref a_BID)] [(.ref a_BID)])) rfl rfl (hb hby d8_21)
  refine Goes.to (T' := T4) (mkF m 24 #[.val (.ref x), .val (.ref vb), .val (.int (2 : Int32)), .val (.int (0 : Int32)), .val (.ref a_BID)] [(.ref lBID)]) st4 ?_
  refine Goes.to (T' := T4) (mkF m 25 #[.val (.ref x), .val (.ref vb), .val (.int (2 : Int32)), .val (.int (0 : Int32)), .val (.ref a_BID)] [(.ref x), (.ref lBID)]) (fun t k => XS.aloadN X4.here hx rfl (hb hby d8_24) rfl rfl k) ?_
  obtain ⟨cq5, kq5, q5a, q5b, q5c⟩ := isOf hZ e4 (E_lBID.ext O.2)
  obtain ⟨_, _, ⟨T5, L5, k5, n5⟩, -, X5, ⟨Lc5, hQ5, l5, y5, z5⟩, st5⟩ := X4.virtualBack hx (y := (⟨"java/lang/String", "equals", "(Ljava/lang/Object;)Z"⟩ : MethodName)) (z := (⟨"java/lang/String", "equals", "(Ljava/lang/Object;)Z"⟩ : MethodName)) hown (mvT hZ (hw _ (List.mem_of_getElem? (i := 59) rfl))) (mvT hZ (hw _ (List.mem_of_getElem? (i := 60) rfl))) (notFace_of_selects (args := #[]) (mvT hZ (hw _ (List.mem_of_getElem? (i := 62) rfl)))) (mvT hZ (hw _ (List.mem_of_getElem? (i := 62) rfl))) (mvT hZ (hw _ (List.mem_of_getElem? (i := 61) rfl))) (by decide) (own_eqv (n0 := n0) (StrChars.Road.eqW (W := 0) hZ (fun d hd => hw d (own_wordsE d hd)) (kI := 4) (hw _ (List.mem_of_getElem? (i := 11) rfl)) (E_lBID.ext O.2) (F_vBID.ext O.2) (F_cBID.ext O.2) (V_tBID.ext O.2) own_codB own_bdB (by decide) E_x F_v F_c V_t1 hcd hbd hl (S_CS.ext O.2) hcz (by decide) (by decide))) q5a q5c (g := (mkF m 25 #[.val (.ref x), .val (.ref vb), .val (.int (2 : Int32)), .val (.int (0 : Int32)), .val (.ref a_BID)] [(.ref x), (.ref lBID)])) rfl (by rw [hml]; rfl) (Steps.refl _) (argsL := [(.ref x)]) (rest := []) (lenOf pd_2 rfl) rfl (by show 2 * 0 + _ ≤ _; exact Nat.le_of_eq rfl) (hb hby d8_25) (fun _ _ => ⟨rfl, e4, (by decide : 1 + 0 ≤ _), (by decide : 2 + 0 ≤ _)⟩)
  dsimp only [Pt.U, Pt.locs, Pt.cells, Pt.slots] at X5 l5 y5 z5 st5 hQ5
  subst l5 y5 z5
  obtain ⟨rfl, N5, hs5⟩ := hQ5
  have N5' := Fr.app N1' N5
  refine Goes.to (T' := T5) (mkF m 28 #[.val (.ref x), .val (.ref vb), .val (.int (2 : Int32)), .val (.int (0 : Int32)), .val (.ref a_BID)] [(.int (bit ([(98 : Int32), (105 : Int32), (100 : Int32)] = cs)))]) (fun t k => st5.trans k) ?_
  refine Goes.to (T' := T5) (mkF m 31 #[.val (.ref x), .val (.ref vb), .val (.int (2 : Int32)), .val (.int (0 : Int32)), .val (.ref a_BID)] []) (fun t k => XS.ifNo X5.here hx rfl (hb hby d8_28) rfl ((if0 _ _).trans (feq (by subst hq; decide : ¬ ((bit ([(98 : Int32), (105 : Int32), (100 : Int32)] = cs)) = (0 : Int32)))).1) k) ?_
  refine Goes.to (T' := T5) (mkF m 33 #[.val (.ref x), .val (.ref vb), .val (.int (2 : Int32)), .val (.int (0 : Int32)), .val (.ref a_BID)] [(.ref a_BID)]) (fun t k => XS.aload X5.here hx rfl (hb hby d8_31) rfl rfl k) ?_
  refine Goes.retA X5 hx Bd.notSynchronized rfl Bd.returns rfl (hb hby d8_33) (by decide) (by decide) ?_
  rw [hs5]
  exact ⟨rfl, N5', K⟩
theorem ef_rm_namedA (m : MethodId) (x0 : Addr) : entryFrame m #[(.ref x0)] 5 = mkF m 0 #[.val (.ref x0), .unset, .unset, .unset, .unset] [] := by first | (simp [entryFrame, mkF, argsToLocals, Value.category]; done) | rfl
def Q_rm_namedA (Z : State) (x t1 : Addr) (kx : ClassId) (cs : List Int32) (N2 : Int32) (vs : List Value) (va a_BID a_ASK lBID lASK tBID tASK : Addr) (kv kBID kASK : ClassId) (cz : Int32) (h0 : Heap) (n0 : Nat) (v : Option Value) (h : Heap) (L : List Loc) : Prop := v = some (.ref a_ASK) ∧ Fr n0 L ∧ Keep h0 h []
theorem d8_34 : decode prog_24_method_4_code 34 = .ok (.iinc 3 1, 3) := by decide +kernel
theorem d8_37 : decode prog_24_method_4_code 37 = .ok (.goto (-28), 3) := by decide +kernel
set_option maxRecDepth 65536 in
set_option maxHeartbeats 40000000 in
theorem rm_namedA (l : Launch) (Z : State) (a0 : Array Value) (hw : ∀ d ∈ tables_1, d.before a0 Z = true) (ws : List Jvm.Cond) (x t1 : Addr) (kx : ClassId) (cs : List Int32) (N2 : Int32) (vs : List Value) (va a_BID a_ASK lBID lASK tBID tASK : Addr) (kv kBID kASK : ClassId) (cz : Int32) (h0 : Heap) (n0 : Nat) (O : Old Z n0 h0) (E_x : Exa Z h0 x "java/lang/String") (F_v : Fld Z h0 x "java/lang/String" "value" "[B" (.ref t1)) (F_c : Fld Z h0 x "java/lang/String" "coder" "B" (.int 0)) (V_t1 : Arv Z h0 t1 kx .byte N2 vs (.int 0)) (hcd : StrChars.Road.CodA cs 0 N2 vs) (hbd : ∀ c ∈ cs, ¬ c < 0 ∧ ¬ (65535 : Int32) < c) (hl : cs.length ≤ 4000) (hq : cs = [(97 : Int32), (115 : Int32), (107 : Int32)]) (S_VALUES : Sta Z Z.heap "com/example/marktide/marktide/engine/OrderBook$Side" "$VALUES" "[Lcom/example/marktide/marktide/engine/OrderBook$Side;" (.ref va)) (V_va : Arv Z Z.heap va kv (.object "com/example/marktide/marktide/engine/OrderBook$Side") 2 [.ref a_BID, .ref a_ASK] .null) (E_va : Exa Z Z.heap va "[Lcom/example/marktide/marktide/engine/OrderBook$Side;") (F_lBID : Fld Z Z.heap a_BID "com/example/marktide/marktide/engine/OrderBook$Side" "label" "Ljava/lang/String;" (.ref lBID)) (E_lBID : Exa Z Z.heap lBID "java/lang/String") (F_vBID : Fld Z Z.heap lBID "java/lang/String" "value" "[B" (.ref tBID)) (F_cBID : Fld Z Z.heap lBID "java/lang/String" "coder" "B" (.int 0)) (V_tBID : Arv Z Z.heap tBID kBID .byte 3 [(.int (98 : Int32)), (.int (105 : Int32)), (.int (100 : Int32))] (.int 0)) (F_lASK : Fld Z Z.heap a_ASK "com/example/marktide/marktide/engine/OrderBook$Side" "label" "Ljava/lang/String;" (.ref lASK)) (E_lASK : Exa Z Z.heap lASK "java/lang/String") (F_vASK : Fld Z Z.heap lASK "java/lang/String" "value" "[B" (.ref tASK)) (F_cASK : Fld Z Z.heap lASK "java/lang/String" "coder" "B" (.int 0)) (V_tASK : Arv Z Z.heap tASK kASK .byte 3 [(.int (97 : Int32)), (.int (115 : Int32)), (.int (107 : Int32))] (.int 0)) (S_CS : Sta Z Z.heap "java/lang/String" "COMPACT_STRINGS" "Z" (.int cz)) (hcz : ¬ cz = 0) :
    MetFree l (⟨"com/example/marktide/marktide/engine/OrderBook$Side", "named", "(Ljava/lang/String;)Lcom/example/marktide/marktide/engine/OrderBook$Side;"⟩ : MethodName) (head1 (Jvm.Cond.code (⟨"com/example/marktide/marktide/engine/OrderBook$Side", "named", "(Ljava/lang/String;)Lcom/example/marktide/marktide/engine/OrderBook$Side;"⟩ : MethodName) prog_24_method_4_code 5 (some (.object "com/example/marktide/marktide/engine/OrderBook$Side")) :: ws) ({ frames := 3, cells := 1, slots := 2, locals := 60 } : Room)) (fun aa U => aa = #[(.ref x)] ∧ Z.Warmed39 U.vm ∧ U.heap = h0) (fun _ _ _ _ _ => True) (fun _ U o U' => ∃ v L, o = .returned v ∧ Q_rm_namedA Z x t1 kx cs N2 vs va a_BID a_ASK lBID lASK tBID tASK kv kBID kASK cz h0 n0 v U'.heap L ∧ FrameEnd U o U' L ({ frames := 3, cells := 1, slots := 2, locals := 60 } : Room).cells ({ frames := 3, cells := 1, slots := 2, locals := 60 } : Room).slots) := by
  refine MetFree.of_bodySF (plainFor_of_name pn_com_example_marktide_marktide_engine_OrderBook_Side) hisR ?_
  intro p e s m args below meth c s₁ Bd hml0 hP hK
  obtain ⟨rfl, hZ, hh⟩ := hP
  have hx := Bd.exec
  have hby := Bd.bytes
  have hml : c.maxLocals = 5 := hml0
  have hown : s.vm.findClass "com/example/marktide/marktide/engine/OrderBook$Side" = some m.cls := findClass_of_methodNamed Bd.named
  have hnm := (name_of_methodNamed Bd.named Bd.method).1
  have X0 : Stand p l e ({ frames := 3, cells := 1, slots := 2, locals := 60 } : Room) s m #[(.ref x)] below meth c s₁ [] 0 0 := Stand.of_body Bd
  have e0 : s₁.heap = h0 := by rw [← hh, Bd.state]; rfl
  have N0 := Fr.nil n0
  have K : Keep h0 h0 [] := Keep.refl _ _
  show Goes p e below s FrameEnd ({ frames := 3, cells := 1, slots := 2, locals := 60 } : Room).cells ({ frames := 3, cells := 1, slots := 2, locals := 60 } : Room).slots (Q_rm_namedA Z x t1 kx cs N2 vs va a_BID a_ASK lBID lASK tBID tASK kv kBID kASK cz h0 n0) s₁ (entryFrame m #[(.ref x)] 5)
  refine Goes.cast (ef_rm_namedA m x) ?_
  obtain ⟨_, _, ⟨T1, L1, k1, n1⟩, -, X1, ⟨Lc1, hQ1, l1, y1, z1⟩, st1⟩ := Jvm.LawKit.callS X0 hx (y := (⟨"com/example/marktide/marktide/engine/OrderBook$Side", "values", "()[Lcom/example/marktide/marktide/engine/OrderBook$Side;"⟩ : MethodName)) hown (mvT hZ (hw _ (List.mem_of_getElem? (i := 42) rfl))) (mvT hZ (hw _ (List.mem_of_getElem? (i := 43) rfl))) (mvT hZ (hw _ (List.mem_of_getElem? (i := 1) rfl))) (mvT hZ (hw _ (List.mem_of_getElem? (i := 44) rfl))) (by decide) (backOf (W := 0) (rm_values l Z a0 hw [] va a_BID a_ASK kv h0 n0 O S_VALUES V_va E_va) hZ (hw _ (List.mem_of_getElem? (i := 44) rfl)) (hw _ (List.mem_of_getElem? (i := 1) rfl)) (by decide) (by decide)) (g := (mkF m 0 #[.val (.ref x), .unset, .unset, .unset, .unset] [])) rfl (by rw [hml]; rfl) (argsL := []) (rest := []) (lenOf pd_1 rfl) rfl (by show 2 * 0 + _ ≤ _; exact Nat.le_of_eq rfl) (hb hby d8_0) (fun _ _ => ⟨rfl, e0, (by decide : 0 + 1 ≤ _), (by decide : 0 + 2 ≤ _)⟩)
  dsimp only [Pt.U, Pt.locs, Pt.cells, Pt.slots] at X1 l1 y1 z1 st1 hQ1
  subst l1 y1 z1
  obtain ⟨N1, K1, vb, rfl, g_vb, V_vb⟩ := hQ1
  have N1' := Fr.app N0 N1
  replace E_x := E_x.keep K1
  replace F_v := F_v.keep K1 nin0
  replace F_c := F_c.keep K1 nin0
  replace V_t1 := V_t1.keep K1 nin0
  replace O := O.keep K1 all0
  replace K := K.trans K1 all0
  refine Goes.to (T' := T1) (mkF m 3 #[.val (.ref x), .unset, .unset, .unset, .unset] [(.ref vb)]) (fun t k => st1 t k) ?_
  refine Goes.to (T' := T1) (mkF m 4 #[.val (.ref x), .val (.ref vb), .unset, .unset, .unset] []) (fun t k => XS.astoreN X1.here hx rfl (hb hby d8_3) rfl rfl (l' := #[.val (.ref x), .val (.ref vb), .unset, .unset, .unset]) rfl k) ?_
  refine Goes.to (T' := T1) (mkF m 5 #[.val (.ref x), .val (.ref vb), .unset, .unset, .unset] [(.ref vb)]) (fun t k => XS.aloadN X1.here hx rfl (hb hby d8_4) rfl rfl k) ?_
  have V'_vb := V_vb
  obtain ⟨cl2, Ar2, -, S2, M2, -, -⟩ := V'_vb
  refine Goes.to (T' := T1) (mkF m 6 #[.val (.ref x), .val (.ref vb), .unset, .unset, .unset] [(.int (2 : Int32))]) (fun t k => X1.arraylength hx Ar2.1 (State.isArrayOf_alike hZ.alike Ar2.2.1) (g := (mkF m 5 #[.val (.ref x), .val (.ref vb), .unset, .unset, .unset] [(.ref vb)])) rfl rfl (hb hby d8_5) _ (by rw [len_of S2 M2]; exact k)) ?_
  refine Goes.to (T' := T1) (mkF m 7 #[.val (.ref x), .val (.ref vb), .val (.int (2 : Int32)), .unset, .unset] []) (fun t k => XS.istoreN X1.here hx rfl (hb hby d8_6) rfl (l' := #[.val (.ref x), .val (.ref vb), .val (.int (2 : Int32)), .unset, .unset]) rfl k) ?_
  refine Goes.to (T' := T1) (mkF m 8 #[.val (.ref x), .val (.ref vb), .val (.int (2 : Int32)), .unset, .unset] [(.int (0 : Int32))]) (fun t k => XS.iconst X1.here hx rfl (hb hby d8_7) k) ?_
  refine Goes.to (T' := T1) (mkF m 9 #[.val (.ref x), .val (.ref vb), .val (.int (2 : Int32)), .val (.int (0 : Int32)), .unset] []) (fun t k => XS.istoreN X1.here hx rfl (hb hby d8_8) rfl (l' := #[.val (.ref x), .val (.ref vb), .val (.int (2 : Int32)), .val (.int (0 : Int32)), .unset]) rfl k) ?_
  refine Goes.to (T' := T1) (mkF m 10 #[.val (.ref x), .val (.ref vb), .val (.int (2 : Int32)), .val (.int (0 : Int32)), .unset] [(.int (0 : Int32))]) (fun t k => XS.iloadN X1.here hx rfl (hb hby d8_9) rfl k) ?_
  refine Goes.to (T' := T1) (mkF m 11 #[.val (.ref x), .val (.ref vb), .val (.int (2 : Int32)), .val (.int (0 : Int32)), .unset] [(.int (2 : Int32)), (.int (0 : Int32))]) (fun t k => XS.iloadN X1.here hx rfl (hb hby d8_10) rfl k) ?_
  refine Goes.to (T' := T1) (mkF m 14 #[.val (.ref x), .val (.ref vb), .val (.int (2 : Int32)), .val (.int (0 : Int32)), .unset] []) (fun t k => XS.icmpNo X1.here hx rfl (hb hby d8_11) rfl (tlt ((by decide) : (0 : Int32) < (2 : Int32))).2.1 k) ?_
  refine Goes.to (T' := T1) (mkF m 15 #[.val (.ref x), .val (.ref vb), .val (.int (2 : Int32)), .val (.int (0 : Int32)), .unset] [(.ref vb)]) (fun t k => XS.aloadN X1.here hx rfl (hb hby d8_14) rfl rfl k) ?_
  refine Goes.to (T' := T1) (mkF m 16 #[.val (.ref x), .val (.ref vb), .val (.int (2 : Int32)), .val (.int (0 : Int32)), .unset] [(.int (0 : Int32)), (.ref vb)]) (fun t k => XS.iloadN X1.here hx rfl (hb hby d8_15) rfl k) ?_
  have V'_vb := V_vb
  obtain ⟨cl3, Ar3, -, S3, M3, H3, -⟩ := V'_vb
  have hin3 : ¬ ((0 : Int32) < 0 ∨ cl3.slots.size ≤ ((0 : Int32)).toNatClampNeg) := inb_of S3 ⟨by decide, by decide⟩
  have hat3 : cl3.slots[((0 : Int32)).toNatClampNeg]? = some (.ref a_BID) := H3.at hin3 rfl
  refine Goes.to (T' := T1) (mkF m 17 #[.val (.ref x), .val (.ref vb), .val (.int (2 : Int32)), .val (.int (0 : Int32)), .unset] [(.ref a_BID)]) (fun t k => X1.aaload hx (j := (0 : Int32)) (v := (.ref a_BID)) Ar3.1 (State.isArrayOf_alike hZ.alike Ar3.2.1) rfl Ar3.2.2 hin3 hat3 (g := (mkF m 16 #[.val (.ref x), .val (.ref vb), .val (.int (2 : Int32)), .val (.int (0 : Int32)), .unset] [(.int (0 : Int32)), (.ref vb)])) rfl rfl (hb hby d8_16) _ k) ?_
  refine Goes.to (T' := T1) (mkF m 19 #[.val (.ref x), .val (.ref vb), .val (.int (2 : Int32)), .val (.int (0 : Int32)), .val (.ref a_BID)] []) (fun t k => XS.astore X1.here hx rfl (hb hby d8_17) rfl rfl (l' := #[.val (.ref x), .val (.ref vb), .val (.int (2 : Int32)), .val (.int (0 : Int32)), .val (.ref a_BID)]) rfl k) ?_
  refine Goes.to (T' := T1) (mkF m 21 #[.val (.ref x), .val (.ref vb), .val (.int (2 : Int32)), .val (.int (0 : Int32)), .val (.ref a_BID)] [(.ref a_BID)]) (fun t k => XS.aload X1.here hx rfl (hb hby d8_19) rfl rfl k) ?_
  obtain ⟨T4, X4, e4, st4⟩ := getF X1 hx hZ hown (host := "") (Or.inl (hw _ (List.mem_of_getElem? (i := 57) rfl))) Via.refl rfl (F_lBID.ext O.2) (g := (mkF m 21 #[.val (.ref x), .val (.ref vb), .val (.int (2 : Int32)), .val (.int (0 : Int32)), .val (.ref a_BID)] [(.ref a_BID)])) rfl rfl (hb hby d8_21)
  refine Goes.to (T' := T4) (mkF m 24 #[.val (.ref x), .val (.ref vb), .val (.int (2 : Int32)), .val (.int (0 : Int32)), .val (.ref a_BID)] [(.ref lBID)]) st4 ?_
  refine Goes.to (T' := T4) (mkF m 25 #[.val (.ref x), .val (.ref vb), .val (.int (2 : Int32)), .val (.int (0 : Int32)), .val (.ref a_BID)] [(.ref x), (.ref lBID)]) (fun t k => XS.aloadN X4.here hx rfl (hb hby d8_24) rfl rfl k) ?_
  obtain ⟨cq5, kq5, q5a, q5b, q5c⟩ := isOf hZ e4 (E_lBID.ext O.2)
  obtain ⟨_, _, ⟨T5, L5, k5, n5⟩, -, X5, ⟨Lc5, hQ5, l5, y5, z5⟩, st5⟩ := X4.virtualBack hx (y := (⟨"java/lang/String", "equals", "(Ljava/lang/Object;)Z"⟩ : MethodName)) (z := (⟨"java/lang/String", "equals", "(Ljava/lang/Object;)Z"⟩ : MethodName)) hown (mvT hZ (hw _ (List.mem_of_getElem? (i := 59) rfl))) (mvT hZ (hw _ (List.mem_of_getElem? (i := 60) rfl))) (notFace_of_selects (args := #[]) (mvT hZ (hw _ (List.mem_of_getElem? (i := 62) rfl)))) (mvT hZ (hw _ (List.mem_of_getElem? (i := 62) rfl))) (mvT hZ (hw _ (List.mem_of_getElem? (i := 61) rfl))) (by decide) (own_eqv (n0 := n0) (StrChars.Road.eqW (W := 0) hZ (fun d hd => hw d (own_wordsE d hd)) (kI := 4) (hw _ (List.mem_of_getElem? (i := 11) rfl)) (E_lBID.ext O.2) (F_vBID.ext O.2) (F_cBID.ext O.2) (V_tBID.ext O.2) own_codB own_bdB (by decide) E_x F_v F_c V_t1 hcd hbd hl (S_CS.ext O.2) hcz (by decide) (by decide))) q5a q5c (g := (mkF m 25 #[.val (.ref x), .val (.ref vb), .val (.int (2 : Int32)), .val (.int (0 : Int32)), .val (.ref a_BID)] [(.ref x), (.ref lBID)])) rfl (by rw [hml]; rfl) (Steps.refl _) (argsL := [(.ref x)]) (rest := []) (lenOf pd_2 rfl) rfl (by show 2 * 0 + _ ≤ _; exact Nat.le_of_eq rfl) (hb hby d8_25) (fun _ _ => ⟨rfl, e4, (by decide : 1 + 0 ≤ _), (by decide : 2 + 0 ≤ _)⟩)
  dsimp only [Pt.U, Pt.locs, Pt.cells, Pt.slots] at X5 l5 y5 z5 st5 hQ5
  subst l5 y5 z5
  obtain ⟨rfl, N5, hs5⟩ := hQ5
  have N5' := Fr.app N1' N5
  refine Goes.to (T' := T5) (mkF m 28 #[.val (.ref x), .val (.ref vb), .val (.int (2 : Int32)), .val (.int (0 : Int32)), .val (.ref a_BID)] [(.int (bit ([(98 : Int32), (105 : Int32), (100 : Int32)] = cs)))]) (fun t k => st5.trans k) ?_
  refine Goes.to (T' := T5) (mkF m 34 #[.val (.ref x), .val (.ref vb), .val (.int (2 : Int32)), .val (.int (0 : Int32)), .val (.ref a_BID)] []) (fun t k => XS.ifYes X5.here hx rfl (pc0 := 28) (pc' := 34) rfl (hb hby d8_28) rfl ((if0 _ _).trans (teq (by subst hq; decide : (bit ([(98 : Int32), (105 : Int32), (100 : Int32)] = cs)) = (0 : Int32))).1) (by decide) (by decide) k) ?_
  refine Goes.to (T' := T5) (mkF m 37 #[.val (.ref x), .val (.ref vb), .val (.int (2 : Int32)), .val (.int (1 : Int32)), .val (.ref a_BID)] []) (fun t k => XS.iinc X5.here hx rfl (hb hby d8_34) rfl (l' := #[.val (.ref x), .val (.ref vb), .val (.int (2 : Int32)), .val (.int (1 : Int32)), .val (.ref a_BID)]) rfl k) ?_
  refine Goes.to (T' := T5) (mkF m 9 #[.val (.ref x), .val (.ref vb), .val (.int (2 : Int32)), .val (.int (1 : Int32)), .val (.ref a_BID)] []) (fun t k => XS.goto X5.here hx rfl (pc0 := 37) (pc' := 9) rfl (hb hby d8_37) (by decide) (by decide) k) ?_
  refine Goes.to (T' := T5) (mkF m 10 #[.val (.ref x), .val (.ref vb), .val (.int (2 : Int32)), .val (.int (1 : Int32)), .val (.ref a_BID)] [(.int (1 : Int32))]) (fun t k => XS.iloadN X5.here hx rfl (hb hby d8_9) rfl k) ?_
  refine Goes.to (T' := T5) (mkF m 11 #[.val (.ref x), .val (.ref vb), .val (.int (2 : Int32)), .val (.int (1 : Int32)), .val (.ref a_BID)] [(.int (2 : Int32)), (.int (1 : Int32))]) (fun t k => XS.iloadN X5.here hx rfl (hb hby d8_10) rfl k) ?_
  refine Goes.to (T' := T5) (mkF m 14 #[.val (.ref x), .val (.ref vb), .val (.int (2 : Int32)), .val (.int (1 : Int32)), .val (.ref a_BID)] []) (fun t k => XS.icmpNo X5.here hx rfl (hb hby d8_11) rfl (tlt ((by decide) : (1 : Int32) < (2 : Int32))).2.1 k) ?_
  refine Goes.to (T' := T5) (mkF m 15 #[.val (.ref x), .val (.ref vb), .val (.int (2 : Int32)), .val (.int (1 : Int32)), .val (.ref a_BID)] [(.ref vb)]) (fun t k => XS.aloadN X5.here hx rfl (hb hby d8_14) rfl rfl k) ?_
  refine Goes.to (T' := T5) (mkF m 16 #[.val (.ref x), .val (.ref vb), .val (.int (2 : Int32)), .val (.int (1 : Int32)), .val (.ref a_BID)] [(.int (1 : Int32)), (.ref vb)]) (fun t k => XS.iloadN X5.here hx rfl (hb hby d8_15) rfl k) ?_
  have V'_vb := V_vb
  obtain ⟨cl6, Ar6, -, S6, M6, H6, -⟩ := V'_vb
  have hin6 : ¬ ((1 : Int32) < 0 ∨ cl6.slots.size ≤ ((1 : Int32)).toNatClampNeg) := inb_of S6 ⟨by decide, by decide⟩
  have hat6 : cl6.slots[((1 : Int32)).toNatClampNeg]? = some (.ref a_ASK) := H6.at hin6 rfl
  refine Goes.to (T' := T5) (mkF m 17 #[.val (.ref x), .val (.ref vb), .val (.int (2 : Int32)), .val (.int (1 : Int32)), .val (.ref a_BID)] [(.ref a_ASK)]) (fun t k => X5.aaload hx (j := (1 : Int32)) (v := (.ref a_ASK)) (by rw [hs5]; exact Ar6.1) (State.isArrayOf_alike hZ.alike Ar6.2.1) rfl Ar6.2.2 hin6 hat6 (g := (mkF m 16 #[.val (.ref x), .val (.ref vb), .val (.int (2 : Int32)), .val (.int (1 : Int32)), .val (.ref a_BID)] [(.int (1 : Int32)), (.ref vb)])) rfl rfl (hb hby d8_16) _ k) ?_
  refine Goes.to (T' := T5) (mkF m 19 #[.val (.ref x), .val (.ref vb), .val (.int (2 : Int32)), .val (.int (1 : Int32)), .val (.ref a_ASK)] []) (fun t k => XS.astore X5.here hx rfl (hb hby d8_17) rfl rfl (l' := #[.val (.ref x), .val (.ref vb), .val (.int (2 : Int32)), .val (.int (1 : Int32)), .val (.ref a_ASK)]) rfl k) ?_
  refine Goes.to (T' := T5) (mkF m 21 #[.val (.ref x), .val (.ref vb), .val (.int (2 : Int32)), .val (.int (1 : Int32)), .val (.ref a_ASK)] [(.ref a_ASK)]) (fun t k => XS.aload X5.here hx rfl (hb hby d8_19) rfl rfl k) ?_
  obtain ⟨T7, X7, e7, st7⟩ := getF X5 hx hZ hown (host := "") (Or.inl (hw _ (List.mem_of_getElem? (i := 57) rfl))) Via.refl hs5 (F_lASK.ext O.2) (g := (mkF m 21 #[.val (.ref x), .val (.ref vb), .val (.int (2 : Int32)), .val (.int (1 : Int32)), .val (.ref a_ASK)] [(.ref a_ASK)])) rfl rfl (hb hby d8_21)
  refine Goes.to (T' := T7) (mkF m 24 #[.val (.ref x), .val (.ref vb), .val (.int (2 : Int32)), .val (.int (1 : Int32)), .val (.ref a_ASK)] [(.ref lASK)]) st7 ?_
  refine Goes.to (T' := T7) (mkF m 25 #[.val (.ref x), .val (.ref vb), .val (.int (2 : Int32)), .val (.int (1 : Int32)), .val (.ref a_ASK)] [(.ref x), (.ref lASK)]) (fun t k => XS.aloadN X7.here hx rfl (hb hby d8_24) rfl rfl k) ?_
  obtain ⟨cq8, kq8, q8a, q8b, q8c⟩ := isOf hZ e7 (E_lASK.ext O.2)
  obtain ⟨_, _, ⟨T8, L8, k8, n8⟩, -, X8, ⟨Lc8, hQ8, l8, y8, z8⟩, st8⟩ := X7.virtualBack hx (y := (⟨"java/lang/String", "equals", "(Ljava/lang/Object;)Z"⟩ : MethodName)) (z := (⟨"java/lang/String", "equals", "(Ljava/lang/Object;)Z"⟩ : MethodName)) hown (mvT hZ (hw _ (List.mem_of_getElem? (i := 59) rfl))) (mvT hZ (hw _ (List.mem_of_getElem? (i := 60) rfl))) (notFace_of_selects (args := #[]) (mvT hZ (hw _ (List.mem_of_getElem? (i := 62) rfl)))) (mvT hZ (hw _ (List.mem_of_getElem? (i := 62) rfl))) (mvT hZ (hw _ (List.mem_of_getElem? (i := 61) rfl))) (by decide) (own_eqv (n0 := n0) (StrChars.Road.eqW (W := 0) hZ (fun d hd => hw d (own_wordsE d hd)) (kI := 4) (hw _ (List.mem_of_getElem? (i := 11) rfl)) (E_lASK.ext O.2) (F_vASK.ext O.2) (F_cASK.ext O.2) (V_tASK.ext O.2) own_codA own_bdA (by decide) E_x F_v F_c V_t1 hcd hbd hl (S_CS.ext O.2) hcz (by decide) (by decide))) q8a q8c (g := (mkF m 25 #[.val (.ref x), .val (.ref vb), .val (.int (2 : Int32)), .val (.int (1 : Int32)), .val (.ref a_ASK)] [(.ref x), (.ref lASK)])) rfl (by rw [hml]; rfl) (Steps.refl _) (argsL := [(.ref x)]) (rest := []) (lenOf pd_2 rfl) rfl (by show 2 * 0 + _ ≤ _; exact Nat.le_of_eq rfl) (hb hby d8_25) (fun _ _ => ⟨rfl, e7, (by decide : 1 + 0 ≤ _), (by decide : 2 + 0 ≤ _)⟩)
  dsimp only [Pt.U, Pt.locs, Pt.cells, Pt.slots] at X8 l8 y8 z8 st8 hQ8
  subst l8 y8 z8
  obtain ⟨rfl, N8, hs8⟩ := hQ8
  have N8' := Fr.app N5' N8
  refine Goes.to (T' := T8) (mkF m 28 #[.val (.ref x), .val (.ref vb), .val (.int (2 : Int32)), .val (.int (1 : Int32)), .val (.ref a_ASK)] [(.int (bit ([(97 : Int32), (115 : Int32), (107 : Int32)] = cs)))]) (fun t k => st8.trans k) ?_
  refine Goes.to (T' := T8) (mkF m 31 #[.val (.ref x), .val (.ref vb), .val (.int (2 : Int32)), .val (.int (1 : Int32)), .val (.ref a_ASK)] []) (fun t k => XS.ifNo X8.here hx rfl (hb hby d8_28) rfl ((if0 _ _).trans (feq (by subst hq; decide : ¬ ((bit ([(97 : Int32), (115 : Int32), (107 : Int32)] = cs)) = (0 : Int32)))).1) k) ?_
  refine Goes.to (T' := T8) (mkF m 33 #[.val (.ref x), .val (.ref vb), .val (.int (2 : Int32)), .val (.int (1 : Int32)), .val (.ref a_ASK)] [(.ref a_ASK)]) (fun t k => XS.aload X8.here hx rfl (hb hby d8_31) rfl rfl k) ?_
  refine Goes.retA X8 hx Bd.notSynchronized rfl Bd.returns rfl (hb hby d8_33) (by decide) (by decide) ?_
  rw [hs8]
  exact ⟨rfl, N8', K⟩
theorem ef_rm_tsBID (m : MethodId) (x0 : Addr) : entryFrame m #[(.ref x0)] 1 = mkF m 0 #[.val (.ref x0)] [] := by first | (simp [entryFrame, mkF, argsToLocals, Value.category]; done) | rfl
def Q_rm_tsBID (Z : State) (a lBID : Addr) (h0 : Heap) (n0 : Nat) (v : Option Value) (h : Heap) (L : List Loc) : Prop := v = some (.ref lBID) ∧ Fr n0 L ∧ h = h0
theorem d12_0 : decode prog_24_method_5_code 0 = .ok (.aload_n 0, 1) := by decide +kernel
theorem d12_1 : decode prog_24_method_5_code 1 = .ok (.getfield 29, 3) := by decide +kernel
theorem d12_4 : decode prog_24_method_5_code 4 = .ok (.areturn, 1) := by decide +kernel
set_option maxRecDepth 65536 in
set_option maxHeartbeats 40000000 in
theorem rm_tsBID (l : Launch) (Z : State) (a0 : Array Value) (hw : ∀ d ∈ tables_1, d.before a0 Z = true) (ws : List Jvm.Cond) (a lBID : Addr) (h0 : Heap) (n0 : Nat) (O : Old Z n0 h0) (F_l : Fld Z Z.heap a "com/example/marktide/marktide/engine/OrderBook$Side" "label" "Ljava/lang/String;" (.ref lBID)) :
    MetFree l (⟨"com/example/marktide/marktide/engine/OrderBook$Side", "toString", "()Ljava/lang/String;"⟩ : MethodName) (head1 (Jvm.Cond.code (⟨"com/example/marktide/marktide/engine/OrderBook$Side", "toString", "()Ljava/lang/String;"⟩ : MethodName) prog_24_method_5_code 1 (some (.object "java/lang/String")) :: ws) ({ frames := 0, cells := 0, slots := 0, locals := 0 } : Room)) (fun aa U => aa = #[(.ref a)] ∧ Z.Warmed39 U.vm ∧ U.heap = h0) (fun _ _ _ _ _ => True) (fun _ U o U' => ∃ v L, o = .returned v ∧ Q_rm_tsBID Z a lBID h0 n0 v U'.heap L ∧ FrameEnd U o U' L ({ frames := 0, cells := 0, slots := 0, locals := 0 } : Room).cells ({ frames := 0, cells := 0, slots := 0, locals := 0 } : Room).slots) := by
  refine MetFree.of_bodySF (plainFor_of_name pn_com_example_marktide_marktide_engine_OrderBook_Side) hisR ?_
  intro p e s m args below meth c s₁ Bd hml0 hP hK
  obtain ⟨rfl, hZ, hh⟩ := hP
  have hx := Bd.exec
  have hby := Bd.bytes
  have hml : c.maxLocals = 1 := hml0
  have hown : s.vm.findClass "com/example/marktide/marktide/engine/OrderBook$Side" = some m.cls := findClass_of_methodNamed Bd.named
  have hnm := (name_of_methodNamed Bd.named Bd.method).1
  have X0 : Stand p l e ({ frames := 0, cells := 0, slots := 0, locals := 0 } : Room) s m #[(.ref a)] below meth c s₁ [] 0 0 := Stand.of_body Bd
  have e0 : s₁.heap = h0 := by rw [← hh, Bd.state]; rfl
  have N0 := Fr.nil n0
  show Goes p e below s FrameEnd ({ frames := 0, cells := 0, slots := 0, locals := 0 } : Room).cells ({ frames := 0, cells := 0, slots := 0, locals := 0 } : Room).slots (Q_rm_tsBID Z a lBID h0 n0) s₁ (entryFrame m #[(.ref a)] 1)
  refine Goes.cast (ef_rm_tsBID m a) ?_
  refine Goes.to (T' := s₁) (mkF m 1 #[.val (.ref a)] [(.ref a)]) (fun t k => XS.aloadN X0.here hx rfl (hb hby d12_0) rfl rfl k) ?_
  obtain ⟨T1, X1, e1, st1⟩ := getF X0 hx hZ hown (host := "") (Or.inl (hw _ (List.mem_of_getElem? (i := 57) rfl))) Via.refl e0 (F_l.ext O.2) (g := (mkF m 1 #[.val (.ref a)] [(.ref a)])) rfl rfl (hb hby d12_1)
  refine Goes.to (T' := T1) (mkF m 4 #[.val (.ref a)] [(.ref lBID)]) st1 ?_
  refine Goes.retA X1 hx Bd.notSynchronized rfl Bd.returns rfl (hb hby d12_4) (by decide) (by decide) ?_
  rw [e1]
  exact ⟨rfl, N0, rfl⟩
theorem ef_rm_tsASK (m : MethodId) (x0 : Addr) : entryFrame m #[(.ref x0)] 1 = mkF m 0 #[.val (.ref x0)] [] := by first | (simp [entryFrame, mkF, argsToLocals, Value.category]; done) | rfl
def Q_rm_tsASK (Z : State) (a lASK : Addr) (h0 : Heap) (n0 : Nat) (v : Option Value) (h : Heap) (L : List Loc) : Prop := v = some (.ref lASK) ∧ Fr n0 L ∧ h = h0
set_option maxRecDepth 65536 in
set_option maxHeartbeats 40000000 in
theorem rm_tsASK (l : Launch) (Z : State) (a0 : Array Value) (hw : ∀ d ∈ tables_1, d.before a0 Z = true) (ws : List Jvm.Cond) (a lASK : Addr) (h0 : Heap) (n0 : Nat) (O : Old Z n0 h0) (F_l : Fld Z Z.heap a "com/example/marktide/marktide/engine/OrderBook$Side" "label" "Ljava/lang/String;" (.ref lASK)) :
    MetFree l (⟨"com/example/marktide/marktide/engine/OrderBook$Side", "toString", "()Ljava/lang/String;"⟩ : MethodName) (head1 (Jvm.Cond.code (⟨"com/example/marktide/marktide/engine/OrderBook$Side", "toString", "()Ljava/lang/String;"⟩ : MethodName) prog_24_method_5_code 1 (some (.object "java/lang/String")) :: ws) ({ frames := 0, cells := 0, slots := 0, locals := 0 } : Room)) (fun aa U => aa = #[(.ref a)] ∧ Z.Warmed39 U.vm ∧ U.heap = h0) (fun _ _ _ _ _ => True) (fun _ U o U' => ∃ v L, o = .returned v ∧ Q_rm_tsASK Z a lASK h0 n0 v U'.heap L ∧ FrameEnd U o U' L ({ frames := 0, cells := 0, slots := 0, locals := 0 } : Room).cells ({ frames := 0, cells := 0, slots := 0, locals := 0 } : Room).slots) := by
  refine MetFree.of_bodySF (plainFor_of_name pn_com_example_marktide_marktide_engine_OrderBook_Side) hisR ?_
  intro p e s m args below meth c s₁ Bd hml0 hP hK
  obtain ⟨rfl, hZ, hh⟩ := hP
  have hx := Bd.exec
  have hby := Bd.bytes
  have hml : c.maxLocals = 1 := hml0
  have hown : s.vm.findClass "com/example/marktide/marktide/engine/OrderBook$Side" = some m.cls := findClass_of_methodNamed Bd.named
  have hnm := (name_of_methodNamed Bd.named Bd.method).1
  have X0 : Stand p l e ({ frames := 0, cells := 0, slots := 0, locals := 0 } : Room) s m #[(.ref a)] below meth c s₁ [] 0 0 := Stand.of_body Bd
  have e0 : s₁.heap = h0 := by rw [← hh, Bd.state]; rfl
  have N0 := Fr.nil n0
  show Goes p e below s FrameEnd ({ frames := 0, cells := 0, slots := 0, locals := 0 } : Room).cells ({ frames := 0, cells := 0, slots := 0, locals := 0 } : Room).slots (Q_rm_tsASK Z a lASK h0 n0) s₁ (entryFrame m #[(.ref a)] 1)
  refine Goes.cast (ef_rm_tsASK m a) ?_
  refine Goes.to (T' := s₁) (mkF m 1 #[.val (.ref a)] [(.ref a)]) (fun t k => XS.aloadN X0.here hx rfl (hb hby d12_0) rfl rfl k) ?_
  obtain ⟨T1, X1, e1, st1⟩ := getF X0 hx hZ hown (host := "") (Or.inl (hw _ (List.mem_of_getElem? (i := 57) rfl))) Via.refl e0 (F_l.ext O.2) (g := (mkF m 1 #[.val (.ref a)] [(.ref a)])) rfl rfl (hb hby d12_1)
  refine Goes.to (T' := T1) (mkF m 4 #[.val (.ref a)] [(.ref lASK)]) st1 ?_
  refine Goes.retA X1 hx Bd.notSynchronized rfl Bd.returns rfl (hb hby d12_4) (by decide) (by decide) ?_
  rw [e1]
  exact ⟨rfl, N0, rfl⟩
theorem ef_rm_law (m : MethodId) (x0 : Int32) (x1 : Int32) (x2 : Int32) (x3 : Int32) : entryFrame m #[(.int x0), (.int x1), (.int x2), (.int x3)] maxLocals = mkF m 0 #[.val (.int x0), .val (.int x1), .val (.int x2), .val (.int x3), .unset, .unset, .unset, .unset, .unset, .unset] [] := by first | (simp [entryFrame, mkF, argsToLocals, Value.category, maxLocals]; done) | rfl
def Q_rm_law (Z : State) (p0 p1 p2 p3 : Int32) (va a_BID a_ASK lBID lASK tBID tASK : Addr) (kv kBID kASK : ClassId) (cz : Int32) (h0 : Heap) (n0 : Nat) (v : Option Value) (h : Heap) (L : List Loc) : Prop := v = some (.int 1) ∧ Fr n0 L
theorem own_strs : ∀ a ∈ Bundle.stringAtoms, a ∈ tables_1 := by decide +kernel
theorem pd_3 : parseMethodDescriptor "(Z)Ljava/lang/String;" = some ⟨[.boolean], some (.object "java/lang/String")⟩ := by decide +kernel
theorem pd_4 : parseMethodDescriptor "(Ljava/lang/String;)Lcom/example/marktide/marktide/engine/OrderBook$Side;" = some ⟨[(.object "java/lang/String")], some (.object "com/example/marktide/marktide/engine/OrderBook$Side")⟩ := by decide +kernel
theorem pd_5 : parseMethodDescriptor "()Ljava/lang/String;" = some ⟨[], some (.object "java/lang/String")⟩ := by decide +kernel
set_option maxRecDepth 65536 in
set_option maxHeartbeats 40000000 in
theorem rm_law (l : Launch) (Z : State) (a0 : Array Value) (hw : ∀ d ∈ tables_1, d.before a0 Z = true) (ws : List Jvm.Cond) (p0 p1 p2 p3 : Int32) (va a_BID a_ASK lBID lASK tBID tASK : Addr) (kv kBID kASK : ClassId) (cz : Int32) (h0 : Heap) (n0 : Nat) (O : Old Z n0 h0) (S_VALUES : Sta Z Z.heap "com/example/marktide/marktide/engine/OrderBook$Side" "$VALUES" "[Lcom/example/marktide/marktide/engine/OrderBook$Side;" (.ref va)) (V_va : Arv Z Z.heap va kv (.object "com/example/marktide/marktide/engine/OrderBook$Side") 2 [.ref a_BID, .ref a_ASK] .null) (E_va : Exa Z Z.heap va "[Lcom/example/marktide/marktide/engine/OrderBook$Side;") (F_lBID : Fld Z Z.heap a_BID "com/example/marktide/marktide/engine/OrderBook$Side" "label" "Ljava/lang/String;" (.ref lBID)) (E_lBID : Exa Z Z.heap lBID "java/lang/String") (F_vBID : Fld Z Z.heap lBID "java/lang/String" "value" "[B" (.ref tBID)) (F_cBID : Fld Z Z.heap lBID "java/lang/String" "coder" "B" (.int 0)) (V_tBID : Arv Z Z.heap tBID kBID .byte 3 [(.int (98 : Int32)), (.int (105 : Int32)), (.int (100 : Int32))] (.int 0)) (F_lASK : Fld Z Z.heap a_ASK "com/example/marktide/marktide/engine/OrderBook$Side" "label" "Ljava/lang/String;" (.ref lASK)) (E_lASK : Exa Z Z.heap lASK "java/lang/String") (F_vASK : Fld Z Z.heap lASK "java/lang/String" "value" "[B" (.ref tASK)) (F_cASK : Fld Z Z.heap lASK "java/lang/String" "coder" "B" (.int 0)) (V_tASK : Arv Z Z.heap tASK kASK .byte 3 [(.int (97 : Int32)), (.int (115 : Int32)), (.int (107 : Int32))] (.int 0)) (S_CS : Sta Z Z.heap "java/lang/String" "COMPACT_STRINGS" "Z" (.int cz)) (hcz : ¬ cz = 0) (S_BID : Sta Z Z.heap "com/example/marktide/marktide/engine/OrderBook$Side" "BID" "Lcom/example/marktide/marktide/engine/OrderBook$Side;" (.ref a_BID)) (S_ASK : Sta Z Z.heap "com/example/marktide/marktide/engine/OrderBook$Side" "ASK" "Lcom/example/marktide/marktide/engine/OrderBook$Side;" (.ref a_ASK)) (E_BID : Exa Z Z.heap a_BID "com/example/marktide/marktide/engine/OrderBook$Side") (E_ASK : Exa Z Z.heap a_ASK "com/example/marktide/marktide/engine/OrderBook$Side") :
    MetFree l x (head1 (Jvm.Cond.code x code maxLocals ret :: ws) room_1) (fun aa U => aa = #[(.int p0), (.int p1), (.int p2), (.int p3)] ∧ Z.Warmed39 U.vm ∧ U.heap = h0 ∧ CHv Z consts_1 U.vm h0) (fun _ _ _ _ _ => True) (fun _ U o U' => ∃ v L, o = .returned v ∧ Q_rm_law Z p0 p1 p2 p3 va a_BID a_ASK lBID lASK tBID tASK kv kBID kASK cz h0 n0 v U'.heap L ∧ ReturnedEndW U o U' L room_1.cells room_1.slots) := by
  refine MetFree.of_bodySF (plainFor_of_name pn_com_example_marktide_marktide_engine_SideNamedPinLaw) hisR ?_
  intro p e s m args below meth c s₁ Bd hml0 hP hK
  obtain ⟨rfl, hZ, hh, hC⟩ := hP
  have hx := Bd.exec
  have hby := Bd.bytes
  have hml : c.maxLocals = 10 := hml0
  have hown : s.vm.findClass "com/example/marktide/marktide/engine/SideNamedPinLaw" = some m.cls := findClass_of_methodNamed Bd.named
  have hnm := (name_of_methodNamed Bd.named Bd.method).1
  have X0 : Stand p l e room_1 (s.setVm s.vm) m #[(.int p0), (.int p1), (.int p2), (.int p3)] below meth c s₁ [] 0 0 := Stand.of_body Bd
  have e0 : s₁.heap = h0 := by rw [← hh, Bd.state]; rfl
  have N0 := Fr.nil n0
  have hS0 : s.Since s.vm 0 := (State.WarmedH.refl s).since 0
  have hk0 : 0 ≤ h0.size := Nat.zero_le _
  replace hZ : Z.Warmed39 (s.setVm s.vm).vm := hZ
  replace hown : (s.setVm s.vm).vm.findClass "com/example/marktide/marktide/engine/SideNamedPinLaw" = some m.cls := hown
  have C : CHr Z consts_1 s.vm s.heap s.vm h0 := by rw [hh]; exact CHr.refl hC
  have hEL : EW Z a0 consts_1 := own_EW hw
  show Goes p e below s ReturnedEndW room_1.cells room_1.slots (Q_rm_law Z p0 p1 p2 p3 va a_BID a_ASK lBID lASK tBID tASK kv kBID kASK cz h0 n0) s₁ (entryFrame m #[(.int p0), (.int p1), (.int p2), (.int p3)] maxLocals)
  refine Goes.cast (ef_rm_law m p0 p1 p2 p3) ?_
  refine Goes.to (T' := s₁) (mkF m 1 #[.val (.int p0), .val (.int p1), .val (.int p2), .val (.int p3), .unset, .unset, .unset, .unset, .unset, .unset] [(.int p0)]) (fun t k => XS.iloadN X0.here hx rfl (hb hby at_0) rfl k) ?_
  refine Goes.to (T' := s₁) (mkF m 2 #[.val (.int p0), .val (.int p1), .val (.int p2), .val (.int p3), .unset, .unset, .unset, .unset, .unset, .unset] [(.int (1 : Int32)), (.int p0)]) (fun t k => XS.iconst X0.here hx rfl (hb hby at_1) k) ?_
  refine Goes.to (T' := s₁) (mkF m 3 #[.val (.int p0), .val (.int p1), .val (.int p2), .val (.int p3), .unset, .unset, .unset, .unset, .unset, .unset] [(.int (p0 &&& (1 : Int32)))]) (fun t k => XS.iand X0.here hx rfl (hb hby at_2) rfl k) ?_
  by_cases hc3_1 : (p0 &&& (1 : Int32)) = (0 : Int32)
  · refine Goes.to (T' := s₁) (mkF m 10 #[.val (.int p0), .val (.int p1), .val (.int p2), .val (.int p3), .unset, .unset, .unset, .unset, .unset, .unset] []) (fun t k => XS.ifYes X0.here hx rfl (pc0 := 3) (pc' := 10) rfl (hb hby at_3) rfl ((if0 _ _).trans (teq hc3_1).1) (by decide) (by decide) k) ?_
    refine Goes.to (T' := s₁) (mkF m 11 #[.val (.int p0), .val (.int p1), .val (.int p2), .val (.int p3), .unset, .unset, .unset, .unset, .unset, .unset] [(.int (0 : Int32))]) (fun t k => XS.iconst X0.here hx rfl (hb hby at_10) k) ?_
    refine Goes.to (T' := s₁) (mkF m 13 #[.val (.int p0), .val (.int p1), .val (.int p2), .val (.int p3), .val (.int (0 : Int32)), .unset, .unset, .unset, .unset, .unset] []) (fun t k => XS.istore X0.here hx rfl (hb hby at_11) rfl (l' := #[.val (.int p0), .val (.int p1), .val (.int p2), .val (.int p3), .val (.int (0 : Int32)), .unset, .unset, .unset, .unset, .unset]) rfl k) ?_
    refine Goes.to (T' := s₁) (mkF m 15 #[.val (.int p0), .val (.int p1), .val (.int p2), .val (.int p3), .val (.int (0 : Int32)), .unset, .unset, .unset, .unset, .unset] [(.int (0 : Int32))]) (fun t k => XS.iload X0.here hx rfl (hb hby at_13) rfl k) ?_
    refine Goes.to (T' := s₁) (mkF m 24 #[.val (.int p0), .val (.int p1), .val (.int p2), .val (.int p3), .val (.int (0 : Int32)), .unset, .unset, .unset, .unset, .unset] []) (fun t k => XS.ifYes X0.here hx rfl (pc0 := 15) (pc' := 24) rfl (hb hby at_15) rfl ((if0 _ _).trans (teq ((by decide) : (0 : Int32) = (0 : Int32))).1) (by decide) (by decide) k) ?_
    obtain ⟨T2, X2, e2, st2⟩ := getS2 X0 hx hZ hown (host := "") (Or.inl (hw _ (List.mem_of_getElem? (i := 0) rfl))) Via.refl e0 (S_BID.ext O.2) (g := (mkF m 24 #[.val (.int p0), .val (.int p1), .val (.int p2), .val (.int p3), .val (.int (0 : Int32)), .unset, .unset, .unset, .unset, .unset] [])) rfl (hb hby at_24)
    refine Goes.to (T' := T2) (mkF m 27 #[.val (.int p0), .val (.int p1), .val (.int p2), .val (.int p3), .val (.int (0 : Int32)), .unset, .unset, .unset, .unset, .unset] [(.ref a_BID)]) st2 ?_
    refine Goes.to (T' := T2) (mkF m 29 #[.val (.int p0), .val (.int p1), .val (.int p2), .val (.int p3), .val (.int (0 : Int32)), .val (.ref a_BID), .unset, .unset, .unset, .unset] []) (fun t k => XS.astore X2.here hx rfl (hb hby at_27) rfl rfl (l' := #[.val (.int p0), .val (.int p1), .val (.int p2), .val (.int p3), .val (.int (0 : Int32)), .val (.ref a_BID), .unset, .unset, .unset, .unset]) rfl k) ?_
    refine Goes.to (T' := T2) (mkF m 31 #[.val (.int p0), .val (.int p1), .val (.int p2), .val (.int p3), .val (.int (0 : Int32)), .val (.ref a_BID), .unset, .unset, .unset, .unset] [(.int (0 : Int32))]) (fun t k => XS.iload X2.here hx rfl (hb hby at_29) rfl k) ?_
    refine Goes.to (T' := T2) (mkF m 40 #[.val (.int p0), .val (.int p1), .val (.int p2), .val (.int p3), .val (.int (0 : Int32)), .val (.ref a_BID), .unset, .unset, .unset, .unset] []) (fun t k => XS.ifYes X2.here hx rfl (pc0 := 31) (pc' := 40) rfl (hb hby at_31) rfl ((if0 _ _).trans (teq ((by decide) : (0 : Int32) = (0 : Int32))).1) (by decide) (by decide) k) ?_
    obtain ⟨T3, X3, e3, st3⟩ := getS2 X2 hx hZ hown (host := "") (Or.inl (hw _ (List.mem_of_getElem? (i := 3) rfl))) Via.refl e2 (S_ASK.ext O.2) (g := (mkF m 40 #[.val (.int p0), .val (.int p1), .val (.int p2), .val (.int p3), .val (.int (0 : Int32)), .val (.ref a_BID), .unset, .unset, .unset, .unset] [])) rfl (hb hby at_40)
    refine Goes.to (T' := T3) (mkF m 43 #[.val (.int p0), .val (.int p1), .val (.int p2), .val (.int p3), .val (.int (0 : Int32)), .val (.ref a_BID), .unset, .unset, .unset, .unset] [(.ref a_ASK)]) st3 ?_
    refine Goes.to (T' := T3) (mkF m 45 #[.val (.int p0), .val (.int p1), .val (.int p2), .val (.int p3), .val (.int (0 : Int32)), .val (.ref a_BID), .val (.ref a_ASK), .unset, .unset, .unset] []) (fun t k => XS.astore X3.here hx rfl (hb hby at_43) rfl rfl (l' := #[.val (.int p0), .val (.int p1), .val (.int p2), .val (.int p3), .val (.int (0 : Int32)), .val (.ref a_BID), .val (.ref a_ASK), .unset, .unset, .unset]) rfl k) ?_
    refine Goes.to (T' := T3) (mkF m 47 #[.val (.int p0), .val (.int p1), .val (.int p2), .val (.int p3), .val (.int (0 : Int32)), .val (.ref a_BID), .val (.ref a_ASK), .unset, .unset, .unset] [(.int (0 : Int32))]) (fun t k => XS.iload X3.here hx rfl (hb hby at_45) rfl k) ?_
    obtain ⟨_, _, ⟨T4, L4, k4, n4⟩, -, X4, ⟨Lc4, hQ4, l4, y4, z4⟩, st4⟩ := Jvm.LawKit.callS X3 hx (y := (⟨"com/example/marktide/marktide/engine/SideNamedPinLaw", "label", "(Z)Ljava/lang/String;"⟩ : MethodName)) hown (mvT hZ (hw _ (List.mem_of_getElem? (i := 5) rfl))) (mvT hZ (hw _ (List.mem_of_getElem? (i := 6) rfl))) (mvT hZ (hw _ (List.mem_of_getElem? (i := 7) rfl))) (mvT hZ (hw _ (List.mem_of_getElem? (i := 8) rfl))) (by decide) (backOf (W := 0) (rm_labelB l Z a0 hw [] cz h0 n0 O S_CS hcz) hZ (hw _ (List.mem_of_getElem? (i := 8) rfl)) (hw _ (List.mem_of_getElem? (i := 7) rfl)) (by decide) (by decide)) (g := (mkF m 47 #[.val (.int p0), .val (.int p1), .val (.int p2), .val (.int p3), .val (.int (0 : Int32)), .val (.ref a_BID), .val (.ref a_ASK), .unset, .unset, .unset] [(.int (0 : Int32))])) rfl (by rw [hml]; rfl) (argsL := [(.int (0 : Int32))]) (rest := []) (lenOf pd_3 rfl) rfl (by show 2 * 0 + _ ≤ _; exact Nat.le_of_eq rfl) (hb hby at_47) (fun _ _ => ⟨rfl, e3, (by decide : 0 + 3 ≤ _), (by decide : 0 + 10 ≤ _)⟩)
    dsimp only [Pt.U, Pt.locs, Pt.cells, Pt.slots] at X4 l4 y4 z4 st4 hQ4
    subst l4 y4 z4
    obtain ⟨N4, K4, lo4, lt4, lk4, rfl, E_lo4, F_vlo4, F_clo4, V_lt4⟩ := hQ4
    have N4' := Fr.app N0 N4
    have C' := C.trans (CHr.keep K4 sf0 C.1)
    replace C := C'
    replace O := O.keep K4 all0
    replace hk0 := Nat.le_trans hk0 K4.1
    refine Goes.to (T' := T4) (mkF m 50 #[.val (.int p0), .val (.int p1), .val (.int p2), .val (.int p3), .val (.int (0 : Int32)), .val (.ref a_BID), .val (.ref a_ASK), .unset, .unset, .unset] [(.ref lo4)]) (fun t k => st4 t k) ?_
    obtain ⟨_, _, ⟨T5, L5, k5, n5⟩, -, X5, ⟨Lc5, hQ5, l5, y5, z5⟩, st5⟩ := Jvm.LawKit.callS X4 hx (y := (⟨"com/example/marktide/marktide/engine/OrderBook$Side", "named", "(Ljava/lang/String;)Lcom/example/marktide/marktide/engine/OrderBook$Side;"⟩ : MethodName)) hown (mvT hZ (hw _ (List.mem_of_getElem? (i := 39) rfl))) (mvT hZ (hw _ (List.mem_of_getElem? (i := 40) rfl))) (mvT hZ (hw _ (List.mem_of_getElem? (i := 1) rfl))) (mvT hZ (hw _ (List.mem_of_getElem? (i := 41) rfl))) (by decide) (backOf (W := 0) (rm_namedB l Z a0 hw [] lo4 _ _ _ _ _ va a_BID a_ASK lBID lASK tBID tASK kv kBID kASK cz T4.heap n0 O E_lo4 F_vlo4 F_clo4 V_lt4 own_codB own_bdB (Nat.le_of_ble_eq_true rfl) rfl S_VALUES V_va E_va F_lBID E_lBID F_vBID F_cBID V_tBID F_lASK E_lASK F_vASK F_cASK V_tASK S_CS hcz) hZ (hw _ (List.mem_of_getElem? (i := 41) rfl)) (hw _ (List.mem_of_getElem? (i := 1) rfl)) (by decide) (by decide)) (g := (mkF m 50 #[.val (.int p0), .val (.int p1), .val (.int p2), .val (.int p3), .val (.int (0 : Int32)), .val (.ref a_BID), .val (.ref a_ASK), .unset, .unset, .unset] [(.ref lo4)])) rfl (by rw [hml]; rfl) (argsL := [(.ref lo4)]) (rest := []) (lenOf pd_4 rfl) rfl (by show 2 * 0 + _ ≤ _; exact Nat.le_of_eq rfl) (hb hby at_50) (fun _ _ => ⟨rfl, rfl, (by decide : 3 + 1 ≤ _), (by decide : 10 + 2 ≤ _)⟩)
    dsimp only [Pt.U, Pt.locs, Pt.cells, Pt.slots] at X5 l5 y5 z5 st5 hQ5
    subst l5 y5 z5
    obtain ⟨rfl, N5, K5⟩ := hQ5
    have N5' := Fr.app N4' N5
    have C' := C.trans (CHr.keep K5 sf0 C.1)
    replace C := C'
    replace E_lo4 := E_lo4.keep K5
    replace F_vlo4 := F_vlo4.keep K5 nin0
    replace F_clo4 := F_clo4.keep K5 nin0
    replace V_lt4 := V_lt4.keep K5 nin0
    replace O := O.keep K5 all0
    replace hk0 := Nat.le_trans hk0 K5.1
    refine Goes.to (T' := T5) (mkF m 53 #[.val (.int p0), .val (.int p1), .val (.int p2), .val (.int p3), .val (.int (0 : Int32)), .val (.ref a_BID), .val (.ref a_ASK), .unset, .unset, .unset] [(.ref a_BID)]) (fun t k => st5 t k) ?_
    refine Goes.to (T' := T5) (mkF m 55 #[.val (.int p0), .val (.int p1), .val (.int p2), .val (.int p3), .val (.int (0 : Int32)), .val (.ref a_BID), .val (.ref a_ASK), .unset, .unset, .unset] [(.ref a_BID), (.ref a_BID)]) (fun t k => XS.aload X5.here hx rfl (hb hby at_53) rfl rfl k) ?_
    refine Goes.to (T' := T5) (mkF m 58 #[.val (.int p0), .val (.int p1), .val (.int p2), .val (.int p3), .val (.int (0 : Int32)), .val (.ref a_BID), .val (.ref a_ASK), .unset, .unset, .unset] []) (fun t k => Jvm.RoadKit.acmp (g := (mkF m 55 #[.val (.int p0), .val (.int p1), .val (.int p2), .val (.int p3), .val (.int (0 : Int32)), .val (.ref a_BID), .val (.ref a_ASK), .unset, .unset, .unset] [(.ref a_BID), (.ref a_BID)])) X5 hx rfl rfl rfl (pc0 := 55) (pc' := 58) (same := true) rfl (hb hby at_55) rfl (decide_eq_true rfl) (by decide) (by decide) k) ?_
    refine Goes.to (T' := T5) (mkF m 59 #[.val (.int p0), .val (.int p1), .val (.int p2), .val (.int p3), .val (.int (0 : Int32)), .val (.ref a_BID), .val (.ref a_ASK), .unset, .unset, .unset] [(.int (1 : Int32))]) (fun t k => XS.iconst X5.here hx rfl (hb hby at_58) k) ?_
    refine Goes.to (T' := T5) (mkF m 63 #[.val (.int p0), .val (.int p1), .val (.int p2), .val (.int p3), .val (.int (0 : Int32)), .val (.ref a_BID), .val (.ref a_ASK), .unset, .unset, .unset] [(.int (1 : Int32))]) (fun t k => XS.goto X5.here hx rfl (pc0 := 59) (pc' := 63) rfl (hb hby at_59) (by decide) (by decide) k) ?_
    refine Goes.to (T' := T5) (mkF m 65 #[.val (.int p0), .val (.int p1), .val (.int p2), .val (.int p3), .val (.int (0 : Int32)), .val (.ref a_BID), .val (.ref a_ASK), .val (.int (1 : Int32)), .unset, .unset] []) (fun t k => XS.istore X5.here hx rfl (hb hby at_63) rfl (l' := #[.val (.int p0), .val (.int p1), .val (.int p2), .val (.int p3), .val (.int (0 : Int32)), .val (.ref a_BID), .val (.ref a_ASK), .val (.int (1 : Int32)), .unset, .unset]) rfl k) ?_
    refine Goes.to (T' := T5) (mkF m 67 #[.val (.int p0), .val (.int p1), .val (.int p2), .val (.int p3), .val (.int (0 : Int32)), .val (.ref a_BID), .val (.ref a_ASK), .val (.int (1 : Int32)), .unset, .unset] [(.int (1 : Int32))]) (fun t k => XS.iload X5.here hx rfl (hb hby at_65) rfl k) ?_
    refine Goes.to (T' := T5) (mkF m 70 #[.val (.int p0), .val (.int p1), .val (.int p2), .val (.int p3), .val (.int (0 : Int32)), .val (.ref a_BID), .val (.ref a_ASK), .val (.int (1 : Int32)), .unset, .unset] []) (fun t k => XS.ifNo X5.here hx rfl (hb hby at_67) rfl ((if0 _ _).trans (feq ((by decide) : ¬ ((1 : Int32) = (0 : Int32)))).1) k) ?_
    refine Goes.to (T' := T5) (mkF m 72 #[.val (.int p0), .val (.int p1), .val (.int p2), .val (.int p3), .val (.int (0 : Int32)), .val (.ref a_BID), .val (.ref a_ASK), .val (.int (1 : Int32)), .unset, .unset] [(.int (0 : Int32))]) (fun t k => XS.iload X5.here hx rfl (hb hby at_70) rfl k) ?_
    refine Goes.to (T' := T5) (mkF m 75 #[.val (.int p0), .val (.int p1), .val (.int p2), .val (.int p3), .val (.int (0 : Int32)), .val (.ref a_BID), .val (.ref a_ASK), .val (.int (1 : Int32)), .unset, .unset] []) (fun t k => XS.ifNo X5.here hx rfl (hb hby at_72) rfl ((if0 _ _).trans (teq ((by decide) : (0 : Int32) = (0 : Int32))).2) k) ?_
    refine Goes.to (T' := T5) (mkF m 76 #[.val (.int p0), .val (.int p1), .val (.int p2), .val (.int p3), .val (.int (0 : Int32)), .val (.ref a_BID), .val (.ref a_ASK), .val (.int (1 : Int32)), .unset, .unset] [(.int (1 : Int32))]) (fun t k => XS.iconst X5.here hx rfl (hb hby at_75) k) ?_
    refine Goes.to (T' := T5) (mkF m 80 #[.val (.int p0), .val (.int p1), .val (.int p2), .val (.int p3), .val (.int (0 : Int32)), .val (.ref a_BID), .val (.ref a_ASK), .val (.int (1 : Int32)), .unset, .unset] [(.int (1 : Int32))]) (fun t k => XS.goto X5.here hx rfl (pc0 := 76) (pc' := 80) rfl (hb hby at_76) (by decide) (by decide) k) ?_
    obtain ⟨_, _, ⟨T6, L6, k6, n6⟩, -, X6, ⟨Lc6, hQ6, l6, y6, z6⟩, st6⟩ := Jvm.LawKit.callS X5 hx (y := (⟨"com/example/marktide/marktide/engine/SideNamedPinLaw", "label", "(Z)Ljava/lang/String;"⟩ : MethodName)) hown (mvT hZ (hw _ (List.mem_of_getElem? (i := 5) rfl))) (mvT hZ (hw _ (List.mem_of_getElem? (i := 6) rfl))) (mvT hZ (hw _ (List.mem_of_getElem? (i := 7) rfl))) (mvT hZ (hw _ (List.mem_of_getElem? (i := 8) rfl))) (by decide) (backOf (W := 0) (rm_labelA l Z a0 hw [] cz T5.heap n0 O S_CS hcz) hZ (hw _ (List.mem_of_getElem? (i := 8) rfl)) (hw _ (List.mem_of_getElem? (i := 7) rfl)) (by decide) (by decide)) (g := (mkF m 80 #[.val (.int p0), .val (.int p1), .val (.int p2), .val (.int p3), .val (.int (0 : Int32)), .val (.ref a_BID), .val (.ref a_ASK), .val (.int (1 : Int32)), .unset, .unset] [(.int (1 : Int32))])) rfl (by rw [hml]; rfl) (argsL := [(.int (1 : Int32))]) (rest := []) (lenOf pd_3 rfl) rfl (by show 2 * 0 + _ ≤ _; exact Nat.le_of_eq rfl) (hb hby at_80) (fun _ _ => ⟨rfl, rfl, (by decide : 4 + 3 ≤ _), (by decide : 12 + 10 ≤ _)⟩)
    dsimp only [Pt.U, Pt.locs, Pt.cells, Pt.slots] at X6 l6 y6 z6 st6 hQ6
    subst l6 y6 z6
    obtain ⟨N6, K6, lo6, lt6, lk6, rfl, E_lo6, F_vlo6, F_clo6, V_lt6⟩ := hQ6
    have N6' := Fr.app N5' N6
    have C' := C.trans (CHr.keep K6 sf0 C.1)
    replace C := C'
    replace E_lo4 := E_lo4.keep K6
    replace F_vlo4 := F_vlo4.keep K6 nin0
    replace F_clo4 := F_clo4.keep K6 nin0
    replace V_lt4 := V_lt4.keep K6 nin0
    replace O := O.keep K6 all0
    replace hk0 := Nat.le_trans hk0 K6.1
    refine Goes.to (T' := T6) (mkF m 83 #[.val (.int p0), .val (.int p1), .val (.int p2), .val (.int p3), .val (.int (0 : Int32)), .val (.ref a_BID), .val (.ref a_ASK), .val (.int (1 : Int32)), .unset, .unset] [(.ref lo6)]) (fun t k => st6 t k) ?_
    obtain ⟨_, _, ⟨T7, L7, k7, n7⟩, -, X7, ⟨Lc7, hQ7, l7, y7, z7⟩, st7⟩ := Jvm.LawKit.callS X6 hx (y := (⟨"com/example/marktide/marktide/engine/OrderBook$Side", "named", "(Ljava/lang/String;)Lcom/example/marktide/marktide/engine/OrderBook$Side;"⟩ : MethodName)) hown (mvT hZ (hw _ (List.mem_of_getElem? (i := 39) rfl))) (mvT hZ (hw _ (List.mem_of_getElem? (i := 40) rfl))) (mvT hZ (hw _ (List.mem_of_getElem? (i := 1) rfl))) (mvT hZ (hw _ (List.mem_of_getElem? (i := 41) rfl))) (by decide) (backOf (W := 0) (rm_namedA l Z a0 hw [] lo6 _ _ _ _ _ va a_BID a_ASK lBID lASK tBID tASK kv kBID kASK cz T6.heap n0 O E_lo6 F_vlo6 F_clo6 V_lt6 own_codA own_bdA (Nat.le_of_ble_eq_true rfl) rfl S_VALUES V_va E_va F_lBID E_lBID F_vBID F_cBID V_tBID F_lASK E_lASK F_vASK F_cASK V_tASK S_CS hcz) hZ (hw _ (List.mem_of_getElem? (i := 41) rfl)) (hw _ (List.mem_of_getElem? (i := 1) rfl)) (by decide) (by decide)) (g := (mkF m 83 #[.val (.int p0), .val (.int p1), .val (.int p2), .val (.int p3), .val (.int (0 : Int32)), .val (.ref a_BID), .val (.ref a_ASK), .val (.int (1 : Int32)), .unset, .unset] [(.ref lo6)])) rfl (by rw [hml]; rfl) (argsL := [(.ref lo6)]) (rest := []) (lenOf pd_4 rfl) rfl (by show 2 * 0 + _ ≤ _; exact Nat.le_of_eq rfl) (hb hby at_83) (fun _ _ => ⟨rfl, rfl, (by decide : 7 + 1 ≤ _), (by decide : 22 + 2 ≤ _)⟩)
    dsimp only [Pt.U, Pt.locs, Pt.cells, Pt.slots] at X7 l7 y7 z7 st7 hQ7
    subst l7 y7 z7
    obtain ⟨rfl, N7, K7⟩ := hQ7
    have N7' := Fr.app N6' N7
    have C' := C.trans (CHr.keep K7 sf0 C.1)
    replace C := C'
    replace E_lo4 := E_lo4.keep K7
    replace F_vlo4 := F_vlo4.keep K7 nin0
    replace F_clo4 := F_clo4.keep K7 nin0
    replace V_lt4 := V_lt4.keep K7 nin0
    replace E_lo6 := E_lo6.keep K7
    replace F_vlo6 := F_vlo6.keep K7 nin0
    replace F_clo6 := F_clo6.keep K7 nin0
    replace V_lt6 := V_lt6.keep K7 nin0
    replace O := O.keep K7 all0
    replace hk0 := Nat.le_trans hk0 K7.1
    refine Goes.to (T' := T7) (mkF m 86 #[.val (.int p0), .val (.int p1), .val (.int p2), .val (.int p3), .val (.int (0 : Int32)), .val (.ref a_BID), .val (.ref a_ASK), .val (.int (1 : Int32)), .unset, .unset] [(.ref a_ASK)]) (fun t k => st7 t k) ?_
    refine Goes.to (T' := T7) (mkF m 88 #[.val (.int p0), .val (.int p1), .val (.int p2), .val (.int p3), .val (.int (0 : Int32)), .val (.ref a_BID), .val (.ref a_ASK), .val (.int (1 : Int32)), .unset, .unset] [(.ref a_ASK), (.ref a_ASK)]) (fun t k => XS.aload X7.here hx rfl (hb hby at_86) rfl rfl k) ?_
    refine Goes.to (T' := T7) (mkF m 91 #[.val (.int p0), .val (.int p1), .val (.int p2), .val (.int p3), .val (.int (0 : Int32)), .val (.ref a_BID), .val (.ref a_ASK), .val (.int (1 : Int32)), .unset, .unset] []) (fun t k => Jvm.RoadKit.acmp (g := (mkF m 88 #[.val (.int p0), .val (.int p1), .val (.int p2), .val (.int p3), .val (.int (0 : Int32)), .val (.ref a_BID), .val (.ref a_ASK), .val (.int (1 : Int32)), .unset, .unset] [(.ref a_ASK), (.ref a_ASK)])) X7 hx rfl rfl rfl (pc0 := 88) (pc' := 91) (same := true) rfl (hb hby at_88) rfl (decide_eq_true rfl) (by decide) (by decide) k) ?_
    refine Goes.to (T' := T7) (mkF m 92 #[.val (.int p0), .val (.int p1), .val (.int p2), .val (.int p3), .val (.int (0 : Int32)), .val (.ref a_BID), .val (.ref a_ASK), .val (.int (1 : Int32)), .unset, .unset] [(.int (1 : Int32))]) (fun t k => XS.iconst X7.here hx rfl (hb hby at_91) k) ?_
    refine Goes.to (T' := T7) (mkF m 96 #[.val (.int p0), .val (.int p1), .val (.int p2), .val (.int p3), .val (.int (0 : Int32)), .val (.ref a_BID), .val (.ref a_ASK), .val (.int (1 : Int32)), .unset, .unset] [(.int (1 : Int32))]) (fun t k => XS.goto X7.here hx rfl (pc0 := 92) (pc' := 96) rfl (hb hby at_92) (by decide) (by decide) k) ?_
    refine Goes.to (T' := T7) (mkF m 98 #[.val (.int p0), .val (.int p1), .val (.int p2), .val (.int p3), .val (.int (0 : Int32)), .val (.ref a_BID), .val (.ref a_ASK), .val (.int (1 : Int32)), .unset, .unset] []) (fun t k => XS.istore X7.here hx rfl (hb hby at_96) rfl (l' := #[.val (.int p0), .val (.int p1), .val (.int p2), .val (.int p3), .val (.int (0 : Int32)), .val (.ref a_BID), .val (.ref a_ASK), .val (.int (1 : Int32)), .unset, .unset]) rfl k) ?_
    refine Goes.to (T' := T7) (mkF m 100 #[.val (.int p0), .val (.int p1), .val (.int p2), .val (.int p3), .val (.int (0 : Int32)), .val (.ref a_BID), .val (.ref a_ASK), .val (.int (1 : Int32)), .unset, .unset] [(.int (1 : Int32))]) (fun t k => XS.iload X7.here hx rfl (hb hby at_98) rfl k) ?_
    refine Goes.to (T' := T7) (mkF m 103 #[.val (.int p0), .val (.int p1), .val (.int p2), .val (.int p3), .val (.int (0 : Int32)), .val (.ref a_BID), .val (.ref a_ASK), .val (.int (1 : Int32)), .unset, .unset] []) (fun t k => XS.ifNo X7.here hx rfl (hb hby at_100) rfl ((if0 _ _).trans (feq ((by decide) : ¬ ((1 : Int32) = (0 : Int32)))).1) k) ?_
    refine Goes.to (T' := T7) (mkF m 105 #[.val (.int p0), .val (.int p1), .val (.int p2), .val (.int p3), .val (.int (0 : Int32)), .val (.ref a_BID), .val (.ref a_ASK), .val (.int (1 : Int32)), .unset, .unset] [(.ref a_BID)]) (fun t k => XS.aload X7.here hx rfl (hb hby at_103) rfl rfl k) ?_
    obtain ⟨cq8, kq8, q8a, q8b, q8c⟩ := isOf hZ rfl (E_BID.ext O.2)
    obtain ⟨_, _, ⟨T8, L8, k8, n8⟩, -, X8, ⟨Lc8, hQ8, l8, y8, z8⟩, st8⟩ := X7.virtualBack hx (y := (⟨"com/example/marktide/marktide/engine/OrderBook$Side", "toString", "()Ljava/lang/String;"⟩ : MethodName)) (z := (⟨"com/example/marktide/marktide/engine/OrderBook$Side", "toString", "()Ljava/lang/String;"⟩ : MethodName)) hown (mvT hZ (hw _ (List.mem_of_getElem? (i := 69) rfl))) (mvT hZ (hw _ (List.mem_of_getElem? (i := 70) rfl))) (notFace_of_selects (args := #[]) (mvT hZ (hw _ (List.mem_of_getElem? (i := 72) rfl)))) (mvT hZ (hw _ (List.mem_of_getElem? (i := 72) rfl))) (mvT hZ (hw _ (List.mem_of_getElem? (i := 71) rfl))) (by decide) (backOf (W := 0) (rm_tsBID l Z a0 hw [] a_BID lBID T7.heap n0 O F_lBID) hZ (hw _ (List.mem_of_getElem? (i := 73) rfl)) (hw _ (List.mem_of_getElem? (i := 1) rfl)) (by decide) (by decide)) q8a q8c (g := (mkF m 105 #[.val (.int p0), .val (.int p1), .val (.int p2), .val (.int p3), .val (.int (0 : Int32)), .val (.ref a_BID), .val (.ref a_ASK), .val (.int (1 : Int32)), .unset, .unset] [(.ref a_BID)])) rfl (by rw [hml]; rfl) (Steps.refl _) (argsL := []) (rest := []) (lenOf pd_5 rfl) rfl (by show 2 * 0 + _ ≤ _; exact Nat.le_of_eq rfl) (hb hby at_105) (fun _ _ => ⟨rfl, rfl, (by decide : 8 + 0 ≤ _), (by decide : 24 + 0 ≤ _)⟩)
    dsimp only [Pt.U, Pt.locs, Pt.cells, Pt.slots] at X8 l8 y8 z8 st8 hQ8
    subst l8 y8 z8
    obtain ⟨rfl, N8, hs8⟩ := hQ8
    have N8' := Fr.app N7' N8
    refine Goes.to (T' := T8) (mkF m 108 #[.val (.int p0), .val (.int p1), .val (.int p2), .val (.int p3), .val (.int (0 : Int32)), .val (.ref a_BID), .val (.ref a_ASK), .val (.int (1 : Int32)), .unset, .unset] [(.ref lBID)]) (fun t k => st8.trans k) ?_
    obtain ⟨_, _, ⟨T9, L9, k9, n9⟩, -, X9, ⟨Lc9, hQ9, l9, y9, z9⟩, st9⟩ := Jvm.LawKit.callS X8 hx (y := (⟨"com/example/marktide/marktide/engine/OrderBook$Side", "named", "(Ljava/lang/String;)Lcom/example/marktide/marktide/engine/OrderBook$Side;"⟩ : MethodName)) hown (mvT hZ (hw _ (List.mem_of_getElem? (i := 39) rfl))) (mvT hZ (hw _ (List.mem_of_getElem? (i := 40) rfl))) (mvT hZ (hw _ (List.mem_of_getElem? (i := 1) rfl))) (mvT hZ (hw _ (List.mem_of_getElem? (i := 41) rfl))) (by decide) (backOf (W := 0) (rm_namedB l Z a0 hw [] lBID _ _ _ _ _ va a_BID a_ASK lBID lASK tBID tASK kv kBID kASK cz T7.heap n0 O (E_lBID.ext O.2) (F_vBID.ext O.2) (F_cBID.ext O.2) (V_tBID.ext O.2) own_codB own_bdB (Nat.le_of_ble_eq_true rfl) rfl S_VALUES V_va E_va F_lBID E_lBID F_vBID F_cBID V_tBID F_lASK E_lASK F_vASK F_cASK V_tASK S_CS hcz) hZ (hw _ (List.mem_of_getElem? (i := 41) rfl)) (hw _ (List.mem_of_getElem? (i := 1) rfl)) (by decide) (by decide)) (g := (mkF m 108 #[.val (.int p0), .val (.int p1), .val (.int p2), .val (.int p3), .val (.int (0 : Int32)), .val (.ref a_BID), .val (.ref a_ASK), .val (.int (1 : Int32)), .unset, .unset] [(.ref lBID)])) rfl (by rw [hml]; rfl) (argsL := [(.ref lBID)]) (rest := []) (lenOf pd_4 rfl) rfl (by show 2 * 0 + _ ≤ _; exact Nat.le_of_eq rfl) (hb hby at_108) (fun _ _ => ⟨rfl, hs8, (by decide : 8 + 1 ≤ _), (by decide : 24 + 2 ≤ _)⟩)
    dsimp only [Pt.U, Pt.locs, Pt.cells, Pt.slots] at X9 l9 y9 z9 st9 hQ9
    subst l9 y9 z9
    obtain ⟨rfl, N9, K9⟩ := hQ9
    have N9' := Fr.app N8' N9
    have C' := C.trans (CHr.keep K9 sf0 C.1)
    replace C := C'
    replace E_lo4 := E_lo4.keep K9
    replace F_vlo4 := F_vlo4.keep K9 nin0
    replace F_clo4 := F_clo4.keep K9 nin0
    replace V_lt4 := V_lt4.keep K9 nin0
    replace E_lo6 := E_lo6.keep K9
    replace F_vlo6 := F_vlo6.keep K9 nin0
    replace F_clo6 := F_clo6.keep K9 nin0
    replace V_lt6 := V_lt6.keep K9 nin0
    replace O := O.keep K9 all0
    replace hk0 := Nat.le_trans hk0 K9.1
    refine Goes.to (T' := T9) (mkF m 111 #[.val (.int p0), .val (.int p1), .val (.int p2), .val (.int p3), .val (.int (0 : Int32)), .val (.ref a_BID), .val (.ref a_ASK), .val (.int (1 : Int32)), .unset, .unset] [(.ref a_BID)]) (fun t k => st9 t k) ?_
    refine Goes.to (T' := T9) (mkF m 113 #[.val (.int p0), .val (.int p1), .val (.int p2), .val (.int p3), .val (.int (0 : Int32)), .val (.ref a_BID), .val (.ref a_ASK), .val (.int (1 : Int32)), .unset, .unset] [(.ref a_BID), (.ref a_BID)]) (fun t k => XS.aload X9.here hx rfl (hb hby at_111) rfl rfl k) ?_
    refine Goes.to (T' := T9) (mkF m 116 #[.val (.int p0), .val (.int p1), .val (.int p2), .val (.int p3), .val (.int (0 : Int32)), .val (.ref a_BID), .val (.ref a_ASK), .val (.int (1 : Int32)), .unset, .unset] []) (fun t k => Jvm.RoadKit.acmp (g := (mkF m 113 #[.val (.int p0), .val (.int p1), .val (.int p2), .val (.int p3), .val (.int (0 : Int32)), .val (.ref a_BID), .val (.ref a_ASK), .val (.int (1 : Int32)), .unset, .unset] [(.ref a_BID), (.ref a_BID)])) X9 hx rfl rfl rfl (pc0 := 113) (pc' := 116) (same := true) rfl (hb hby at_113) rfl (decide_eq_true rfl) (by decide) (by decide) k) ?_
    refine Goes.to (T' := T9) (mkF m 117 #[.val (.int p0), .val (.int p1), .val (.int p2), .val (.int p3), .val (.int (0 : Int32)), .val (.ref a_BID), .val (.ref a_ASK), .val (.int (1 : Int32)), .unset, .unset] [(.int (1 : Int32))]) (fun t k => XS.iconst X9.here hx rfl (hb hby at_116) k) ?_
    refine Goes.to (T' := T9) (mkF m 121 #[.val (.int p0), .val (.int p1), .val (.int p2), .val (.int p3), .val (.int (0 : Int32)), .val (.ref a_BID), .val (.ref a_ASK), .val (.int (1 : Int32)), .unset, .unset] [(.int (1 : Int32))]) (fun t k => XS.goto X9.here hx rfl (pc0 := 117) (pc' := 121) rfl (hb hby at_117) (by decide) (by decide) k) ?_
    refine Goes.to (T' := T9) (mkF m 123 #[.val (.int p0), .val (.int p1), .val (.int p2), .val (.int p3), .val (.int (0 : Int32)), .val (.ref a_BID), .val (.ref a_ASK), .val (.int (1 : Int32)), .unset, .unset] []) (fun t k => XS.istore X9.here hx rfl (hb hby at_121) rfl (l' := #[.val (.int p0), .val (.int p1), .val (.int p2), .val (.int p3), .val (.int (0 : Int32)), .val (.ref a_BID), .val (.ref a_ASK), .val (.int (1 : Int32)), .unset, .unset]) rfl k) ?_
    refine Goes.to (T' := T9) (mkF m 124 #[.val (.int p0), .val (.int p1), .val (.int p2), .val (.int p3), .val (.int (0 : Int32)), .val (.ref a_BID), .val (.ref a_ASK), .val (.int (1 : Int32)), .unset, .unset] [(.int (3 : Int32))]) (fun t k => XS.iconst X9.here hx rfl (hb hby at_123) k) ?_
    obtain ⟨T10, h10, k10, X10, e10, E10, A10, st10⟩ := newP X9 hx hZ (hw _ (List.mem_of_getElem? (i := 9) rfl)) rfl (g := (mkF m 124 #[.val (.int p0), .val (.int p1), .val (.int p2), .val (.int p3), .val (.int (0 : Int32)), .val (.ref a_BID), .val (.ref a_ASK), .val (.int (1 : Int32)), .unset, .unset] [(.int (3 : Int32))])) rfl (hb hby at_124) rfl (by decide) (cap := 3) (by decide) (by decide) (by decide) (by decide)
    obtain ⟨b10, g10⟩ : ∃ z, z = T9.heap.size := ⟨_, rfl⟩
    rw [← g10] at A10 st10
    have g_b10 : n0 ≤ b10 := Nat.le_trans (O.1 ▸ O.2.1) (Nat.le_of_eq g10.symm)
    have ne_lo4_b10 : lo4 ≠ b10 := Nat.ne_of_lt (Nat.lt_of_lt_of_le E_lo4.lt (Nat.le_of_eq g10.symm))
    have ne_lt4_b10 : lt4 ≠ b10 := Nat.ne_of_lt (Nat.lt_of_lt_of_le V_lt4.lt (Nat.le_of_eq g10.symm))
    have ne_lo6_b10 : lo6 ≠ b10 := Nat.ne_of_lt (Nat.lt_of_lt_of_le E_lo6.lt (Nat.le_of_eq g10.symm))
    have ne_lt6_b10 : lt6 ≠ b10 := Nat.ne_of_lt (Nat.lt_of_lt_of_le V_lt6.lt (Nat.le_of_eq g10.symm))
    replace C := C.trans (CHr.ext E10 C.1)
    replace O := O.ext E10
    replace hk0 := Nat.le_trans hk0 E10.1
    replace E_lo4 := E_lo4.ext E10
    replace F_vlo4 := F_vlo4.ext E10
    replace F_clo4 := F_clo4.ext E10
    replace V_lt4 := V_lt4.ext E10
    replace E_lo6 := E_lo6.ext E10
    replace F_vlo6 := F_vlo6.ext E10
    replace F_clo6 := F_clo6.ext E10
    replace V_lt6 := V_lt6.ext E10
    have V_b10 : Arv Z h10 b10 k10 .char (3 : Int32) [(.int (0 : Int32)), (.int (0 : Int32)), (.int (0 : Int32))] (.int (0 : Int32)) := (Arv.new A10 (by decide)).pad (pad_rep [] (.int (0 : Int32)) 3)
    refine Goes.to (T' := T10) (mkF m 126 #[.val (.int p0), .val (.int p1), .val (.int p2), .val (.int p3), .val (.int (0 : Int32)), .val (.ref a_BID), .val (.ref a_ASK), .val (.int (1 : Int32)), .unset, .unset] [(.ref b10)]) st10 ?_
    refine Goes.to (T' := T10) (mkF m 128 #[.val (.int p0), .val (.int p1), .val (.int p2), .val (.int p3), .val (.int (0 : Int32)), .val (.ref a_BID), .val (.ref a_ASK), .val (.int (1 : Int32)), .val (.ref b10), .unset] []) (fun t k => XS.astore X10.here hx rfl (hb hby at_126) rfl rfl (l' := #[.val (.int p0), .val (.int p1), .val (.int p2), .val (.int p3), .val (.int (0 : Int32)), .val (.ref a_BID), .val (.ref a_ASK), .val (.int (1 : Int32)), .val (.ref b10), .unset]) rfl k) ?_
    refine Goes.to (T' := T10) (mkF m 130 #[.val (.int p0), .val (.int p1), .val (.int p2), .val (.int p3), .val (.int (0 : Int32)), .val (.ref a_BID), .val (.ref a_ASK), .val (.int (1 : Int32)), .val (.ref b10), .unset] [(.ref b10)]) (fun t k => XS.aload X10.here hx rfl (hb hby at_128) rfl rfl k) ?_
    refine Goes.to (T' := T10) (mkF m 131 #[.val (.int p0), .val (.int p1), .val (.int p2), .val (.int p3), .val (.int (0 : Int32)), .val (.ref a_BID), .val (.ref a_ASK), .val (.int (1 : Int32)), .val (.ref b10), .unset] [(.int (0 : Int32)), (.ref b10)]) (fun t k => XS.iconst X10.here hx rfl (hb hby at_130) k) ?_
    refine Goes.to (T' := T10) (mkF m 132 #[.val (.int p0), .val (.int p1), .val (.int p2), .val (.int p3), .val (.int (0 : Int32)), .val (.ref a_BID), .val (.ref a_ASK), .val (.int (1 : Int32)), .val (.ref b10), .unset] [(.int p1), (.int (0 : Int32)), (.ref b10)]) (fun t k => XS.iloadN X10.here hx rfl (hb hby at_131) rfl k) ?_
    refine Goes.to (T' := T10) (mkF m 135 #[.val (.int p0), .val (.int p1), .val (.int p2), .val (.int p3), .val (.int (0 : Int32)), .val (.ref a_BID), .val (.ref a_ASK), .val (.int (1 : Int32)), .val (.ref b10), .unset] [(.int (255 : Int32)), (.int p1), (.int (0 : Int32)), (.ref b10)]) (fun t k => XS.sipush X10.here hx rfl (hb hby at_132) k) ?_
    refine Goes.to (T' := T10) (mkF m 136 #[.val (.int p0), .val (.int p1), .val (.int p2), .val (.int p3), .val (.int (0 : Int32)), .val (.ref a_BID), .val (.ref a_ASK), .val (.int (1 : Int32)), .val (.ref b10), .unset] [(.int (p1 &&& (255 : Int32))), (.int (0 : Int32)), (.ref b10)]) (fun t k => XS.iand X10.here hx rfl (hb hby at_135) rfl k) ?_
    refine Goes.to (T' := T10) (mkF m 137 #[.val (.int p0), .val (.int p1), .val (.int p2), .val (.int p3), .val (.int (0 : Int32)), .val (.ref a_BID), .val (.ref a_ASK), .val (.int (1 : Int32)), .val (.ref b10), .unset] [(.int ((p1 &&& (255 : Int32)).toUInt32.toUInt16.toUInt32.toInt32)), (.int (0 : Int32)), (.ref b10)]) (fun t k => XS.i2c X10.here hx rfl (hb hby at_136) rfl k) ?_
    obtain ⟨d0, d0_eq⟩ : ∃ z, z = ((p1 &&& (255 : Int32)).toUInt32.toUInt16.toUInt32.toInt32) := ⟨_, rfl⟩
    rw [← d0_eq]
    have hd0 : ¬ d0 < 0 ∧ ¬ (255 : Int32) < d0 := by rw [d0_eq]; exact own_chb _
    clear d0_eq
    obtain ⟨cl11, Ar11, q11, S11, M11, H11, G11⟩ := V_b10
    have hin11 : ¬ ((0 : Int32) < 0 ∨ cl11.slots.size ≤ ((0 : Int32)).toNatClampNeg) := inb_of S11 ⟨by decide, by decide⟩
    obtain ⟨T12, h12, X12, e12, W12, st12⟩ := stC X10 hx hZ e10 Ar11 (j := (0 : Int32)) hin11 (g := (mkF m 137 #[.val (.int p0), .val (.int p1), .val (.int p2), .val (.int p3), .val (.int (0 : Int32)), .val (.ref a_BID), .val (.ref a_ASK), .val (.int (1 : Int32)), .val (.ref b10), .unset] [(.int d0), (.int (0 : Int32)), (.ref b10)])) rfl rfl (hb hby at_137)
    have V_b10 : Arv Z h12 b10 k10 .char (3 : Int32) [(.int (nar .char d0)), (.int (0 : Int32)), (.int (0 : Int32))] (.int (0 : Int32)) := Arv.set Ar11 q11 S11 M11 H11 G11 (fits_nar_char _) W12 0 rfl (Nat.le_of_ble_eq_true rfl)
    have C' := C.trans (CHr.wr W12 (Safe.arr hZ.alike Ar11 (by decide)) C.1)
    replace C := C'
    replace E_lo4 := E_lo4.wr W12
    replace F_vlo4 := F_vlo4.other W12 (Or.inl ne_lo4_b10)
    replace F_clo4 := F_clo4.other W12 (Or.inl ne_lo4_b10)
    replace V_lt4 := V_lt4.other W12 ne_lt4_b10
    replace E_lo6 := E_lo6.wr W12
    replace F_vlo6 := F_vlo6.other W12 (Or.inl ne_lo6_b10)
    replace F_clo6 := F_clo6.other W12 (Or.inl ne_lo6_b10)
    replace V_lt6 := V_lt6.other W12 ne_lt6_b10
    replace O := O.wr W12 g_b10
    replace hk0 := Nat.le_trans hk0 (Nat.le_of_eq W12.size.symm)
    have N12 := Fr.snoc X12 N9' g_b10
    refine Goes.to (T' := T12) (mkF m 138 #[.val (.int p0), .val (.int p1), .val (.int p2), .val (.int p3), .val (.int (0 : Int32)), .val (.ref a_BID), .val (.ref a_ASK), .val (.int (1 : Int32)), .val (.ref b10), .unset] []) st12 ?_
    refine Goes.to (T' := T12) (mkF m 140 #[.val (.int p0), .val (.int p1), .val (.int p2), .val (.int p3), .val (.int (0 : Int32)), .val (.ref a_BID), .val (.ref a_ASK), .val (.int (1 : Int32)), .val (.ref b10), .unset] [(.ref b10)]) (fun t k => XS.aload X12.here hx rfl (hb hby at_138) rfl rfl k) ?_
    refine Goes.to (T' := T12) (mkF m 141 #[.val (.int p0), .val (.int p1), .val (.int p2), .val (.int p3), .val (.int (0 : Int32)), .val (.ref a_BID), .val (.ref a_ASK), .val (.int (1 : Int32)), .val (.ref b10), .unset] [(.int (1 : Int32)), (.ref b10)]) (fun t k => XS.iconst X12.here hx rfl (hb hby at_140) k) ?_
    refine Goes.to (T' := T12) (mkF m 142 #[.val (.int p0), .val (.int p1), .val (.int p2), .val (.int p3), .val (.int (0 : Int32)), .val (.ref a_BID), .val (.ref a_ASK), .val (.int (1 : Int32)), .val (.ref b10), .unset] [(.int p2), (.int (1 : Int32)), (.ref b10)]) (fun t k => XS.iloadN X12.here hx rfl (hb hby at_141) rfl k) ?_
    refine Goes.to (T' := T12) (mkF m 145 #[.val (.int p0), .val (.int p1), .val (.int p2), .val (.int p3), .val (.int (0 : Int32)), .val (.ref a_BID), .val (.ref a_ASK), .val (.int (1 : Int32)), .val (.ref b10), .unset] [(.int (255 : Int32)), (.int p2), (.int (1 : Int32)), (.ref b10)]) (fun t k => XS.sipush X12.here hx rfl (hb hby at_142) k) ?_
    refine Goes.to (T' := T12) (mkF m 146 #[.val (.int p0), .val (.int p1), .val (.int p2), .val (.int p3), .val (.int (0 : Int32)), .val (.ref a_BID), .val (.ref a_ASK), .val (.int (1 : Int32)), .val (.ref b10), .unset] [(.int (p2 &&& (255 : Int32))), (.int (1 : Int32)), (.ref b10)]) (fun t k => XS.iand X12.here hx rfl (hb hby at_145) rfl k) ?_
    refine Goes.to (T' := T12) (mkF m 147 #[.val (.int p0), .val (.int p1), .val (.int p2), .val (.int p3), .val (.int (0 : Int32)), .val (.ref a_BID), .val (.ref a_ASK), .val (.int (1 : Int32)), .val (.ref b10), .unset] [(.int ((p2 &&& (255 : Int32)).toUInt32.toUInt16.toUInt32.toInt32)), (.int (1 : Int32)), (.ref b10)]) (fun t k => XS.i2c X12.here hx rfl (hb hby at_146) rfl k) ?_
    obtain ⟨d1, d1_eq⟩ : ∃ z, z = ((p2 &&& (255 : Int32)).toUInt32.toUInt16.toUInt32.toInt32) := ⟨_, rfl⟩
    rw [← d1_eq]
    have hd1 : ¬ d1 < 0 ∧ ¬ (255 : Int32) < d1 := by rw [d1_eq]; exact own_chb _
    clear d1_eq
    obtain ⟨cl13, Ar13, q13, S13, M13, H13, G13⟩ := V_b10
    have hin13 : ¬ ((1 : Int32) < 0 ∨ cl13.slots.size ≤ ((1 : Int32)).toNatClampNeg) := inb_of S13 ⟨by decide, by decide⟩
    obtain ⟨T14, h14, X14, e14, W14, st14⟩ := stC X12 hx hZ e12 Ar13 (j := (1 : Int32)) hin13 (g := (mkF m 147 #[.val (.int p0), .val (.int p1), .val (.int p2), .val (.int p3), .val (.int (0 : Int32)), .val (.ref a_BID), .val (.ref a_ASK), .val (.int (1 : Int32)), .val (.ref b10), .unset] [(.int d1), (.int (1 : Int32)), (.ref b10)])) rfl rfl (hb hby at_147)
    have V_b10 : Arv Z h14 b10 k10 .char (3 : Int32) [(.int (nar .char d0)), (.int (nar .char d1)), (.int (0 : Int32))] (.int (0 : Int32)) := Arv.set Ar13 q13 S13 M13 H13 G13 (fits_nar_char _) W14 1 rfl (Nat.le_of_ble_eq_true rfl)
    have C' := C.trans (CHr.wr W14 (Safe.arr hZ.alike Ar13 (by decide)) C.1)
    replace C := C'
    replace E_lo4 := E_lo4.wr W14
    replace F_vlo4 := F_vlo4.other W14 (Or.inl ne_lo4_b10)
    replace F_clo4 := F_clo4.other W14 (Or.inl ne_lo4_b10)
    replace V_lt4 := V_lt4.other W14 ne_lt4_b10
    replace E_lo6 := E_lo6.wr W14
    replace F_vlo6 := F_vlo6.other W14 (Or.inl ne_lo6_b10)
    replace F_clo6 := F_clo6.other W14 (Or.inl ne_lo6_b10)
    replace V_lt6 := V_lt6.other W14 ne_lt6_b10
    replace O := O.wr W14 g_b10
    replace hk0 := Nat.le_trans hk0 (Nat.le_of_eq W14.size.symm)
    have N14 := Fr.snoc X14 N12 g_b10
    refine Goes.to (T' := T14) (mkF m 148 #[.val (.int p0), .val (.int p1), .val (.int p2), .val (.int p3), .val (.int (0 : Int32)), .val (.ref a_BID), .val (.ref a_ASK), .val (.int (1 : Int32)), .val (.ref b10), .unset] []) st14 ?_
    refine Goes.to (T' := T14) (mkF m 150 #[.val (.int p0), .val (.int p1), .val (.int p2), .val (.int p3), .val (.int (0 : Int32)), .val (.ref a_BID), .val (.ref a_ASK), .val (.int (1 : Int32)), .val (.ref b10), .unset] [(.ref b10)]) (fun t k => XS.aload X14.here hx rfl (hb hby at_148) rfl rfl k) ?_
    refine Goes.to (T' := T14) (mkF m 151 #[.val (.int p0), .val (.int p1), .val (.int p2), .val (.int p3), .val (.int (0 : Int32)), .val (.ref a_BID), .val (.ref a_ASK), .val (.int (1 : Int32)), .val (.ref b10), .unset] [(.int (2 : Int32)), (.ref b10)]) (fun t k => XS.iconst X14.here hx rfl (hb hby at_150) k) ?_
    refine Goes.to (T' := T14) (mkF m 152 #[.val (.int p0), .val (.int p1), .val (.int p2), .val (.int p3), .val (.int (0 : Int32)), .val (.ref a_BID), .val (.ref a_ASK), .val (.int (1 : Int32)), .val (.ref b10), .unset] [(.int p3), (.int (2 : Int32)), (.ref b10)]) (fun t k => XS.iloadN X14.here hx rfl (hb hby at_151) rfl k) ?_
    refine Goes.to (T' := T14) (mkF m 155 #[.val (.int p0), .val (.int p1), .val (.int p2), .val (.int p3), .val (.int (0 : Int32)), .val (.ref a_BID), .val (.ref a_ASK), .val (.int (1 : Int32)), .val (.ref b10), .unset] [(.int (255 : Int32)), (.int p3), (.int (2 : Int32)), (.ref b10)]) (fun t k => XS.sipush X14.here hx rfl (hb hby at_152) k) ?_
    refine Goes.to (T' := T14) (mkF m 156 #[.val (.int p0), .val (.int p1), .val (.int p2), .val (.int p3), .val (.int (0 : Int32)), .val (.ref a_BID), .val (.ref a_ASK), .val (.int (1 : Int32)), .val (.ref b10), .unset] [(.int (p3 &&& (255 : Int32))), (.int (2 : Int32)), (.ref b10)]) (fun t k => XS.iand X14.here hx rfl (hb hby at_155) rfl k) ?_
    refine Goes.to (T' := T14) (mkF m 157 #[.val (.int p0), .val (.int p1), .val (.int p2), .val (.int p3), .val (.int (0 : Int32)), .val (.ref a_BID), .val (.ref a_ASK), .val (.int (1 : Int32)), .val (.ref b10), .unset] [(.int ((p3 &&& (255 : Int32)).toUInt32.toUInt16.toUInt32.toInt32)), (.int (2 : Int32)), (.ref b10)]) (fun t k => XS.i2c X14.here hx rfl (hb hby at_156) rfl k) ?_
    obtain ⟨d2, d2_eq⟩ : ∃ z, z = ((p3 &&& (255 : Int32)).toUInt32.toUInt16.toUInt32.toInt32) := ⟨_, rfl⟩
    rw [← d2_eq]
    have hd2 : ¬ d2 < 0 ∧ ¬ (255 : Int32) < d2 := by rw [d2_eq]; exact own_chb _
    clear d2_eq
    obtain ⟨cl15, Ar15, q15, S15, M15, H15, G15⟩ := V_b10
    have hin15 : ¬ ((2 : Int32) < 0 ∨ cl15.slots.size ≤ ((2 : Int32)).toNatClampNeg) := inb_of S15 ⟨by decide, by decide⟩
    obtain ⟨T16, h16, X16, e16, W16, st16⟩ := stC X14 hx hZ e14 Ar15 (j := (2 : Int32)) hin15 (g := (mkF m 157 #[.val (.int p0), .val (.int p1), .val (.int p2), .val (.int p3), .val (.int (0 : Int32)), .val (.ref a_BID), .val (.ref a_ASK), .val (.int (1 : Int32)), .val (.ref b10), .unset] [(.int d2), (.int (2 : Int32)), (.ref b10)])) rfl rfl (hb hby at_157)
    have V_b10 : Arv Z h16 b10 k10 .char (3 : Int32) [(.int (nar .char d0)), (.int (nar .char d1)), (.int (nar .char d2))] (.int (0 : Int32)) := Arv.set Ar15 q15 S15 M15 H15 G15 (fits_nar_char _) W16 2 rfl (Nat.le_of_ble_eq_true rfl)
    have C' := C.trans (CHr.wr W16 (Safe.arr hZ.alike Ar15 (by decide)) C.1)
    replace C := C'
    replace E_lo4 := E_lo4.wr W16
    replace F_vlo4 := F_vlo4.other W16 (Or.inl ne_lo4_b10)
    replace F_clo4 := F_clo4.other W16 (Or.inl ne_lo4_b10)
    replace V_lt4 := V_lt4.other W16 ne_lt4_b10
    replace E_lo6 := E_lo6.wr W16
    replace F_vlo6 := F_vlo6.other W16 (Or.inl ne_lo6_b10)
    replace F_clo6 := F_clo6.other W16 (Or.inl ne_lo6_b10)
    replace V_lt6 := V_lt6.other W16 ne_lt6_b10
    replace O := O.wr W16 g_b10
    replace hk0 := Nat.le_trans hk0 (Nat.le_of_eq W16.size.symm)
    have N16 := Fr.snoc X16 N14 g_b10
    refine Goes.to (T' := T16) (mkF m 158 #[.val (.int p0), .val (.int p1), .val (.int p2), .val (.int p3), .val (.int (0 : Int32)), .val (.ref a_BID), .val (.ref a_ASK), .val (.int (1 : Int32)), .val (.ref b10), .unset] []) st16 ?_
    obtain ⟨T17, h17, X17, e17, E17, A17, D17, -, st17⟩ := newO X16 hx hZ hown (hw _ (List.mem_of_getElem? (i := 10) rfl)) (hw _ (List.mem_of_getElem? (i := 11) rfl)) (hw _ (List.mem_of_getElem? (i := 12) rfl)) e16 (g := (mkF m 158 #[.val (.int p0), .val (.int p1), .val (.int p2), .val (.int p3), .val (.int (0 : Int32)), .val (.ref a_BID), .val (.ref a_ASK), .val (.int (1 : Int32)), .val (.ref b10), .unset] [])) rfl (hb hby at_158) (by decide) (by decide)
    obtain ⟨b17, g17⟩ : ∃ z, z = h16.size := ⟨_, rfl⟩
    rw [← g17] at A17 D17 st17
    have g_b17 : n0 ≤ b17 := Nat.le_trans (O.1 ▸ O.2.1) (Nat.le_of_eq g17.symm)
    have ne_lo4_b17 : lo4 ≠ b17 := Nat.ne_of_lt (Nat.lt_of_lt_of_le E_lo4.lt (Nat.le_of_eq g17.symm))
    have ne_lt4_b17 : lt4 ≠ b17 := Nat.ne_of_lt (Nat.lt_of_lt_of_le V_lt4.lt (Nat.le_of_eq g17.symm))
    have ne_lo6_b17 : lo6 ≠ b17 := Nat.ne_of_lt (Nat.lt_of_lt_of_le E_lo6.lt (Nat.le_of_eq g17.symm))
    have ne_lt6_b17 : lt6 ≠ b17 := Nat.ne_of_lt (Nat.lt_of_lt_of_le V_lt6.lt (Nat.le_of_eq g17.symm))
    have ne_b10_b17 : b10 ≠ b17 := Nat.ne_of_lt (Nat.lt_of_lt_of_le V_b10.lt (Nat.le_of_eq g17.symm))
    have C0 := C
    replace C := C.trans (CHr.ext E17 C.1)
    replace O := O.ext E17
    replace hk0 := Nat.le_trans hk0 E17.1
    replace E_lo4 := E_lo4.ext E17
    replace F_vlo4 := F_vlo4.ext E17
    replace F_clo4 := F_clo4.ext E17
    replace V_lt4 := V_lt4.ext E17
    replace E_lo6 := E_lo6.ext E17
    replace F_vlo6 := F_vlo6.ext E17
    replace F_clo6 := F_clo6.ext E17
    replace V_lt6 := V_lt6.ext E17
    replace V_b10 := V_b10.ext E17
    have Z_b17 := Safe.ext (EL := consts_1) E17 C0.1 (Safe.new (Nat.le_of_eq g17.symm) : Safe Z consts_1 _ _ b17)
    have E_b17 : Exa Z h17 b17 "java/lang/String" := A17
    have F_coder_b17 : Fld Z h17 b17 "java/lang/String" "coder" "B" (.int (0 : Int32)) := D17 (Or.inr (hw _ (List.mem_of_getElem? (i := 36) rfl))) (ty := .byte) (by decide)
    have F_value_b17 : Fld Z h17 b17 "java/lang/String" "value" "[B" .null := D17 (Or.inr (hw _ (List.mem_of_getElem? (i := 38) rfl))) (ty := (.array .byte)) (by decide)
    refine Goes.to (T' := T17) (mkF m 161 #[.val (.int p0), .val (.int p1), .val (.int p2), .val (.int p3), .val (.int (0 : Int32)), .val (.ref a_BID), .val (.ref a_ASK), .val (.int (1 : Int32)), .val (.ref b10), .unset] [(.ref b17)]) st17 ?_
    refine Goes.to (T' := T17) (mkF m 162 #[.val (.int p0), .val (.int p1), .val (.int p2), .val (.int p3), .val (.int (0 : Int32)), .val (.ref a_BID), .val (.ref a_ASK), .val (.int (1 : Int32)), .val (.ref b10), .unset] [(.ref b17), (.ref b17)]) (fun t k => XS.dup X17.here hx rfl (hb hby at_161) rfl rfl k) ?_
    refine Goes.to (T' := T17) (mkF m 164 #[.val (.int p0), .val (.int p1), .val (.int p2), .val (.int p3), .val (.int (0 : Int32)), .val (.ref a_BID), .val (.ref a_ASK), .val (.int (1 : Int32)), .val (.ref b10), .unset] [(.ref b10), (.ref b17), (.ref b17)]) (fun t k => XS.aload X17.here hx rfl (hb hby at_162) rfl rfl k) ?_
    have hp : ∀ c ∈ ([(nar .char d0), (nar .char d1), (nar .char d2)] : List Int32), ¬ c < 0 ∧ ¬ (255 : Int32) < c := by
      intro c hc
      simp only [List.mem_cons, List.not_mem_nil, or_false] at hc
      rcases hc with rfl | rfl | rfl <;> first | exact own_nc hd0 | exact own_nc hd1 | exact own_nc hd2 | decide
    obtain ⟨_, _, ⟨T18, L18, k18, n18⟩, -, X18, ⟨Lc18, hQ18, l18, y18, z18⟩, st18⟩ := X17.specialBack hx (y := (⟨"java/lang/String", "<init>", "([C)V"⟩ : MethodName)) rfl hown (mvT hZ (hw _ (List.mem_of_getElem? (i := 13) rfl))) (mvT hZ (hw _ (List.mem_of_getElem? (i := 14) rfl))) (mvT hZ (hw _ (List.mem_of_getElem? (i := 15) rfl))) (by decide) (StrChars.Road.backV (W := 1) hZ (fun d hd => hw d (own_words d hd)) (kI := 4) (hw _ (List.mem_of_getElem? (i := 11) rfl)) (cs := ([(nar .char d0), (nar .char d1), (nar .char d2)] : List Int32)) (bs := (([(nar .char d0), (nar .char d1), (nar .char d2)] : List Int32)).map StrChars.lo8) (n := 3) g_b17 (O.1 ▸ O.2.1) E_b17 F_value_b17 F_coder_b17 V_b10 (S_CS.ext O.2) hcz rfl rfl (by decide) (by decide) hp rfl (by decide) (by decide)) (g := (mkF m 164 #[.val (.int p0), .val (.int p1), .val (.int p2), .val (.int p3), .val (.int (0 : Int32)), .val (.ref a_BID), .val (.ref a_ASK), .val (.int (1 : Int32)), .val (.ref b10), .unset] [(.ref b10), (.ref b17), (.ref b17)])) rfl (by rw [hml]; rfl) (Steps.refl _) (a := b17) (argsL := [(.ref b10)]) (rest := [(.ref b17)]) (lenOf pd_0 rfl) rfl (by show 2 * 0 + _ ≤ _; exact Nat.le_of_eq rfl) (hb hby at_164) (fun _ _ => ⟨rfl, e17, (by decide : 11 + 1 ≤ _), (by decide : 33 + 3 ≤ _)⟩)
    dsimp only [Pt.U, Pt.locs, Pt.cells, Pt.slots] at X18 l18 y18 z18 st18 hQ18
    subst l18 y18 z18
    obtain ⟨rfl, N18, K18, E_dr, F_cdr, dt, dk, -, -, -, F_vdr, V_dt⟩ := hQ18
    have N18' := Fr.app N16 N18
    have C' := C.trans (CHr.keep K18 (sfS Z_b17 sf0) C.1)
    have zz0 := Safe.keep K18 (sfS Z_b17 sf0) C.1 Z_b17
    replace Z_b17 := zz0
    replace C := C'
    replace E_lo4 := E_lo4.keep K18
    replace F_vlo4 := F_vlo4.keep K18 (ninS ne_lo4_b17 (nin0))
    replace F_clo4 := F_clo4.keep K18 (ninS ne_lo4_b17 (nin0))
    replace V_lt4 := V_lt4.keep K18 (ninS ne_lt4_b17 (nin0))
    replace E_lo6 := E_lo6.keep K18
    replace F_vlo6 := F_vlo6.keep K18 (ninS ne_lo6_b17 (nin0))
    replace F_clo6 := F_clo6.keep K18 (ninS ne_lo6_b17 (nin0))
    replace V_lt6 := V_lt6.keep K18 (ninS ne_lt6_b17 (nin0))
    replace V_b10 := V_b10.keep K18 (ninS ne_b10_b17 (nin0))
    replace E_b17 := E_b17.keep K18
    replace O := O.keep K18 (allS g_b17 all0)
    replace hk0 := Nat.le_trans hk0 K18.1
    have hbdD : ∀ c ∈ ([(nar .char d0), (nar .char d1), (nar .char d2)] : List Int32), ¬ c < 0 ∧ ¬ (65535 : Int32) < c := fun c hc => own_up (hp c hc)
    have hcdD := StrChars.Road.codOf (cs := ([(nar .char d0), (nar .char d1), (nar .char d2)] : List Int32)) (n := 3) rfl (fun c hc => (hp c hc).2)
    refine Goes.to (T' := T18) (mkF m 167 #[.val (.int p0), .val (.int p1), .val (.int p2), .val (.int p3), .val (.int (0 : Int32)), .val (.ref a_BID), .val (.ref a_ASK), .val (.int (1 : Int32)), .val (.ref b10), .unset] [(.ref b17)]) (fun t k => st18.trans k) ?_
    refine Goes.to (T' := T18) (mkF m 169 #[.val (.int p0), .val (.int p1), .val (.int p2), .val (.int p3), .val (.int (0 : Int32)), .val (.ref a_BID), .val (.ref a_ASK), .val (.int (1 : Int32)), .val (.ref b10), .val (.ref b17)] []) (fun t k => XS.astore X18.here hx rfl (hb hby at_167) rfl rfl (l' := #[.val (.int p0), .val (.int p1), .val (.int p2), .val (.int p3), .val (.int (0 : Int32)), .val (.ref a_BID), .val (.ref a_ASK), .val (.int (1 : Int32)), .val (.ref b10), .val (.ref b17)]) rfl k) ?_
    refine Goes.to (T' := T18) (mkF m 171 #[.val (.int p0), .val (.int p1), .val (.int p2), .val (.int p3), .val (.int (0 : Int32)), .val (.ref a_BID), .val (.ref a_ASK), .val (.int (1 : Int32)), .val (.ref b10), .val (.ref b17)] [(.ref b17)]) (fun t k => XS.aload X18.here hx rfl (hb hby at_169) rfl rfl k) ?_
    obtain ⟨str19, T19, h19, k19, sb19, kb19, X19, e19, E19, hS19, hk19, hZ19, hown19, E_str19, F_coder_str19, F_value_str19, V_sb19, lt_str19, lt_sb19, R19, -, hne19, st19⟩ := ldcCH X18 hx hZ hown (hw _ (List.mem_of_getElem? (i := 74) rfl)) (fun a ha => hw a (own_strs a ha)) rfl hS0 hk0 hEL (by decide) C.1 (vs := [(.int (98 : Int32)), (.int (105 : Int32)), (.int (100 : Int32))]) (z := 3) ⟨by decide, rfl⟩ (by decide) rfl (g := (mkF m 171 #[.val (.int p0), .val (.int p1), .val (.int p2), .val (.int p3), .val (.int (0 : Int32)), .val (.ref a_BID), .val (.ref a_ASK), .val (.int (1 : Int32)), .val (.ref b10), .val (.ref b17)] [(.ref b17)])) rfl (hb hby at_171) (n := 12) (by decide) (by decide) (by decide) (by decide)
    replace Z_b17 := CHr.safe R19 E_b17.lt Z_b17
    replace C := C.trans R19
    replace O := O.ext E19
    replace E_lo4 := E_lo4.ext E19
    replace F_vlo4 := F_vlo4.ext E19
    replace F_clo4 := F_clo4.ext E19
    replace V_lt4 := V_lt4.ext E19
    replace E_lo6 := E_lo6.ext E19
    replace F_vlo6 := F_vlo6.ext E19
    replace F_clo6 := F_clo6.ext E19
    replace V_lt6 := V_lt6.ext E19
    replace V_b10 := V_b10.ext E19
    replace E_b17 := E_b17.ext E19
    have ne_b17_str19 := (hne19 _ Z_b17).1
    have ne_b17_sb19 := (hne19 _ Z_b17).2
    replace E_dr := E_dr.ext E19
    replace F_vdr := F_vdr.ext E19
    replace F_cdr := F_cdr.ext E19
    replace V_dt := V_dt.ext E19
    replace hS0 := hS19
    replace hk0 := hk19
    replace hZ := hZ19
    replace hown := hown19
    refine Goes.to (T' := T19) (mkF m 173 #[.val (.int p0), .val (.int p1), .val (.int p2), .val (.int p3), .val (.int (0 : Int32)), .val (.ref a_BID), .val (.ref a_ASK), .val (.int (1 : Int32)), .val (.ref b10), .val (.ref b17)] [(.ref str19), (.ref b17)]) st19 ?_
    obtain ⟨cq20, kq20, q20a, q20b, q20c⟩ := isOf hZ e19 E_b17
    obtain ⟨_, _, ⟨T20, L20, k20, n20⟩, -, X20, ⟨Lc20, hQ20, l20, y20, z20⟩, st20⟩ := X19.virtualBack hx (y := (⟨"java/lang/String", "equals", "(Ljava/lang/Object;)Z"⟩ : MethodName)) (z := (⟨"java/lang/String", "equals", "(Ljava/lang/Object;)Z"⟩ : MethodName)) hown (mvT hZ (hw _ (List.mem_of_getElem? (i := 77) rfl))) (mvT hZ (hw _ (List.mem_of_getElem? (i := 60) rfl))) (notFace_of_selects (args := #[]) (mvT hZ (hw _ (List.mem_of_getElem? (i := 62) rfl)))) (mvT hZ (hw _ (List.mem_of_getElem? (i := 62) rfl))) (mvT hZ (hw _ (List.mem_of_getElem? (i := 61) rfl))) (by decide) (own_eqv (n0 := n0) (StrChars.Road.eqW (W := 0) hZ (fun d hd => hw d (own_wordsE d hd)) (kI := 4) (hw _ (List.mem_of_getElem? (i := 11) rfl)) E_dr F_vdr F_cdr V_dt hcdD hbdD (Nat.le_of_ble_eq_true rfl) E_str19 F_value_str19 F_coder_str19 V_sb19 own_codB own_bdB (by decide) (S_CS.ext O.2) hcz (by decide) (by decide))) q20a q20c (g := (mkF m 173 #[.val (.int p0), .val (.int p1), .val (.int p2), .val (.int p3), .val (.int (0 : Int32)), .val (.ref a_BID), .val (.ref a_ASK), .val (.int (1 : Int32)), .val (.ref b10), .val (.ref b17)] [(.ref str19), (.ref b17)])) rfl (by rw [hml]; rfl) (Steps.refl _) (argsL := [(.ref str19)]) (rest := []) (lenOf pd_2 rfl) rfl (by show 2 * 0 + _ ≤ _; exact Nat.le_of_eq rfl) (hb hby at_173) (fun _ _ => ⟨rfl, e19, (by decide : 14 + 0 ≤ _), (by decide : 52 + 0 ≤ _)⟩)
    dsimp only [Pt.U, Pt.locs, Pt.cells, Pt.slots] at X20 l20 y20 z20 st20 hQ20
    subst l20 y20 z20
    obtain ⟨rfl, N20, hs20⟩ := hQ20
    have N20' := Fr.app N18' N20
    refine Goes.to (T' := T20) (mkF m 176 #[.val (.int p0), .val (.int p1), .val (.int p2), .val (.int p3), .val (.int (0 : Int32)), .val (.ref a_BID), .val (.ref a_ASK), .val (.int (1 : Int32)), .val (.ref b10), .val (.ref b17)] [(.int (bit ([(nar .char d0), (nar .char d1), (nar .char d2)] = [(98 : Int32), (105 : Int32), (100 : Int32)])))]) (fun t k => st20.trans k) ?_
    by_cases hc176_21 : (bit ([(nar .char d0), (nar .char d1), (nar .char d2)] = [(98 : Int32), (105 : Int32), (100 : Int32)])) = (0 : Int32)
    · refine Goes.to (T' := T20) (mkF m 205 #[.val (.int p0), .val (.int p1), .val (.int p2), .val (.int p3), .val (.int (0 : Int32)), .val (.ref a_BID), .val (.ref a_ASK), .val (.int (1 : Int32)), .val (.ref b10), .val (.ref b17)] []) (fun t k => XS.ifYes X20.here hx rfl (pc0 := 176) (pc' := 205) rfl (hb hby at_176) rfl ((if0 _ _).trans (teq hc176_21).1) (by decide) (by decide) k) ?_
      refine Goes.to (T' := T20) (mkF m 207 #[.val (.int p0), .val (.int p1), .val (.int p2), .val (.int p3), .val (.int (0 : Int32)), .val (.ref a_BID), .val (.ref a_ASK), .val (.int (1 : Int32)), .val (.ref b10), .val (.ref b17)] [(.ref b17)]) (fun t k => XS.aload X20.here hx rfl (hb hby at_205) rfl rfl k) ?_
      obtain ⟨str22, T22, h22, k22, sb22, kb22, X22, e22, E22, hS22, hk22, hZ22, hown22, E_str22, F_coder_str22, F_value_str22, V_sb22, lt_str22, lt_sb22, R22, -, hne22, st22⟩ := ldcCH X20 hx hZ hown (hw _ (List.mem_of_getElem? (i := 78) rfl)) (fun a ha => hw a (own_strs a ha)) hs20 hS0 hk0 hEL (by decide) C.1 (vs := [(.int (97 : Int32)), (.int (115 : Int32)), (.int (107 : Int32))]) (z := 3) ⟨by decide, rfl⟩ (by decide) rfl (g := (mkF m 207 #[.val (.int p0), .val (.int p1), .val (.int p2), .val (.int p3), .val (.int (0 : Int32)), .val (.ref a_BID), .val (.ref a_ASK), .val (.int (1 : Int32)), .val (.ref b10), .val (.ref b17)] [(.ref b17)])) rfl (hb hby at_207) (n := 12) (by decide) (by decide) (by decide) (by decide)
      replace Z_b17 := CHr.safe R22 E_b17.lt Z_b17
      replace C := C.trans R22
      replace O := O.ext E22
      replace E_lo4 := E_lo4.ext E22
      replace F_vlo4 := F_vlo4.ext E22
      replace F_clo4 := F_clo4.ext E22
      replace V_lt4 := V_lt4.ext E22
      replace E_lo6 := E_lo6.ext E22
      replace F_vlo6 := F_vlo6.ext E22
      replace F_clo6 := F_clo6.ext E22
      replace V_lt6 := V_lt6.ext E22
      replace V_b10 := V_b10.ext E22
      replace E_b17 := E_b17.ext E22
      have ne_b17_str22 := (hne22 _ Z_b17).1
      have ne_b17_sb22 := (hne22 _ Z_b17).2
      replace E_dr := E_dr.ext E22
      replace F_vdr := F_vdr.ext E22
      replace F_cdr := F_cdr.ext E22
      replace V_dt := V_dt.ext E22
      replace E_str19 := E_str19.ext E22
      replace F_coder_str19 := F_coder_str19.ext E22
      replace F_value_str19 := F_value_str19.ext E22
      replace V_sb19 := V_sb19.ext E22
      replace hS0 := hS22
      replace hk0 := hk22
      replace hZ := hZ22
      replace hown := hown22
      refine Goes.to (T' := T22) (mkF m 209 #[.val (.int p0), .val (.int p1), .val (.int p2), .val (.int p3), .val (.int (0 : Int32)), .val (.ref a_BID), .val (.ref a_ASK), .val (.int (1 : Int32)), .val (.ref b10), .val (.ref b17)] [(.ref str22), (.ref b17)]) st22 ?_
      obtain ⟨cq23, kq23, q23a, q23b, q23c⟩ := isOf hZ e22 E_b17
      obtain ⟨_, _, ⟨T23, L23, k23, n23⟩, -, X23, ⟨Lc23, hQ23, l23, y23, z23⟩, st23⟩ := X22.virtualBack hx (y := (⟨"java/lang/String", "equals", "(Ljava/lang/Object;)Z"⟩ : MethodName)) (z := (⟨"java/lang/String", "equals", "(Ljava/lang/Object;)Z"⟩ : MethodName)) hown (mvT hZ (hw _ (List.mem_of_getElem? (i := 77) rfl))) (mvT hZ (hw _ (List.mem_of_getElem? (i := 60) rfl))) (notFace_of_selects (args := #[]) (mvT hZ (hw _ (List.mem_of_getElem? (i := 62) rfl)))) (mvT hZ (hw _ (List.mem_of_getElem? (i := 62) rfl))) (mvT hZ (hw _ (List.mem_of_getElem? (i := 61) rfl))) (by decide) (own_eqv (n0 := n0) (StrChars.Road.eqW (W := 0) hZ (fun d hd => hw d (own_wordsE d hd)) (kI := 4) (hw _ (List.mem_of_getElem? (i := 11) rfl)) E_dr F_vdr F_cdr V_dt hcdD hbdD (Nat.le_of_ble_eq_true rfl) E_str22 F_value_str22 F_coder_str22 V_sb22 own_codA own_bdA (by decide) (S_CS.ext O.2) hcz (by decide) (by decide))) q23a q23c (g := (mkF m 209 #[.val (.int p0), .val (.int p1), .val (.int p2), .val (.int p3), .val (.int (0 : Int32)), .val (.ref a_BID), .val (.ref a_ASK), .val (.int (1 : Int32)), .val (.ref b10), .val (.ref b17)] [(.ref str22), (.ref b17)])) rfl (by rw [hml]; rfl) (Steps.refl _) (argsL := [(.ref str22)]) (rest := []) (lenOf pd_2 rfl) rfl (by show 2 * 0 + _ ≤ _; exact Nat.le_of_eq rfl) (hb hby at_209) (fun _ _ => ⟨rfl, e22, (by decide : 16 + 0 ≤ _), (by decide : 68 + 0 ≤ _)⟩)
      dsimp only [Pt.U, Pt.locs, Pt.cells, Pt.slots] at X23 l23 y23 z23 st23 hQ23
      subst l23 y23 z23
      obtain ⟨rfl, N23, hs23⟩ := hQ23
      have N23' := Fr.app N20' N23
      refine Goes.to (T' := T23) (mkF m 212 #[.val (.int p0), .val (.int p1), .val (.int p2), .val (.int p3), .val (.int (0 : Int32)), .val (.ref a_BID), .val (.ref a_ASK), .val (.int (1 : Int32)), .val (.ref b10), .val (.ref b17)] [(.int (bit ([(nar .char d0), (nar .char d1), (nar .char d2)] = [(97 : Int32), (115 : Int32), (107 : Int32)])))]) (fun t k => st23.trans k) ?_
      by_cases hc212_24 : (bit ([(nar .char d0), (nar .char d1), (nar .char d2)] = [(97 : Int32), (115 : Int32), (107 : Int32)])) = (0 : Int32)
      · refine Goes.to (T' := T23) (mkF m 238 #[.val (.int p0), .val (.int p1), .val (.int p2), .val (.int p3), .val (.int (0 : Int32)), .val (.ref a_BID), .val (.ref a_ASK), .val (.int (1 : Int32)), .val (.ref b10), .val (.ref b17)] []) (fun t k => XS.ifYes X23.here hx rfl (pc0 := 212) (pc' := 238) rfl (hb hby at_212) rfl ((if0 _ _).trans (teq hc212_24).1) (by decide) (by decide) k) ?_
        refine Goes.to (T' := T23) (mkF m 240 #[.val (.int p0), .val (.int p1), .val (.int p2), .val (.int p3), .val (.int (0 : Int32)), .val (.ref a_BID), .val (.ref a_ASK), .val (.int (1 : Int32)), .val (.ref b10), .val (.ref b17)] [(.int (1 : Int32))]) (fun t k => XS.iload X23.here hx rfl (hb hby at_238) rfl k) ?_
        refine Goes.retNW X23 hx Bd.notSynchronized hS0 (by rw [hs23]; exact hk0) (t := .boolean) Bd.returns (by simp) (hb hby at_240) (by decide) (by decide) ?_
        rw [hs23]
        exact ⟨rfl, N23'⟩
      · refine Goes.to (T' := T23) (mkF m 215 #[.val (.int p0), .val (.int p1), .val (.int p2), .val (.int p3), .val (.int (0 : Int32)), .val (.ref a_BID), .val (.ref a_ASK), .val (.int (1 : Int32)), .val (.ref b10), .val (.ref b17)] []) (fun t k => XS.ifNo X23.here hx rfl (hb hby at_212) rfl ((if0 _ _).trans (feq hc212_24).1) k) ?_
        refine Goes.to (T' := T23) (mkF m 217 #[.val (.int p0), .val (.int p1), .val (.int p2), .val (.int p3), .val (.int (0 : Int32)), .val (.ref a_BID), .val (.ref a_ASK), .val (.int (1 : Int32)), .val (.ref b10), .val (.ref b17)] [(.int (1 : Int32))]) (fun t k => XS.iload X23.here hx rfl (hb hby at_215) rfl k) ?_
        refine Goes.to (T' := T23) (mkF m 220 #[.val (.int p0), .val (.int p1), .val (.int p2), .val (.int p3), .val (.int (0 : Int32)), .val (.ref a_BID), .val (.ref a_ASK), .val (.int (1 : Int32)), .val (.ref b10), .val (.ref b17)] []) (fun t k => XS.ifNo X23.here hx rfl (hb hby at_217) rfl ((if0 _ _).trans (feq ((by decide) : ¬ ((1 : Int32) = (0 : Int32)))).1) k) ?_
        refine Goes.to (T' := T23) (mkF m 222 #[.val (.int p0), .val (.int p1), .val (.int p2), .val (.int p3), .val (.int (0 : Int32)), .val (.ref a_BID), .val (.ref a_ASK), .val (.int (1 : Int32)), .val (.ref b10), .val (.ref b17)] [(.ref b17)]) (fun t k => XS.aload X23.here hx rfl (hb hby at_220) rfl rfl k) ?_
        obtain ⟨_, _, ⟨T25, L25, k25, n25⟩, -, X25, ⟨Lc25, hQ25, l25, y25, z25⟩, st25⟩ := Jvm.LawKit.callS X23 hx (y := (⟨"com/example/marktide/marktide/engine/OrderBook$Side", "named", "(Ljava/lang/String;)Lcom/example/marktide/marktide/engine/OrderBook$Side;"⟩ : MethodName)) hown (mvT hZ (hw _ (List.mem_of_getElem? (i := 39) rfl))) (mvT hZ (hw _ (List.mem_of_getElem? (i := 40) rfl))) (mvT hZ (hw _ (List.mem_of_getElem? (i := 1) rfl))) (mvT hZ (hw _ (List.mem_of_getElem? (i := 41) rfl))) (by decide) (backOf (W := 0) (rm_namedA l Z a0 hw [] b17 _ _ _ _ _ va a_BID a_ASK lBID lASK tBID tASK kv kBID kASK cz h22 n0 O E_dr F_vdr F_cdr V_dt hcdD hbdD (Nat.le_of_ble_eq_true rfl) (own_bit1 hc212_24) S_VALUES V_va E_va F_lBID E_lBID F_vBID F_cBID V_tBID F_lASK E_lASK F_vASK F_cASK V_tASK S_CS hcz) hZ (hw _ (List.mem_of_getElem? (i := 41) rfl)) (hw _ (List.mem_of_getElem? (i := 1) rfl)) (by decide) (by decide)) (g := (mkF m 222 #[.val (.int p0), .val (.int p1), .val (.int p2), .val (.int p3), .val (.int (0 : Int32)), .val (.ref a_BID), .val (.ref a_ASK), .val (.int (1 : Int32)), .val (.ref b10), .val (.ref b17)] [(.ref b17)])) rfl (by rw [hml]; rfl) (argsL := [(.ref b17)]) (rest := []) (lenOf pd_4 rfl) rfl (by show 2 * 0 + _ ≤ _; exact Nat.le_of_eq rfl) (hb hby at_222) (fun _ _ => ⟨rfl, hs23, (by decide : 16 + 1 ≤ _), (by decide : 68 + 2 ≤ _)⟩)
        dsimp only [Pt.U, Pt.locs, Pt.cells, Pt.slots] at X25 l25 y25 z25 st25 hQ25
        subst l25 y25 z25
        obtain ⟨rfl, N25, K25⟩ := hQ25
        have N25' := Fr.app N23' N25
        have C' := C.trans (CHr.keep K25 sf0 C.1)
        have zz0 := Safe.keep K25 sf0 C.1 Z_b17
        replace Z_b17 := zz0
        replace C := C'
        replace E_lo4 := E_lo4.keep K25
        replace F_vlo4 := F_vlo4.keep K25 nin0
        replace F_clo4 := F_clo4.keep K25 nin0
        replace V_lt4 := V_lt4.keep K25 nin0
        replace E_lo6 := E_lo6.keep K25
        replace F_vlo6 := F_vlo6.keep K25 nin0
        replace F_clo6 := F_clo6.keep K25 nin0
        replace V_lt6 := V_lt6.keep K25 nin0
        replace V_b10 := V_b10.keep K25 nin0
        replace E_b17 := E_b17.keep K25
        replace E_dr := E_dr.keep K25
        replace F_vdr := F_vdr.keep K25 nin0
        replace F_cdr := F_cdr.keep K25 nin0
        replace V_dt := V_dt.keep K25 nin0
        replace E_str19 := E_str19.keep K25
        replace F_coder_str19 := F_coder_str19.keep K25 nin0
        replace F_value_str19 := F_value_str19.keep K25 nin0
        replace V_sb19 := V_sb19.keep K25 nin0
        replace E_str22 := E_str22.keep K25
        replace F_coder_str22 := F_coder_str22.keep K25 nin0
        replace F_value_str22 := F_value_str22.keep K25 nin0
        replace V_sb22 := V_sb22.keep K25 nin0
        replace O := O.keep K25 all0
        replace hk0 := Nat.le_trans hk0 K25.1
        refine Goes.to (T' := T25) (mkF m 225 #[.val (.int p0), .val (.int p1), .val (.int p2), .val (.int p3), .val (.int (0 : Int32)), .val (.ref a_BID), .val (.ref a_ASK), .val (.int (1 : Int32)), .val (.ref b10), .val (.ref b17)] [(.ref a_ASK)]) (fun t k => st25 t k) ?_
        obtain ⟨T26, X26, e26, st26⟩ := getS2 X25 hx hZ hown (host := "") (Or.inl (hw _ (List.mem_of_getElem? (i := 3) rfl))) Via.refl rfl (S_ASK.ext O.2) (g := (mkF m 225 #[.val (.int p0), .val (.int p1), .val (.int p2), .val (.int p3), .val (.int (0 : Int32)), .val (.ref a_BID), .val (.ref a_ASK), .val (.int (1 : Int32)), .val (.ref b10), .val (.ref b17)] [(.ref a_ASK)])) rfl (hb hby at_225)
        refine Goes.to (T' := T26) (mkF m 228 #[.val (.int p0), .val (.int p1), .val (.int p2), .val (.int p3), .val (.int (0 : Int32)), .val (.ref a_BID), .val (.ref a_ASK), .val (.int (1 : Int32)), .val (.ref b10), .val (.ref b17)] [(.ref a_ASK), (.ref a_ASK)]) st26 ?_
        refine Goes.to (T' := T26) (mkF m 231 #[.val (.int p0), .val (.int p1), .val (.int p2), .val (.int p3), .val (.int (0 : Int32)), .val (.ref a_BID), .val (.ref a_ASK), .val (.int (1 : Int32)), .val (.ref b10), .val (.ref b17)] []) (fun t k => Jvm.RoadKit.acmp (g := (mkF m 228 #[.val (.int p0), .val (.int p1), .val (.int p2), .val (.int p3), .val (.int (0 : Int32)), .val (.ref a_BID), .val (.ref a_ASK), .val (.int (1 : Int32)), .val (.ref b10), .val (.ref b17)] [(.ref a_ASK), (.ref a_ASK)])) X26 hx rfl rfl rfl (pc0 := 228) (pc' := 231) (same := true) rfl (hb hby at_228) rfl (decide_eq_true rfl) (by decide) (by decide) k) ?_
        refine Goes.to (T' := T26) (mkF m 232 #[.val (.int p0), .val (.int p1), .val (.int p2), .val (.int p3), .val (.int (0 : Int32)), .val (.ref a_BID), .val (.ref a_ASK), .val (.int (1 : Int32)), .val (.ref b10), .val (.ref b17)] [(.int (1 : Int32))]) (fun t k => XS.iconst X26.here hx rfl (hb hby at_231) k) ?_
        refine Goes.to (T' := T26) (mkF m 236 #[.val (.int p0), .val (.int p1), .val (.int p2), .val (.int p3), .val (.int (0 : Int32)), .val (.ref a_BID), .val (.ref a_ASK), .val (.int (1 : Int32)), .val (.ref b10), .val (.ref b17)] [(.int (1 : Int32))]) (fun t k => XS.goto X26.here hx rfl (pc0 := 232) (pc' := 236) rfl (hb hby at_232) (by decide) (by decide) k) ?_
        refine Goes.to (T' := T26) (mkF m 238 #[.val (.int p0), .val (.int p1), .val (.int p2), .val (.int p3), .val (.int (0 : Int32)), .val (.ref a_BID), .val (.ref a_ASK), .val (.int (1 : Int32)), .val (.ref b10), .val (.ref b17)] []) (fun t k => XS.istore X26.here hx rfl (hb hby at_236) rfl (l' := #[.val (.int p0), .val (.int p1), .val (.int p2), .val (.int p3), .val (.int (0 : Int32)), .val (.ref a_BID), .val (.ref a_ASK), .val (.int (1 : Int32)), .val (.ref b10), .val (.ref b17)]) rfl k) ?_
        refine Goes.to (T' := T26) (mkF m 240 #[.val (.int p0), .val (.int p1), .val (.int p2), .val (.int p3), .val (.int (0 : Int32)), .val (.ref a_BID), .val (.ref a_ASK), .val (.int (1 : Int32)), .val (.ref b10), .val (.ref b17)] [(.int (1 : Int32))]) (fun t k => XS.iload X26.here hx rfl (hb hby at_238) rfl k) ?_
        refine Goes.retNW X26 hx Bd.notSynchronized hS0 (by rw [e26]; exact hk0) (t := .boolean) Bd.returns (by simp) (hb hby at_240) (by decide) (by decide) ?_
        rw [e26]
        exact ⟨rfl, N25'⟩
    · refine Goes.to (T' := T20) (mkF m 179 #[.val (.int p0), .val (.int p1), .val (.int p2), .val (.int p3), .val (.int (0 : Int32)), .val (.ref a_BID), .val (.ref a_ASK), .val (.int (1 : Int32)), .val (.ref b10), .val (.ref b17)] []) (fun t k => XS.ifNo X20.here hx rfl (hb hby at_176) rfl ((if0 _ _).trans (feq hc176_21).1) k) ?_
      refine Goes.to (T' := T20) (mkF m 181 #[.val (.int p0), .val (.int p1), .val (.int p2), .val (.int p3), .val (.int (0 : Int32)), .val (.ref a_BID), .val (.ref a_ASK), .val (.int (1 : Int32)), .val (.ref b10), .val (.ref b17)] [(.int (1 : Int32))]) (fun t k => XS.iload X20.here hx rfl (hb hby at_179) rfl k) ?_
      refine Goes.to (T' := T20) (mkF m 184 #[.val (.int p0), .val (.int p1), .val (.int p2), .val (.int p3), .val (.int (0 : Int32)), .val (.ref a_BID), .val (.ref a_ASK), .val (.int (1 : Int32)), .val (.ref b10), .val (.ref b17)] []) (fun t k => XS.ifNo X20.here hx rfl (hb hby at_181) rfl ((if0 _ _).trans (feq ((by decide) : ¬ ((1 : Int32) = (0 : Int32)))).1) k) ?_
      refine Goes.to (T' := T20) (mkF m 186 #[.val (.int p0), .val (.int p1), .val (.int p2), .val (.int p3), .val (.int (0 : Int32)), .val (.ref a_BID), .val (.ref a_ASK), .val (.int (1 : Int32)), .val (.ref b10), .val (.ref b17)] [(.ref b17)]) (fun t k => XS.aload X20.here hx rfl (hb hby at_184) rfl rfl k) ?_
      obtain ⟨_, _, ⟨T27, L27, k27, n27⟩, -, X27, ⟨Lc27, hQ27, l27, y27, z27⟩, st27⟩ := Jvm.LawKit.callS X20 hx (y := (⟨"com/example/marktide/marktide/engine/OrderBook$Side", "named", "(Ljava/lang/String;)Lcom/example/marktide/marktide/engine/OrderBook$Side;"⟩ : MethodName)) hown (mvT hZ (hw _ (List.mem_of_getElem? (i := 39) rfl))) (mvT hZ (hw _ (List.mem_of_getElem? (i := 40) rfl))) (mvT hZ (hw _ (List.mem_of_getElem? (i := 1) rfl))) (mvT hZ (hw _ (List.mem_of_getElem? (i := 41) rfl))) (by decide) (backOf (W := 0) (rm_namedB l Z a0 hw [] b17 _ _ _ _ _ va a_BID a_ASK lBID lASK tBID tASK kv kBID kASK cz h19 n0 O E_dr F_vdr F_cdr V_dt hcdD hbdD (Nat.le_of_ble_eq_true rfl) (own_bit1 hc176_21) S_VALUES V_va E_va F_lBID E_lBID F_vBID F_cBID V_tBID F_lASK E_lASK F_vASK F_cASK V_tASK S_CS hcz) hZ (hw _ (List.mem_of_getElem? (i := 41) rfl)) (hw _ (List.mem_of_getElem? (i := 1) rfl)) (by decide) (by decide)) (g := (mkF m 186 #[.val (.int p0), .val (.int p1), .val (.int p2), .val (.int p3), .val (.int (0 : Int32)), .val (.ref a_BID), .val (.ref a_ASK), .val (.int (1 : Int32)), .val (.ref b10), .val (.ref b17)] [(.ref b17)])) rfl (by rw [hml]; rfl) (argsL := [(.ref b17)]) (rest := []) (lenOf pd_4 rfl) rfl (by show 2 * 0 + _ ≤ _; exact Nat.le_of_eq rfl) (hb hby at_186) (fun _ _ => ⟨rfl, hs20, (by decide : 14 + 1 ≤ _), (by decide : 52 + 2 ≤ _)⟩)
      dsimp only [Pt.U, Pt.locs, Pt.cells, Pt.slots] at X27 l27 y27 z27 st27 hQ27
      subst l27 y27 z27
      obtain ⟨rfl, N27, K27⟩ := hQ27
      have N27' := Fr.app N20' N27
      have C' := C.trans (CHr.keep K27 sf0 C.1)
      have zz0 := Safe.keep K27 sf0 C.1 Z_b17
      replace Z_b17 := zz0
      replace C := C'
      replace E_lo4 := E_lo4.keep K27
      replace F_vlo4 := F_vlo4.keep K27 nin0
      replace F_clo4 := F_clo4.keep K27 nin0
      replace V_lt4 := V_lt4.keep K27 nin0
      replace E_lo6 := E_lo6.keep K27
      replace F_vlo6 := F_vlo6.keep K27 nin0
      replace F_clo6 := F_clo6.keep K27 nin0
      replace V_lt6 := V_lt6.keep K27 nin0
      replace V_b10 := V_b10.keep K27 nin0
      replace E_b17 := E_b17.keep K27
      replace E_dr := E_dr.keep K27
      replace F_vdr := F_vdr.keep K27 nin0
      replace F_cdr := F_cdr.keep K27 nin0
      replace V_dt := V_dt.keep K27 nin0
      replace E_str19 := E_str19.keep K27
      replace F_coder_str19 := F_coder_str19.keep K27 nin0
      replace F_value_str19 := F_value_str19.keep K27 nin0
      replace V_sb19 := V_sb19.keep K27 nin0
      replace O := O.keep K27 all0
      replace hk0 := Nat.le_trans hk0 K27.1
      refine Goes.to (T' := T27) (mkF m 189 #[.val (.int p0), .val (.int p1), .val (.int p2), .val (.int p3), .val (.int (0 : Int32)), .val (.ref a_BID), .val (.ref a_ASK), .val (.int (1 : Int32)), .val (.ref b10), .val (.ref b17)] [(.ref a_BID)]) (fun t k => st27 t k) ?_
      obtain ⟨T28, X28, e28, st28⟩ := getS2 X27 hx hZ hown (host := "") (Or.inl (hw _ (List.mem_of_getElem? (i := 0) rfl))) Via.refl rfl (S_BID.ext O.2) (g := (mkF m 189 #[.val (.int p0), .val (.int p1), .val (.int p2), .val (.int p3), .val (.int (0 : Int32)), .val (.ref a_BID), .val (.ref a_ASK), .val (.int (1 : Int32)), .val (.ref b10), .val (.ref b17)] [(.ref a_BID)])) rfl (hb hby at_189)
      refine Goes.to (T' := T28) (mkF m 192 #[.val (.int p0), .val (.int p1), .val (.int p2), .val (.int p3), .val (.int (0 : Int32)), .val (.ref a_BID), .val (.ref a_ASK), .val (.int (1 : Int32)), .val (.ref b10), .val (.ref b17)] [(.ref a_BID), (.ref a_BID)]) st28 ?_
      refine Goes.to (T' := T28) (mkF m 195 #[.val (.int p0), .val (.int p1), .val (.int p2), .val (.int p3), .val (.int (0 : Int32)), .val (.ref a_BID), .val (.ref a_ASK), .val (.int (1 : Int32)), .val (.ref b10), .val (.ref b17)] []) (fun t k => Jvm.RoadKit.acmp (g := (mkF m 192 #[.val (.int p0), .val (.int p1), .val (.int p2), .val (.int p3), .val (.int (0 : Int32)), .val (.ref a_BID), .val (.ref a_ASK), .val (.int (1 : Int32)), .val (.ref b10), .val (.ref b17)] [(.ref a_BID), (.ref a_BID)])) X28 hx rfl rfl rfl (pc0 := 192) (pc' := 195) (same := true) rfl (hb hby at_192) rfl (decide_eq_true rfl) (by decide) (by decide) k) ?_
      refine Goes.to (T' := T28) (mkF m 196 #[.val (.int p0), .val (.int p1), .val (.int p2), .val (.int p3), .val (.int (0 : Int32)), .val (.ref a_BID), .val (.ref a_ASK), .val (.int (1 : Int32)), .val (.ref b10), .val (.ref b17)] [(.int (1 : Int32))]) (fun t k => XS.iconst X28.here hx rfl (hb hby at_195) k) ?_
      refine Goes.to (T' := T28) (mkF m 200 #[.val (.int p0), .val (.int p1), .val (.int p2), .val (.int p3), .val (.int (0 : Int32)), .val (.ref a_BID), .val (.ref a_ASK), .val (.int (1 : Int32)), .val (.ref b10), .val (.ref b17)] [(.int (1 : Int32))]) (fun t k => XS.goto X28.here hx rfl (pc0 := 196) (pc' := 200) rfl (hb hby at_196) (by decide) (by decide) k) ?_
      refine Goes.to (T' := T28) (mkF m 202 #[.val (.int p0), .val (.int p1), .val (.int p2), .val (.int p3), .val (.int (0 : Int32)), .val (.ref a_BID), .val (.ref a_ASK), .val (.int (1 : Int32)), .val (.ref b10), .val (.ref b17)] []) (fun t k => XS.istore X28.here hx rfl (hb hby at_200) rfl (l' := #[.val (.int p0), .val (.int p1), .val (.int p2), .val (.int p3), .val (.int (0 : Int32)), .val (.ref a_BID), .val (.ref a_ASK), .val (.int (1 : Int32)), .val (.ref b10), .val (.ref b17)]) rfl k) ?_
      refine Goes.to (T' := T28) (mkF m 238 #[.val (.int p0), .val (.int p1), .val (.int p2), .val (.int p3), .val (.int (0 : Int32)), .val (.ref a_BID), .val (.ref a_ASK), .val (.int (1 : Int32)), .val (.ref b10), .val (.ref b17)] []) (fun t k => XS.goto X28.here hx rfl (pc0 := 202) (pc' := 238) rfl (hb hby at_202) (by decide) (by decide) k) ?_
      refine Goes.to (T' := T28) (mkF m 240 #[.val (.int p0), .val (.int p1), .val (.int p2), .val (.int p3), .val (.int (0 : Int32)), .val (.ref a_BID), .val (.ref a_ASK), .val (.int (1 : Int32)), .val (.ref b10), .val (.ref b17)] [(.int (1 : Int32))]) (fun t k => XS.iload X28.here hx rfl (hb hby at_238) rfl k) ?_
      refine Goes.retNW X28 hx Bd.notSynchronized hS0 (by rw [e28]; exact hk0) (t := .boolean) Bd.returns (by simp) (hb hby at_240) (by decide) (by decide) ?_
      rw [e28]
      exact ⟨rfl, N27'⟩
  · refine Goes.to (T' := s₁) (mkF m 6 #[.val (.int p0), .val (.int p1), .val (.int p2), .val (.int p3), .unset, .unset, .unset, .unset, .unset, .unset] []) (fun t k => XS.ifNo X0.here hx rfl (hb hby at_3) rfl ((if0 _ _).trans (feq hc3_1).1) k) ?_
    refine Goes.to (T' := s₁) (mkF m 7 #[.val (.int p0), .val (.int p1), .val (.int p2), .val (.int p3), .unset, .unset, .unset, .unset, .unset, .unset] [(.int (1 : Int32))]) (fun t k => XS.iconst X0.here hx rfl (hb hby at_6) k) ?_
    refine Goes.to (T' := s₁) (mkF m 11 #[.val (.int p0), .val (.int p1), .val (.int p2), .val (.int p3), .unset, .unset, .unset, .unset, .unset, .unset] [(.int (1 : Int32))]) (fun t k => XS.goto X0.here hx rfl (pc0 := 7) (pc' := 11) rfl (hb hby at_7) (by decide) (by decide) k) ?_
    refine Goes.to (T' := s₁) (mkF m 13 #[.val (.int p0), .val (.int p1), .val (.int p2), .val (.int p3), .val (.int (1 : Int32)), .unset, .unset, .unset, .unset, .unset] []) (fun t k => XS.istore X0.here hx rfl (hb hby at_11) rfl (l' := #[.val (.int p0), .val (.int p1), .val (.int p2), .val (.int p3), .val (.int (1 : Int32)), .unset, .unset, .unset, .unset, .unset]) rfl k) ?_
    refine Goes.to (T' := s₁) (mkF m 15 #[.val (.int p0), .val (.int p1), .val (.int p2), .val (.int p3), .val (.int (1 : Int32)), .unset, .unset, .unset, .unset, .unset] [(.int (1 : Int32))]) (fun t k => XS.iload X0.here hx rfl (hb hby at_13) rfl k) ?_
    refine Goes.to (T' := s₁) (mkF m 18 #[.val (.int p0), .val (.int p1), .val (.int p2), .val (.int p3), .val (.int (1 : Int32)), .unset, .unset, .unset, .unset, .unset] []) (fun t k => XS.ifNo X0.here hx rfl (hb hby at_15) rfl ((if0 _ _).trans (feq ((by decide) : ¬ ((1 : Int32) = (0 : Int32)))).1) k) ?_
    obtain ⟨T29, X29, e29, st29⟩ := getS2 X0 hx hZ hown (host := "") (Or.inl (hw _ (List.mem_of_getElem? (i := 3) rfl))) Via.refl e0 (S_ASK.ext O.2) (g := (mkF m 18 #[.val (.int p0), .val (.int p1), .val (.int p2), .val (.int p3), .val (.int (1 : Int32)), .unset, .unset, .unset, .unset, .unset] [])) rfl (hb hby at_18)
    refine Goes.to (T' := T29) (mkF m 21 #[.val (.int p0), .val (.int p1), .val (.int p2), .val (.int p3), .val (.int (1 : Int32)), .unset, .unset, .unset, .unset, .unset] [(.ref a_ASK)]) st29 ?_
    refine Goes.to (T' := T29) (mkF m 27 #[.val (.int p0), .val (.int p1), .val (.int p2), .val (.int p3), .val (.int (1 : Int32)), .unset, .unset, .unset, .unset, .unset] [(.ref a_ASK)]) (fun t k => XS.goto X29.here hx rfl (pc0 := 21) (pc' := 27) rfl (hb hby at_21) (by decide) (by decide) k) ?_
    refine Goes.to (T' := T29) (mkF m 29 #[.val (.int p0), .val (.int p1), .val (.int p2), .val (.int p3), .val (.int (1 : Int32)), .val (.ref a_ASK), .unset, .unset, .unset, .unset] []) (fun t k => XS.astore X29.here hx rfl (hb hby at_27) rfl rfl (l' := #[.val (.int p0), .val (.int p1), .val (.int p2), .val (.int p3), .val (.int (1 : Int32)), .val (.ref a_ASK), .unset, .unset, .unset, .unset]) rfl k) ?_
    refine Goes.to (T' := T29) (mkF m 31 #[.val (.int p0), .val (.int p1), .val (.int p2), .val (.int p3), .val (.int (1 : Int32)), .val (.ref a_ASK), .unset, .unset, .unset, .unset] [(.int (1 : Int32))]) (fun t k => XS.iload X29.here hx rfl (hb hby at_29) rfl k) ?_
    refine Goes.to (T' := T29) (mkF m 34 #[.val (.int p0), .val (.int p1), .val (.int p2), .val (.int p3), .val (.int (1 : Int32)), .val (.ref a_ASK), .unset, .unset, .unset, .unset] []) (fun t k => XS.ifNo X29.here hx rfl (hb hby at_31) rfl ((if0 _ _).trans (feq ((by decide) : ¬ ((1 : Int32) = (0 : Int32)))).1) k) ?_
    obtain ⟨T30, X30, e30, st30⟩ := getS2 X29 hx hZ hown (host := "") (Or.inl (hw _ (List.mem_of_getElem? (i := 0) rfl))) Via.refl e29 (S_BID.ext O.2) (g := (mkF m 34 #[.val (.int p0), .val (.int p1), .val (.int p2), .val (.int p3), .val (.int (1 : Int32)), .val (.ref a_ASK), .unset, .unset, .unset, .unset] [])) rfl (hb hby at_34)
    refine Goes.to (T' := T30) (mkF m 37 #[.val (.int p0), .val (.int p1), .val (.int p2), .val (.int p3), .val (.int (1 : Int32)), .val (.ref a_ASK), .unset, .unset, .unset, .unset] [(.ref a_BID)]) st30 ?_
    refine Goes.to (T' := T30) (mkF m 43 #[.val (.int p0), .val (.int p1), .val (.int p2), .val (.int p3), .val (.int (1 : Int32)), .val (.ref a_ASK), .unset, .unset, .unset, .unset] [(.ref a_BID)]) (fun t k => XS.goto X30.here hx rfl (pc0 := 37) (pc' := 43) rfl (hb hby at_37) (by decide) (by decide) k) ?_
    refine Goes.to (T' := T30) (mkF m 45 #[.val (.int p0), .val (.int p1), .val (.int p2), .val (.int p3), .val (.int (1 : Int32)), .val (.ref a_ASK), .val (.ref a_BID), .unset, .unset, .unset] []) (fun t k => XS.astore X30.here hx rfl (hb hby at_43) rfl rfl (l' := #[.val (.int p0), .val (.int p1), .val (.int p2), .val (.int p3), .val (.int (1 : Int32)), .val (.ref a_ASK), .val (.ref a_BID), .unset, .unset, .unset]) rfl k) ?_
    refine Goes.to (T' := T30) (mkF m 47 #[.val (.int p0), .val (.int p1), .val (.int p2), .val (.int p3), .val (.int (1 : Int32)), .val (.ref a_ASK), .val (.ref a_BID), .unset, .unset, .unset] [(.int (1 : Int32))]) (fun t k => XS.iload X30.here hx rfl (hb hby at_45) rfl k) ?_
    obtain ⟨_, _, ⟨T31, L31, k31, n31⟩, -, X31, ⟨Lc31, hQ31, l31, y31, z31⟩, st31⟩ := Jvm.LawKit.callS X30 hx (y := (⟨"com/example/marktide/marktide/engine/SideNamedPinLaw", "label", "(Z)Ljava/lang/String;"⟩ : MethodName)) hown (mvT hZ (hw _ (List.mem_of_getElem? (i := 5) rfl))) (mvT hZ (hw _ (List.mem_of_getElem? (i := 6) rfl))) (mvT hZ (hw _ (List.mem_of_getElem? (i := 7) rfl))) (mvT hZ (hw _ (List.mem_of_getElem? (i := 8) rfl))) (by decide) (backOf (W := 0) (rm_labelA l Z a0 hw [] cz h0 n0 O S_CS hcz) hZ (hw _ (List.mem_of_getElem? (i := 8) rfl)) (hw _ (List.mem_of_getElem? (i := 7) rfl)) (by decide) (by decide)) (g := (mkF m 47 #[.val (.int p0), .val (.int p1), .val (.int p2), .val (.int p3), .val (.int (1 : Int32)), .val (.ref a_ASK), .val (.ref a_BID), .unset, .unset, .unset] [(.int (1 : Int32))])) rfl (by rw [hml]; rfl) (argsL := [(.int (1 : Int32))]) (rest := []) (lenOf pd_3 rfl) rfl (by show 2 * 0 + _ ≤ _; exact Nat.le_of_eq rfl) (hb hby at_47) (fun _ _ => ⟨rfl, e30, (by decide : 0 + 3 ≤ _), (by decide : 0 + 10 ≤ _)⟩)
    dsimp only [Pt.U, Pt.locs, Pt.cells, Pt.slots] at X31 l31 y31 z31 st31 hQ31
    subst l31 y31 z31
    obtain ⟨N31, K31, lo31, lt31, lk31, rfl, E_lo31, F_vlo31, F_clo31, V_lt31⟩ := hQ31
    have N31' := Fr.app N0 N31
    have C' := C.trans (CHr.keep K31 sf0 C.1)
    replace C := C'
    replace O := O.keep K31 all0
    replace hk0 := Nat.le_trans hk0 K31.1
    refine Goes.to (T' := T31) (mkF m 50 #[.val (.int p0), .val (.int p1), .val (.int p2), .val (.int p3), .val (.int (1 : Int32)), .val (.ref a_ASK), .val (.ref a_BID), .unset, .unset, .unset] [(.ref lo31)]) (fun t k => st31 t k) ?_
    obtain ⟨_, _, ⟨T32, L32, k32, n32⟩, -, X32, ⟨Lc32, hQ32, l32, y32, z32⟩, st32⟩ := Jvm.LawKit.callS X31 hx (y := (⟨"com/example/marktide/marktide/engine/OrderBook$Side", "named", "(Ljava/lang/String;)Lcom/example/marktide/marktide/engine/OrderBook$Side;"⟩ : MethodName)) hown (mvT hZ (hw _ (List.mem_of_getElem? (i := 39) rfl))) (mvT hZ (hw _ (List.mem_of_getElem? (i := 40) rfl))) (mvT hZ (hw _ (List.mem_of_getElem? (i := 1) rfl))) (mvT hZ (hw _ (List.mem_of_getElem? (i := 41) rfl))) (by decide) (backOf (W := 0) (rm_namedA l Z a0 hw [] lo31 _ _ _ _ _ va a_BID a_ASK lBID lASK tBID tASK kv kBID kASK cz T31.heap n0 O E_lo31 F_vlo31 F_clo31 V_lt31 own_codA own_bdA (Nat.le_of_ble_eq_true rfl) rfl S_VALUES V_va E_va F_lBID E_lBID F_vBID F_cBID V_tBID F_lASK E_lASK F_vASK F_cASK V_tASK S_CS hcz) hZ (hw _ (List.mem_of_getElem? (i := 41) rfl)) (hw _ (List.mem_of_getElem? (i := 1) rfl)) (by decide) (by decide)) (g := (mkF m 50 #[.val (.int p0), .val (.int p1), .val (.int p2), .val (.int p3), .val (.int (1 : Int32)), .val (.ref a_ASK), .val (.ref a_BID), .unset, .unset, .unset] [(.ref lo31)])) rfl (by rw [hml]; rfl) (argsL := [(.ref lo31)]) (rest := []) (lenOf pd_4 rfl) rfl (by show 2 * 0 + _ ≤ _; exact Nat.le_of_eq rfl) (hb hby at_50) (fun _ _ => ⟨rfl, rfl, (by decide : 3 + 1 ≤ _), (by decide : 10 + 2 ≤ _)⟩)
    dsimp only [Pt.U, Pt.locs, Pt.cells, Pt.slots] at X32 l32 y32 z32 st32 hQ32
    subst l32 y32 z32
    obtain ⟨rfl, N32, K32⟩ := hQ32
    have N32' := Fr.app N31' N32
    have C' := C.trans (CHr.keep K32 sf0 C.1)
    replace C := C'
    replace E_lo31 := E_lo31.keep K32
    replace F_vlo31 := F_vlo31.keep K32 nin0
    replace F_clo31 := F_clo31.keep K32 nin0
    replace V_lt31 := V_lt31.keep K32 nin0
    replace O := O.keep K32 all0
    replace hk0 := Nat.le_trans hk0 K32.1
    refine Goes.to (T' := T32) (mkF m 53 #[.val (.int p0), .val (.int p1), .val (.int p2), .val (.int p3), .val (.int (1 : Int32)), .val (.ref a_ASK), .val (.ref a_BID), .unset, .unset, .unset] [(.ref a_ASK)]) (fun t k => st32 t k) ?_
    refine Goes.to (T' := T32) (mkF m 55 #[.val (.int p0), .val (.int p1), .val (.int p2), .val (.int p3), .val (.int (1 : Int32)), .val (.ref a_ASK), .val (.ref a_BID), .unset, .unset, .unset] [(.ref a_ASK), (.ref a_ASK)]) (fun t k => XS.aload X32.here hx rfl (hb hby at_53) rfl rfl k) ?_
    refine Goes.to (T' := T32) (mkF m 58 #[.val (.int p0), .val (.int p1), .val (.int p2), .val (.int p3), .val (.int (1 : Int32)), .val (.ref a_ASK), .val (.ref a_BID), .unset, .unset, .unset] []) (fun t k => Jvm.RoadKit.acmp (g := (mkF m 55 #[.val (.int p0), .val (.int p1), .val (.int p2), .val (.int p3), .val (.int (1 : Int32)), .val (.ref a_ASK), .val (.ref a_BID), .unset, .unset, .unset] [(.ref a_ASK), (.ref a_ASK)])) X32 hx rfl rfl rfl (pc0 := 55) (pc' := 58) (same := true) rfl (hb hby at_55) rfl (decide_eq_true rfl) (by decide) (by decide) k) ?_
    refine Goes.to (T' := T32) (mkF m 59 #[.val (.int p0), .val (.int p1), .val (.int p2), .val (.int p3), .val (.int (1 : Int32)), .val (.ref a_ASK), .val (.ref a_BID), .unset, .unset, .unset] [(.int (1 : Int32))]) (fun t k => XS.iconst X32.here hx rfl (hb hby at_58) k) ?_
    refine Goes.to (T' := T32) (mkF m 63 #[.val (.int p0), .val (.int p1), .val (.int p2), .val (.int p3), .val (.int (1 : Int32)), .val (.ref a_ASK), .val (.ref a_BID), .unset, .unset, .unset] [(.int (1 : Int32))]) (fun t k => XS.goto X32.here hx rfl (pc0 := 59) (pc' := 63) rfl (hb hby at_59) (by decide) (by decide) k) ?_
    refine Goes.to (T' := T32) (mkF m 65 #[.val (.int p0), .val (.int p1), .val (.int p2), .val (.int p3), .val (.int (1 : Int32)), .val (.ref a_ASK), .val (.ref a_BID), .val (.int (1 : Int32)), .unset, .unset] []) (fun t k => XS.istore X32.here hx rfl (hb hby at_63) rfl (l' := #[.val (.int p0), .val (.int p1), .val (.int p2), .val (.int p3), .val (.int (1 : Int32)), .val (.ref a_ASK), .val (.ref a_BID), .val (.int (1 : Int32)), .unset, .unset]) rfl k) ?_
    refine Goes.to (T' := T32) (mkF m 67 #[.val (.int p0), .val (.int p1), .val (.int p2), .val (.int p3), .val (.int (1 : Int32)), .val (.ref a_ASK), .val (.ref a_BID), .val (.int (1 : Int32)), .unset, .unset] [(.int (1 : Int32))]) (fun t k => XS.iload X32.here hx rfl (hb hby at_65) rfl k) ?_
    refine Goes.to (T' := T32) (mkF m 70 #[.val (.int p0), .val (.int p1), .val (.int p2), .val (.int p3), .val (.int (1 : Int32)), .val (.ref a_ASK), .val (.ref a_BID), .val (.int (1 : Int32)), .unset, .unset] []) (fun t k => XS.ifNo X32.here hx rfl (hb hby at_67) rfl ((if0 _ _).trans (feq ((by decide) : ¬ ((1 : Int32) = (0 : Int32)))).1) k) ?_
    refine Goes.to (T' := T32) (mkF m 72 #[.val (.int p0), .val (.int p1), .val (.int p2), .val (.int p3), .val (.int (1 : Int32)), .val (.ref a_ASK), .val (.ref a_BID), .val (.int (1 : Int32)), .unset, .unset] [(.int (1 : Int32))]) (fun t k => XS.iload X32.here hx rfl (hb hby at_70) rfl k) ?_
    refine Goes.to (T' := T32) (mkF m 79 #[.val (.int p0), .val (.int p1), .val (.int p2), .val (.int p3), .val (.int (1 : Int32)), .val (.ref a_ASK), .val (.ref a_BID), .val (.int (1 : Int32)), .unset, .unset] []) (fun t k => XS.ifYes X32.here hx rfl (pc0 := 72) (pc' := 79) rfl (hb hby at_72) rfl ((if0 _ _).trans (feq ((by decide) : ¬ ((1 : Int32) = (0 : Int32)))).2) (by decide) (by decide) k) ?_
    refine Goes.to (T' := T32) (mkF m 80 #[.val (.int p0), .val (.int p1), .val (.int p2), .val (.int p3), .val (.int (1 : Int32)), .val (.ref a_ASK), .val (.ref a_BID), .val (.int (1 : Int32)), .unset, .unset] [(.int (0 : Int32))]) (fun t k => XS.iconst X32.here hx rfl (hb hby at_79) k) ?_
    obtain ⟨_, _, ⟨T33, L33, k33, n33⟩, -, X33, ⟨Lc33, hQ33, l33, y33, z33⟩, st33⟩ := Jvm.LawKit.callS X32 hx (y := (⟨"com/example/marktide/marktide/engine/SideNamedPinLaw", "label", "(Z)Ljava/lang/String;"⟩ : MethodName)) hown (mvT hZ (hw _ (List.mem_of_getElem? (i := 5) rfl))) (mvT hZ (hw _ (List.mem_of_getElem? (i := 6) rfl))) (mvT hZ (hw _ (List.mem_of_getElem? (i := 7) rfl))) (mvT hZ (hw _ (List.mem_of_getElem? (i := 8) rfl))) (by decide) (backOf (W := 0) (rm_labelB l Z a0 hw [] cz T32.heap n0 O S_CS hcz) hZ (hw _ (List.mem_of_getElem? (i := 8) rfl)) (hw _ (List.mem_of_getElem? (i := 7) rfl)) (by decide) (by decide)) (g := (mkF m 80 #[.val (.int p0), .val (.int p1), .val (.int p2), .val (.int p3), .val (.int (1 : Int32)), .val (.ref a_ASK), .val (.ref a_BID), .val (.int (1 : Int32)), .unset, .unset] [(.int (0 : Int32))])) rfl (by rw [hml]; rfl) (argsL := [(.int (0 : Int32))]) (rest := []) (lenOf pd_3 rfl) rfl (by show 2 * 0 + _ ≤ _; exact Nat.le_of_eq rfl) (hb hby at_80) (fun _ _ => ⟨rfl, rfl, (by decide : 4 + 3 ≤ _), (by decide : 12 + 10 ≤ _)⟩)
    dsimp only [Pt.U, Pt.locs, Pt.cells, Pt.slots] at X33 l33 y33 z33 st33 hQ33
    subst l33 y33 z33
    obtain ⟨N33, K33, lo33, lt33, lk33, rfl, E_lo33, F_vlo33, F_clo33, V_lt33⟩ := hQ33
    have N33' := Fr.app N32' N33
    have C' := C.trans (CHr.keep K33 sf0 C.1)
    replace C := C'
    replace E_lo31 := E_lo31.keep K33
    replace F_vlo31 := F_vlo31.keep K33 nin0
    replace F_clo31 := F_clo31.keep K33 nin0
    replace V_lt31 := V_lt31.keep K33 nin0
    replace O := O.keep K33 all0
    replace hk0 := Nat.le_trans hk0 K33.1
    refine Goes.to (T' := T33) (mkF m 83 #[.val (.int p0), .val (.int p1), .val (.int p2), .val (.int p3), .val (.int (1 : Int32)), .val (.ref a_ASK), .val (.ref a_BID), .val (.int (1 : Int32)), .unset, .unset] [(.ref lo33)]) (fun t k => st33 t k) ?_
    obtain ⟨_, _, ⟨T34, L34, k34, n34⟩, -, X34, ⟨Lc34, hQ34, l34, y34, z34⟩, st34⟩ := Jvm.LawKit.callS X33 hx (y := (⟨"com/example/marktide/marktide/engine/OrderBook$Side", "named", "(Ljava/lang/String;)Lcom/example/marktide/marktide/engine/OrderBook$Side;"⟩ : MethodName)) hown (mvT hZ (hw _ (List.mem_of_getElem? (i := 39) rfl))) (mvT hZ (hw _ (List.mem_of_getElem? (i := 40) rfl))) (mvT hZ (hw _ (List.mem_of_getElem? (i := 1) rfl))) (mvT hZ (hw _ (List.mem_of_getElem? (i := 41) rfl))) (by decide) (backOf (W := 0) (rm_namedB l Z a0 hw [] lo33 _ _ _ _ _ va a_BID a_ASK lBID lASK tBID tASK kv kBID kASK cz T33.heap n0 O E_lo33 F_vlo33 F_clo33 V_lt33 own_codB own_bdB (Nat.le_of_ble_eq_true rfl) rfl S_VALUES V_va E_va F_lBID E_lBID F_vBID F_cBID V_tBID F_lASK E_lASK F_vASK F_cASK V_tASK S_CS hcz) hZ (hw _ (List.mem_of_getElem? (i := 41) rfl)) (hw _ (List.mem_of_getElem? (i := 1) rfl)) (by decide) (by decide)) (g := (mkF m 83 #[.val (.int p0), .val (.int p1), .val (.int p2), .val (.int p3), .val (.int (1 : Int32)), .val (.ref a_ASK), .val (.ref a_BID), .val (.int (1 : Int32)), .unset, .unset] [(.ref lo33)])) rfl (by rw [hml]; rfl) (argsL := [(.ref lo33)]) (rest := []) (lenOf pd_4 rfl) rfl (by show 2 * 0 + _ ≤ _; exact Nat.le_of_eq rfl) (hb hby at_83) (fun _ _ => ⟨rfl, rfl, (by decide : 7 + 1 ≤ _), (by decide : 22 + 2 ≤ _)⟩)
    dsimp only [Pt.U, Pt.locs, Pt.cells, Pt.slots] at X34 l34 y34 z34 st34 hQ34
    subst l34 y34 z34
    obtain ⟨rfl, N34, K34⟩ := hQ34
    have N34' := Fr.app N33' N34
    have C' := C.trans (CHr.keep K34 sf0 C.1)
    replace C := C'
    replace E_lo31 := E_lo31.keep K34
    replace F_vlo31 := F_vlo31.keep K34 nin0
    replace F_clo31 := F_clo31.keep K34 nin0
    replace V_lt31 := V_lt31.keep K34 nin0
    replace E_lo33 := E_lo33.keep K34
    replace F_vlo33 := F_vlo33.keep K34 nin0
    replace F_clo33 := F_clo33.keep K34 nin0
    replace V_lt33 := V_lt33.keep K34 nin0
    replace O := O.keep K34 all0
    replace hk0 := Nat.le_trans hk0 K34.1
    refine Goes.to (T' := T34) (mkF m 86 #[.val (.int p0), .val (.int p1), .val (.int p2), .val (.int p3), .val (.int (1 : Int32)), .val (.ref a_ASK), .val (.ref a_BID), .val (.int (1 : Int32)), .unset, .unset] [(.ref a_BID)]) (fun t k => st34 t k) ?_
    refine Goes.to (T' := T34) (mkF m 88 #[.val (.int p0), .val (.int p1), .val (.int p2), .val (.int p3), .val (.int (1 : Int32)), .val (.ref a_ASK), .val (.ref a_BID), .val (.int (1 : Int32)), .unset, .unset] [(.ref a_BID), (.ref a_BID)]) (fun t k => XS.aload X34.here hx rfl (hb hby at_86) rfl rfl k) ?_
    refine Goes.to (T' := T34) (mkF m 91 #[.val (.int p0), .val (.int p1), .val (.int p2), .val (.int p3), .val (.int (1 : Int32)), .val (.ref a_ASK), .val (.ref a_BID), .val (.int (1 : Int32)), .unset, .unset] []) (fun t k => Jvm.RoadKit.acmp (g := (mkF m 88 #[.val (.int p0), .val (.int p1), .val (.int p2), .val (.int p3), .val (.int (1 : Int32)), .val (.ref a_ASK), .val (.ref a_BID), .val (.int (1 : Int32)), .unset, .unset] [(.ref a_BID), (.ref a_BID)])) X34 hx rfl rfl rfl (pc0 := 88) (pc' := 91) (same := true) rfl (hb hby at_88) rfl (decide_eq_true rfl) (by decide) (by decide) k) ?_
    refine Goes.to (T' := T34) (mkF m 92 #[.val (.int p0), .val (.int p1), .val (.int p2), .val (.int p3), .val (.int (1 : Int32)), .val (.ref a_ASK), .val (.ref a_BID), .val (.int (1 : Int32)), .unset, .unset] [(.int (1 : Int32))]) (fun t k => XS.iconst X34.here hx rfl (hb hby at_91) k) ?_
    refine Goes.to (T' := T34) (mkF m 96 #[.val (.int p0), .val (.int p1), .val (.int p2), .val (.int p3), .val (.int (1 : Int32)), .val (.ref a_ASK), .val (.ref a_BID), .val (.int (1 : Int32)), .unset, .unset] [(.int (1 : Int32))]) (fun t k => XS.goto X34.here hx rfl (pc0 := 92) (pc' := 96) rfl (hb hby at_92) (by decide) (by decide) k) ?_
    refine Goes.to (T' := T34) (mkF m 98 #[.val (.int p0), .val (.int p1), .val (.int p2), .val (.int p3), .val (.int (1 : Int32)), .val (.ref a_ASK), .val (.ref a_BID), .val (.int (1 : Int32)), .unset, .unset] []) (fun t k => XS.istore X34.here hx rfl (hb hby at_96) rfl (l' := #[.val (.int p0), .val (.int p1), .val (.int p2), .val (.int p3), .val (.int (1 : Int32)), .val (.ref a_ASK), .val (.ref a_BID), .val (.int (1 : Int32)), .unset, .unset]) rfl k) ?_
    refine Goes.to (T' := T34) (mkF m 100 #[.val (.int p0), .val (.int p1), .val (.int p2), .val (.int p3), .val (.int (1 : Int32)), .val (.ref a_ASK), .val (.ref a_BID), .val (.int (1 : Int32)), .unset, .unset] [(.int (1 : Int32))]) (fun t k => XS.iload X34.here hx rfl (hb hby at_98) rfl k) ?_
    refine Goes.to (T' := T34) (mkF m 103 #[.val (.int p0), .val (.int p1), .val (.int p2), .val (.int p3), .val (.int (1 : Int32)), .val (.ref a_ASK), .val (.ref a_BID), .val (.int (1 : Int32)), .unset, .unset] []) (fun t k => XS.ifNo X34.here hx rfl (hb hby at_100) rfl ((if0 _ _).trans (feq ((by decide) : ¬ ((1 : Int32) = (0 : Int32)))).1) k) ?_
    refine Goes.to (T' := T34) (mkF m 105 #[.val (.int p0), .val (.int p1), .val (.int p2), .val (.int p3), .val (.int (1 : Int32)), .val (.ref a_ASK), .val (.ref a_BID), .val (.int (1 : Int32)), .unset, .unset] [(.ref a_ASK)]) (fun t k => XS.aload X34.here hx rfl (hb hby at_103) rfl rfl k) ?_
    obtain ⟨cq35, kq35, q35a, q35b, q35c⟩ := isOf hZ rfl (E_ASK.ext O.2)
    obtain ⟨_, _, ⟨T35, L35, k35, n35⟩, -, X35, ⟨Lc35, hQ35, l35, y35, z35⟩, st35⟩ := X34.virtualBack hx (y := (⟨"com/example/marktide/marktide/engine/OrderBook$Side", "toString", "()Ljava/lang/String;"⟩ : MethodName)) (z := (⟨"com/example/marktide/marktide/engine/OrderBook$Side", "toString", "()Ljava/lang/String;"⟩ : MethodName)) hown (mvT hZ (hw _ (List.mem_of_getElem? (i := 69) rfl))) (mvT hZ (hw _ (List.mem_of_getElem? (i := 70) rfl))) (notFace_of_selects (args := #[]) (mvT hZ (hw _ (List.mem_of_getElem? (i := 72) rfl)))) (mvT hZ (hw _ (List.mem_of_getElem? (i := 72) rfl))) (mvT hZ (hw _ (List.mem_of_getElem? (i := 71) rfl))) (by decide) (backOf (W := 0) (rm_tsASK l Z a0 hw [] a_ASK lASK T34.heap n0 O F_lASK) hZ (hw _ (List.mem_of_getElem? (i := 73) rfl)) (hw _ (List.mem_of_getElem? (i := 1) rfl)) (by decide) (by decide)) q35a q35c (g := (mkF m 105 #[.val (.int p0), .val (.int p1), .val (.int p2), .val (.int p3), .val (.int (1 : Int32)), .val (.ref a_ASK), .val (.ref a_BID), .val (.int (1 : Int32)), .unset, .unset] [(.ref a_ASK)])) rfl (by rw [hml]; rfl) (Steps.refl _) (argsL := []) (rest := []) (lenOf pd_5 rfl) rfl (by show 2 * 0 + _ ≤ _; exact Nat.le_of_eq rfl) (hb hby at_105) (fun _ _ => ⟨rfl, rfl, (by decide : 8 + 0 ≤ _), (by decide : 24 + 0 ≤ _)⟩)
    dsimp only [Pt.U, Pt.locs, Pt.cells, Pt.slots] at X35 l35 y35 z35 st35 hQ35
    subst l35 y35 z35
    obtain ⟨rfl, N35, hs35⟩ := hQ35
    have N35' := Fr.app N34' N35
    refine Goes.to (T' := T35) (mkF m 108 #[.val (.int p0), .val (.int p1), .val (.int p2), .val (.int p3), .val (.int (1 : Int32)), .val (.ref a_ASK), .val (.ref a_BID), .val (.int (1 : Int32)), .unset, .unset] [(.ref lASK)]) (fun t k => st35.trans k) ?_
    obtain ⟨_, _, ⟨T36, L36, k36, n36⟩, -, X36, ⟨Lc36, hQ36, l36, y36, z36⟩, st36⟩ := Jvm.LawKit.callS X35 hx (y := (⟨"com/example/marktide/marktide/engine/OrderBook$Side", "named", "(Ljava/lang/String;)Lcom/example/marktide/marktide/engine/OrderBook$Side;"⟩ : MethodName)) hown (mvT hZ (hw _ (List.mem_of_getElem? (i := 39) rfl))) (mvT hZ (hw _ (List.mem_of_getElem? (i := 40) rfl))) (mvT hZ (hw _ (List.mem_of_getElem? (i := 1) rfl))) (mvT hZ (hw _ (List.mem_of_getElem? (i := 41) rfl))) (by decide) (backOf (W := 0) (rm_namedA l Z a0 hw [] lASK _ _ _ _ _ va a_BID a_ASK lBID lASK tBID tASK kv kBID kASK cz T34.heap n0 O (E_lASK.ext O.2) (F_vASK.ext O.2) (F_cASK.ext O.2) (V_tASK.ext O.2) own_codA own_bdA (Nat.le_of_ble_eq_true rfl) rfl S_VALUES V_va E_va F_lBID E_lBID F_vBID F_cBID V_tBID F_lASK E_lASK F_vASK F_cASK V_tASK S_CS hcz) hZ (hw _ (List.mem_of_getElem? (i := 41) rfl)) (hw _ (List.mem_of_getElem? (i := 1) rfl)) (by decide) (by decide)) (g := (mkF m 108 #[.val (.int p0), .val (.int p1), .val (.int p2), .val (.int p3), .val (.int (1 : Int32)), .val (.ref a_ASK), .val (.ref a_BID), .val (.int (1 : Int32)), .unset, .unset] [(.ref lASK)])) rfl (by rw [hml]; rfl) (argsL := [(.ref lASK)]) (rest := []) (lenOf pd_4 rfl) rfl (by show 2 * 0 + _ ≤ _; exact Nat.le_of_eq rfl) (hb hby at_108) (fun _ _ => ⟨rfl, hs35, (by decide : 8 + 1 ≤ _), (by decide : 24 + 2 ≤ _)⟩)
    dsimp only [Pt.U, Pt.locs, Pt.cells, Pt.slots] at X36 l36 y36 z36 st36 hQ36
    subst l36 y36 z36
    obtain ⟨rfl, N36, K36⟩ := hQ36
    have N36' := Fr.app N35' N36
    have C' := C.trans (CHr.keep K36 sf0 C.1)
    replace C := C'
    replace E_lo31 := E_lo31.keep K36
    replace F_vlo31 := F_vlo31.keep K36 nin0
    replace F_clo31 := F_clo31.keep K36 nin0
    replace V_lt31 := V_lt31.keep K36 nin0
    replace E_lo33 := E_lo33.keep K36
    replace F_vlo33 := F_vlo33.keep K36 nin0
    replace F_clo33 := F_clo33.keep K36 nin0
    replace V_lt33 := V_lt33.keep K36 nin0
    replace O := O.keep K36 all0
    replace hk0 := Nat.le_trans hk0 K36.1
    refine Goes.to (T' := T36) (mkF m 111 #[.val (.int p0), .val (.int p1), .val (.int p2), .val (.int p3), .val (.int (1 : Int32)), .val (.ref a_ASK), .val (.ref a_BID), .val (.int (1 : Int32)), .unset, .unset] [(.ref a_ASK)]) (fun t k => st36 t k) ?_
    refine Goes.to (T' := T36) (mkF m 113 #[.val (.int p0), .val (.int p1), .val (.int p2), .val (.int p3), .val (.int (1 : Int32)), .val (.ref a_ASK), .val (.ref a_BID), .val (.int (1 : Int32)), .unset, .unset] [(.ref a_ASK), (.ref a_ASK)]) (fun t k => XS.aload X36.here hx rfl (hb hby at_111) rfl rfl k) ?_
    refine Goes.to (T' := T36) (mkF m 116 #[.val (.int p0), .val (.int p1), .val (.int p2), .val (.int p3), .val (.int (1 : Int32)), .val (.ref a_ASK), .val (.ref a_BID), .val (.int (1 : Int32)), .unset, .unset] []) (fun t k => Jvm.RoadKit.acmp (g := (mkF m 113 #[.val (.int p0), .val (.int p1), .val (.int p2), .val (.int p3), .val (.int (1 : Int32)), .val (.ref a_ASK), .val (.ref a_BID), .val (.int (1 : Int32)), .unset, .unset] [(.ref a_ASK), (.ref a_ASK)])) X36 hx rfl rfl rfl (pc0 := 113) (pc' := 116) (same := true) rfl (hb hby at_113) rfl (decide_eq_true rfl) (by decide) (by decide) k) ?_
    refine Goes.to (T' := T36) (mkF m 117 #[.val (.int p0), .val (.int p1), .val (.int p2), .val (.int p3), .val (.int (1 : Int32)), .val (.ref a_ASK), .val (.ref a_BID), .val (.int (1 : Int32)), .unset, .unset] [(.int (1 : Int32))]) (fun t k => XS.iconst X36.here hx rfl (hb hby at_116) k) ?_
    refine Goes.to (T' := T36) (mkF m 121 #[.val (.int p0), .val (.int p1), .val (.int p2), .val (.int p3), .val (.int (1 : Int32)), .val (.ref a_ASK), .val (.ref a_BID), .val (.int (1 : Int32)), .unset, .unset] [(.int (1 : Int32))]) (fun t k => XS.goto X36.here hx rfl (pc0 := 117) (pc' := 121) rfl (hb hby at_117) (by decide) (by decide) k) ?_
    refine Goes.to (T' := T36) (mkF m 123 #[.val (.int p0), .val (.int p1), .val (.int p2), .val (.int p3), .val (.int (1 : Int32)), .val (.ref a_ASK), .val (.ref a_BID), .val (.int (1 : Int32)), .unset, .unset] []) (fun t k => XS.istore X36.here hx rfl (hb hby at_121) rfl (l' := #[.val (.int p0), .val (.int p1), .val (.int p2), .val (.int p3), .val (.int (1 : Int32)), .val (.ref a_ASK), .val (.ref a_BID), .val (.int (1 : Int32)), .unset, .unset]) rfl k) ?_
    refine Goes.to (T' := T36) (mkF m 124 #[.val (.int p0), .val (.int p1), .val (.int p2), .val (.int p3), .val (.int (1 : Int32)), .val (.ref a_ASK), .val (.ref a_BID), .val (.int (1 : Int32)), .unset, .unset] [(.int (3 : Int32))]) (fun t k => XS.iconst X36.here hx rfl (hb hby at_123) k) ?_
    obtain ⟨T37, h37, k37, X37, e37, E37, A37, st37⟩ := newP X36 hx hZ (hw _ (List.mem_of_getElem? (i := 9) rfl)) rfl (g := (mkF m 124 #[.val (.int p0), .val (.int p1), .val (.int p2), .val (.int p3), .val (.int (1 : Int32)), .val (.ref a_ASK), .val (.ref a_BID), .val (.int (1 : Int32)), .unset, .unset] [(.int (3 : Int32))])) rfl (hb hby at_124) rfl (by decide) (cap := 3) (by decide) (by decide) (by decide) (by decide)
    obtain ⟨b37, g37⟩ : ∃ z, z = T36.heap.size := ⟨_, rfl⟩
    rw [← g37] at A37 st37
    have g_b37 : n0 ≤ b37 := Nat.le_trans (O.1 ▸ O.2.1) (Nat.le_of_eq g37.symm)
    have ne_lo31_b37 : lo31 ≠ b37 := Nat.ne_of_lt (Nat.lt_of_lt_of_le E_lo31.lt (Nat.le_of_eq g37.symm))
    have ne_lt31_b37 : lt31 ≠ b37 := Nat.ne_of_lt (Nat.lt_of_lt_of_le V_lt31.lt (Nat.le_of_eq g37.symm))
    have ne_lo33_b37 : lo33 ≠ b37 := Nat.ne_of_lt (Nat.lt_of_lt_of_le E_lo33.lt (Nat.le_of_eq g37.symm))
    have ne_lt33_b37 : lt33 ≠ b37 := Nat.ne_of_lt (Nat.lt_of_lt_of_le V_lt33.lt (Nat.le_of_eq g37.symm))
    replace C := C.trans (CHr.ext E37 C.1)
    replace O := O.ext E37
    replace hk0 := Nat.le_trans hk0 E37.1
    replace E_lo31 := E_lo31.ext E37
    replace F_vlo31 := F_vlo31.ext E37
    replace F_clo31 := F_clo31.ext E37
    replace V_lt31 := V_lt31.ext E37
    replace E_lo33 := E_lo33.ext E37
    replace F_vlo33 := F_vlo33.ext E37
    replace F_clo33 := F_clo33.ext E37
    replace V_lt33 := V_lt33.ext E37
    have V_b37 : Arv Z h37 b37 k37 .char (3 : Int32) [(.int (0 : Int32)), (.int (0 : Int32)), (.int (0 : Int32))] (.int (0 : Int32)) := (Arv.new A37 (by decide)).pad (pad_rep [] (.int (0 : Int32)) 3)
    refine Goes.to (T' := T37) (mkF m 126 #[.val (.int p0), .val (.int p1), .val (.int p2), .val (.int p3), .val (.int (1 : Int32)), .val (.ref a_ASK), .val (.ref a_BID), .val (.int (1 : Int32)), .unset, .unset] [(.ref b37)]) st37 ?_
    refine Goes.to (T' := T37) (mkF m 128 #[.val (.int p0), .val (.int p1), .val (.int p2), .val (.int p3), .val (.int (1 : Int32)), .val (.ref a_ASK), .val (.ref a_BID), .val (.int (1 : Int32)), .val (.ref b37), .unset] []) (fun t k => XS.astore X37.here hx rfl (hb hby at_126) rfl rfl (l' := #[.val (.int p0), .val (.int p1), .val (.int p2), .val (.int p3), .val (.int (1 : Int32)), .val (.ref a_ASK), .val (.ref a_BID), .val (.int (1 : Int32)), .val (.ref b37), .unset]) rfl k) ?_
    refine Goes.to (T' := T37) (mkF m 130 #[.val (.int p0), .val (.int p1), .val (.int p2), .val (.int p3), .val (.int (1 : Int32)), .val (.ref a_ASK), .val (.ref a_BID), .val (.int (1 : Int32)), .val (.ref b37), .unset] [(.ref b37)]) (fun t k => XS.aload X37.here hx rfl (hb hby at_128) rfl rfl k) ?_
    refine Goes.to (T' := T37) (mkF m 131 #[.val (.int p0), .val (.int p1), .val (.int p2), .val (.int p3), .val (.int (1 : Int32)), .val (.ref a_ASK), .val (.ref a_BID), .val (.int (1 : Int32)), .val (.ref b37), .unset] [(.int (0 : Int32)), (.ref b37)]) (fun t k => XS.iconst X37.here hx rfl (hb hby at_130) k) ?_
    refine Goes.to (T' := T37) (mkF m 132 #[.val (.int p0), .val (.int p1), .val (.int p2), .val (.int p3), .val (.int (1 : Int32)), .val (.ref a_ASK), .val (.ref a_BID), .val (.int (1 : Int32)), .val (.ref b37), .unset] [(.int p1), (.int (0 : Int32)), (.ref b37)]) (fun t k => XS.iloadN X37.here hx rfl (hb hby at_131) rfl k) ?_
    refine Goes.to (T' := T37) (mkF m 135 #[.val (.int p0), .val (.int p1), .val (.int p2), .val (.int p3), .val (.int (1 : Int32)), .val (.ref a_ASK), .val (.ref a_BID), .val (.int (1 : Int32)), .val (.ref b37), .unset] [(.int (255 : Int32)), (.int p1), (.int (0 : Int32)), (.ref b37)]) (fun t k => XS.sipush X37.here hx rfl (hb hby at_132) k) ?_
    refine Goes.to (T' := T37) (mkF m 136 #[.val (.int p0), .val (.int p1), .val (.int p2), .val (.int p3), .val (.int (1 : Int32)), .val (.ref a_ASK), .val (.ref a_BID), .val (.int (1 : Int32)), .val (.ref b37), .unset] [(.int (p1 &&& (255 : Int32))), (.int (0 : Int32)), (.ref b37)]) (fun t k => XS.iand X37.here hx rfl (hb hby at_135) rfl k) ?_
    refine Goes.to (T' := T37) (mkF m 137 #[.val (.int p0), .val (.int p1), .val (.int p2), .val (.int p3), .val (.int (1 : Int32)), .val (.ref a_ASK), .val (.ref a_BID), .val (.int (1 : Int32)), .val (.ref b37), .unset] [(.int ((p1 &&& (255 : Int32)).toUInt32.toUInt16.toUInt32.toInt32)), (.int (0 : Int32)), (.ref b37)]) (fun t k => XS.i2c X37.here hx rfl (hb hby at_136) rfl k) ?_
    obtain ⟨d0, d0_eq⟩ : ∃ z, z = ((p1 &&& (255 : Int32)).toUInt32.toUInt16.toUInt32.toInt32) := ⟨_, rfl⟩
    rw [← d0_eq]
    have hd0 : ¬ d0 < 0 ∧ ¬ (255 : Int32) < d0 := by rw [d0_eq]; exact own_chb _
    clear d0_eq
    obtain ⟨cl38, Ar38, q38, S38, M38, H38, G38⟩ := V_b37
    have hin38 : ¬ ((0 : Int32) < 0 ∨ cl38.slots.size ≤ ((0 : Int32)).toNatClampNeg) := inb_of S38 ⟨by decide, by decide⟩
    obtain ⟨T39, h39, X39, e39, W39, st39⟩ := stC X37 hx hZ e37 Ar38 (j := (0 : Int32)) hin38 (g := (mkF m 137 #[.val (.int p0), .val (.int p1), .val (.int p2), .val (.int p3), .val (.int (1 : Int32)), .val (.ref a_ASK), .val (.ref a_BID), .val (.int (1 : Int32)), .val (.ref b37), .unset] [(.int d0), (.int (0 : Int32)), (.ref b37)])) rfl rfl (hb hby at_137)
    have V_b37 : Arv Z h39 b37 k37 .char (3 : Int32) [(.int (nar .char d0)), (.int (0 : Int32)), (.int (0 : Int32))] (.int (0 : Int32)) := Arv.set Ar38 q38 S38 M38 H38 G38 (fits_nar_char _) W39 0 rfl (Nat.le_of_ble_eq_true rfl)
    have C' := C.trans (CHr.wr W39 (Safe.arr hZ.alike Ar38 (by decide)) C.1)
    replace C := C'
    replace E_lo31 := E_lo31.wr W39
    replace F_vlo31 := F_vlo31.other W39 (Or.inl ne_lo31_b37)
    replace F_clo31 := F_clo31.other W39 (Or.inl ne_lo31_b37)
    replace V_lt31 := V_lt31.other W39 ne_lt31_b37
    replace E_lo33 := E_lo33.wr W39
    replace F_vlo33 := F_vlo33.other W39 (Or.inl ne_lo33_b37)
    replace F_clo33 := F_clo33.other W39 (Or.inl ne_lo33_b37)
    replace V_lt33 := V_lt33.other W39 ne_lt33_b37
    replace O := O.wr W39 g_b37
    replace hk0 := Nat.le_trans hk0 (Nat.le_of_eq W39.size.symm)
    have N39 := Fr.snoc X39 N36' g_b37
    refine Goes.to (T' := T39) (mkF m 138 #[.val (.int p0), .val (.int p1), .val (.int p2), .val (.int p3), .val (.int (1 : Int32)), .val (.ref a_ASK), .val (.ref a_BID), .val (.int (1 : Int32)), .val (.ref b37), .unset] []) st39 ?_
    refine Goes.to (T' := T39) (mkF m 140 #[.val (.int p0), .val (.int p1), .val (.int p2), .val (.int p3), .val (.int (1 : Int32)), .val (.ref a_ASK), .val (.ref a_BID), .val (.int (1 : Int32)), .val (.ref b37), .unset] [(.ref b37)]) (fun t k => XS.aload X39.here hx rfl (hb hby at_138) rfl rfl k) ?_
    refine Goes.to (T' := T39) (mkF m 141 #[.val (.int p0), .val (.int p1), .val (.int p2), .val (.int p3), .val (.int (1 : Int32)), .val (.ref a_ASK), .val (.ref a_BID), .val (.int (1 : Int32)), .val (.ref b37), .unset] [(.int (1 : Int32)), (.ref b37)]) (fun t k => XS.iconst X39.here hx rfl (hb hby at_140) k) ?_
    refine Goes.to (T' := T39) (mkF m 142 #[.val (.int p0), .val (.int p1), .val (.int p2), .val (.int p3), .val (.int (1 : Int32)), .val (.ref a_ASK), .val (.ref a_BID), .val (.int (1 : Int32)), .val (.ref b37), .unset] [(.int p2), (.int (1 : Int32)), (.ref b37)]) (fun t k => XS.iloadN X39.here hx rfl (hb hby at_141) rfl k) ?_
    refine Goes.to (T' := T39) (mkF m 145 #[.val (.int p0), .val (.int p1), .val (.int p2), .val (.int p3), .val (.int (1 : Int32)), .val (.ref a_ASK), .val (.ref a_BID), .val (.int (1 : Int32)), .val (.ref b37), .unset] [(.int (255 : Int32)), (.int p2), (.int (1 : Int32)), (.ref b37)]) (fun t k => XS.sipush X39.here hx rfl (hb hby at_142) k) ?_
    refine Goes.to (T' := T39) (mkF m 146 #[.val (.int p0), .val (.int p1), .val (.int p2), .val (.int p3), .val (.int (1 : Int32)), .val (.ref a_ASK), .val (.ref a_BID), .val (.int (1 : Int32)), .val (.ref b37), .unset] [(.int (p2 &&& (255 : Int32))), (.int (1 : Int32)), (.ref b37)]) (fun t k => XS.iand X39.here hx rfl (hb hby at_145) rfl k) ?_
    refine Goes.to (T' := T39) (mkF m 147 #[.val (.int p0), .val (.int p1), .val (.int p2), .val (.int p3), .val (.int (1 : Int32)), .val (.ref a_ASK), .val (.ref a_BID), .val (.int (1 : Int32)), .val (.ref b37), .unset] [(.int ((p2 &&& (255 : Int32)).toUInt32.toUInt16.toUInt32.toInt32)), (.int (1 : Int32)), (.ref b37)]) (fun t k => XS.i2c X39.here hx rfl (hb hby at_146) rfl k) ?_
    obtain ⟨d1, d1_eq⟩ : ∃ z, z = ((p2 &&& (255 : Int32)).toUInt32.toUInt16.toUInt32.toInt32) := ⟨_, rfl⟩
    rw [← d1_eq]
    have hd1 : ¬ d1 < 0 ∧ ¬ (255 : Int32) < d1 := by rw [d1_eq]; exact own_chb _
    clear d1_eq
    obtain ⟨cl40, Ar40, q40, S40, M40, H40, G40⟩ := V_b37
    have hin40 : ¬ ((1 : Int32) < 0 ∨ cl40.slots.size ≤ ((1 : Int32)).toNatClampNeg) := inb_of S40 ⟨by decide, by decide⟩
    obtain ⟨T41, h41, X41, e41, W41, st41⟩ := stC X39 hx hZ e39 Ar40 (j := (1 : Int32)) hin40 (g := (mkF m 147 #[.val (.int p0), .val (.int p1), .val (.int p2), .val (.int p3), .val (.int (1 : Int32)), .val (.ref a_ASK), .val (.ref a_BID), .val (.int (1 : Int32)), .val (.ref b37), .unset] [(.int d1), (.int (1 : Int32)), (.ref b37)])) rfl rfl (hb hby at_147)
    have V_b37 : Arv Z h41 b37 k37 .char (3 : Int32) [(.int (nar .char d0)), (.int (nar .char d1)), (.int (0 : Int32))] (.int (0 : Int32)) := Arv.set Ar40 q40 S40 M40 H40 G40 (fits_nar_char _) W41 1 rfl (Nat.le_of_ble_eq_true rfl)
    have C' := C.trans (CHr.wr W41 (Safe.arr hZ.alike Ar40 (by decide)) C.1)
    replace C := C'
    replace E_lo31 := E_lo31.wr W41
    replace F_vlo31 := F_vlo31.other W41 (Or.inl ne_lo31_b37)
    replace F_clo31 := F_clo31.other W41 (Or.inl ne_lo31_b37)
    replace V_lt31 := V_lt31.other W41 ne_lt31_b37
    replace E_lo33 := E_lo33.wr W41
    replace F_vlo33 := F_vlo33.other W41 (Or.inl ne_lo33_b37)
    replace F_clo33 := F_clo33.other W41 (Or.inl ne_lo33_b37)
    replace V_lt33 := V_lt33.other W41 ne_lt33_b37
    replace O := O.wr W41 g_b37
    replace hk0 := Nat.le_trans hk0 (Nat.le_of_eq W41.size.symm)
    have N41 := Fr.snoc X41 N39 g_b37
    refine Goes.to (T' := T41) (mkF m 148 #[.val (.int p0), .val (.int p1), .val (.int p2), .val (.int p3), .val (.int (1 : Int32)), .val (.ref a_ASK), .val (.ref a_BID), .val (.int (1 : Int32)), .val (.ref b37), .unset] []) st41 ?_
    refine Goes.to (T' := T41) (mkF m 150 #[.val (.int p0), .val (.int p1), .val (.int p2), .val (.int p3), .val (.int (1 : Int32)), .val (.ref a_ASK), .val (.ref a_BID), .val (.int (1 : Int32)), .val (.ref b37), .unset] [(.ref b37)]) (fun t k => XS.aload X41.here hx rfl (hb hby at_148) rfl rfl k) ?_
    refine Goes.to (T' := T41) (mkF m 151 #[.val (.int p0), .val (.int p1), .val (.int p2), .val (.int p3), .val (.int (1 : Int32)), .val (.ref a_ASK), .val (.ref a_BID), .val (.int (1 : Int32)), .val (.ref b37), .unset] [(.int (2 : Int32)), (.ref b37)]) (fun t k => XS.iconst X41.here hx rfl (hb hby at_150) k) ?_
    refine Goes.to (T' := T41) (mkF m 152 #[.val (.int p0), .val (.int p1), .val (.int p2), .val (.int p3), .val (.int (1 : Int32)), .val (.ref a_ASK), .val (.ref a_BID), .val (.int (1 : Int32)), .val (.ref b37), .unset] [(.int p3), (.int (2 : Int32)), (.ref b37)]) (fun t k => XS.iloadN X41.here hx rfl (hb hby at_151) rfl k) ?_
    refine Goes.to (T' := T41) (mkF m 155 #[.val (.int p0), .val (.int p1), .val (.int p2), .val (.int p3), .val (.int (1 : Int32)), .val (.ref a_ASK), .val (.ref a_BID), .val (.int (1 : Int32)), .val (.ref b37), .unset] [(.int (255 : Int32)), (.int p3), (.int (2 : Int32)), (.ref b37)]) (fun t k => XS.sipush X41.here hx rfl (hb hby at_152) k) ?_
    refine Goes.to (T' := T41) (mkF m 156 #[.val (.int p0), .val (.int p1), .val (.int p2), .val (.int p3), .val (.int (1 : Int32)), .val (.ref a_ASK), .val (.ref a_BID), .val (.int (1 : Int32)), .val (.ref b37), .unset] [(.int (p3 &&& (255 : Int32))), (.int (2 : Int32)), (.ref b37)]) (fun t k => XS.iand X41.here hx rfl (hb hby at_155) rfl k) ?_
    refine Goes.to (T' := T41) (mkF m 157 #[.val (.int p0), .val (.int p1), .val (.int p2), .val (.int p3), .val (.int (1 : Int32)), .val (.ref a_ASK), .val (.ref a_BID), .val (.int (1 : Int32)), .val (.ref b37), .unset] [(.int ((p3 &&& (255 : Int32)).toUInt32.toUInt16.toUInt32.toInt32)), (.int (2 : Int32)), (.ref b37)]) (fun t k => XS.i2c X41.here hx rfl (hb hby at_156) rfl k) ?_
    obtain ⟨d2, d2_eq⟩ : ∃ z, z = ((p3 &&& (255 : Int32)).toUInt32.toUInt16.toUInt32.toInt32) := ⟨_, rfl⟩
    rw [← d2_eq]
    have hd2 : ¬ d2 < 0 ∧ ¬ (255 : Int32) < d2 := by rw [d2_eq]; exact own_chb _
    clear d2_eq
    obtain ⟨cl42, Ar42, q42, S42, M42, H42, G42⟩ := V_b37
    have hin42 : ¬ ((2 : Int32) < 0 ∨ cl42.slots.size ≤ ((2 : Int32)).toNatClampNeg) := inb_of S42 ⟨by decide, by decide⟩
    obtain ⟨T43, h43, X43, e43, W43, st43⟩ := stC X41 hx hZ e41 Ar42 (j := (2 : Int32)) hin42 (g := (mkF m 157 #[.val (.int p0), .val (.int p1), .val (.int p2), .val (.int p3), .val (.int (1 : Int32)), .val (.ref a_ASK), .val (.ref a_BID), .val (.int (1 : Int32)), .val (.ref b37), .unset] [(.int d2), (.int (2 : Int32)), (.ref b37)])) rfl rfl (hb hby at_157)
    have V_b37 : Arv Z h43 b37 k37 .char (3 : Int32) [(.int (nar .char d0)), (.int (nar .char d1)), (.int (nar .char d2))] (.int (0 : Int32)) := Arv.set Ar42 q42 S42 M42 H42 G42 (fits_nar_char _) W43 2 rfl (Nat.le_of_ble_eq_true rfl)
    have C' := C.trans (CHr.wr W43 (Safe.arr hZ.alike Ar42 (by decide)) C.1)
    replace C := C'
    replace E_lo31 := E_lo31.wr W43
    replace F_vlo31 := F_vlo31.other W43 (Or.inl ne_lo31_b37)
    replace F_clo31 := F_clo31.other W43 (Or.inl ne_lo31_b37)
    replace V_lt31 := V_lt31.other W43 ne_lt31_b37
    replace E_lo33 := E_lo33.wr W43
    replace F_vlo33 := F_vlo33.other W43 (Or.inl ne_lo33_b37)
    replace F_clo33 := F_clo33.other W43 (Or.inl ne_lo33_b37)
    replace V_lt33 := V_lt33.other W43 ne_lt33_b37
    replace O := O.wr W43 g_b37
    replace hk0 := Nat.le_trans hk0 (Nat.le_of_eq W43.size.symm)
    have N43 := Fr.snoc X43 N41 g_b37
    refine Goes.to (T' := T43) (mkF m 158 #[.val (.int p0), .val (.int p1), .val (.int p2), .val (.int p3), .val (.int (1 : Int32)), .val (.ref a_ASK), .val (.ref a_BID), .val (.int (1 : Int32)), .val (.ref b37), .unset] []) st43 ?_
    obtain ⟨T44, h44, X44, e44, E44, A44, D44, -, st44⟩ := newO X43 hx hZ hown (hw _ (List.mem_of_getElem? (i := 10) rfl)) (hw _ (List.mem_of_getElem? (i := 11) rfl)) (hw _ (List.mem_of_getElem? (i := 12) rfl)) e43 (g := (mkF m 158 #[.val (.int p0), .val (.int p1), .val (.int p2), .val (.int p3), .val (.int (1 : Int32)), .val (.ref a_ASK), .val (.ref a_BID), .val (.int (1 : Int32)), .val (.ref b37), .unset] [])) rfl (hb hby at_158) (by decide) (by decide)
    obtain ⟨b44, g44⟩ : ∃ z, z = h43.size := ⟨_, rfl⟩
    rw [← g44] at A44 D44 st44
    have g_b44 : n0 ≤ b44 := Nat.le_trans (O.1 ▸ O.2.1) (Nat.le_of_eq g44.symm)
    have ne_lo31_b44 : lo31 ≠ b44 := Nat.ne_of_lt (Nat.lt_of_lt_of_le E_lo31.lt (Nat.le_of_eq g44.symm))
    have ne_lt31_b44 : lt31 ≠ b44 := Nat.ne_of_lt (Nat.lt_of_lt_of_le V_lt31.lt (Nat.le_of_eq g44.symm))
    have ne_lo33_b44 : lo33 ≠ b44 := Nat.ne_of_lt (Nat.lt_of_lt_of_le E_lo33.lt (Nat.le_of_eq g44.symm))
    have ne_lt33_b44 : lt33 ≠ b44 := Nat.ne_of_lt (Nat.lt_of_lt_of_le V_lt33.lt (Nat.le_of_eq g44.symm))
    have ne_b37_b44 : b37 ≠ b44 := Nat.ne_of_lt (Nat.lt_of_lt_of_le V_b37.lt (Nat.le_of_eq g44.symm))
    have C0 := C
    replace C := C.trans (CHr.ext E44 C.1)
    replace O := O.ext E44
    replace hk0 := Nat.le_trans hk0 E44.1
    replace E_lo31 := E_lo31.ext E44
    replace F_vlo31 := F_vlo31.ext E44
    replace F_clo31 := F_clo31.ext E44
    replace V_lt31 := V_lt31.ext E44
    replace E_lo33 := E_lo33.ext E44
    replace F_vlo33 := F_vlo33.ext E44
    replace F_clo33 := F_clo33.ext E44
    replace V_lt33 := V_lt33.ext E44
    replace V_b37 := V_b37.ext E44
    have Z_b44 := Safe.ext (EL := consts_1) E44 C0.1 (Safe.new (Nat.le_of_eq g44.symm) : Safe Z consts_1 _ _ b44)
    have E_b44 : Exa Z h44 b44 "java/lang/String" := A44
    have F_coder_b44 : Fld Z h44 b44 "java/lang/String" "coder" "B" (.int (0 : Int32)) := D44 (Or.inr (hw _ (List.mem_of_getElem? (i := 36) rfl))) (ty := .byte) (by decide)
    have F_value_b44 : Fld Z h44 b44 "java/lang/String" "value" "[B" .null := D44 (Or.inr (hw _ (List.mem_of_getElem? (i := 38) rfl))) (ty := (.array .byte)) (by decide)
    refine Goes.to (T' := T44) (mkF m 161 #[.val (.int p0), .val (.int p1), .val (.int p2), .val (.int p3), .val (.int (1 : Int32)), .val (.ref a_ASK), .val (.ref a_BID), .val (.int (1 : Int32)), .val (.ref b37), .unset] [(.ref b44)]) st44 ?_
    refine Goes.to (T' := T44) (mkF m 162 #[.val (.int p0), .val (.int p1), .val (.int p2), .val (.int p3), .val (.int (1 : Int32)), .val (.ref a_ASK), .val (.ref a_BID), .val (.int (1 : Int32)), .val (.ref b37), .unset] [(.ref b44), (.ref b44)]) (fun t k => XS.dup X44.here hx rfl (hb hby at_161) rfl rfl k) ?_
    refine Goes.to (T' := T44) (mkF m 164 #[.val (.int p0), .val (.int p1), .val (.int p2), .val (.int p3), .val (.int (1 : Int32)), .val (.ref a_ASK), .val (.ref a_BID), .val (.int (1 : Int32)), .val (.ref b37), .unset] [(.ref b37), (.ref b44), (.ref b44)]) (fun t k => XS.aload X44.here hx rfl (hb hby at_162) rfl rfl k) ?_
    have hp : ∀ c ∈ ([(nar .char d0), (nar .char d1), (nar .char d2)] : List Int32), ¬ c < 0 ∧ ¬ (255 : Int32) < c := by
      intro c hc
      simp only [List.mem_cons, List.not_mem_nil, or_false] at hc
      rcases hc with rfl | rfl | rfl <;> first | exact own_nc hd0 | exact own_nc hd1 | exact own_nc hd2 | decide
    obtain ⟨_, _, ⟨T45, L45, k45, n45⟩, -, X45, ⟨Lc45, hQ45, l45, y45, z45⟩, st45⟩ := X44.specialBack hx (y := (⟨"java/lang/String", "<init>", "([C)V"⟩ : MethodName)) rfl hown (mvT hZ (hw _ (List.mem_of_getElem? (i := 13) rfl))) (mvT hZ (hw _ (List.mem_of_getElem? (i := 14) rfl))) (mvT hZ (hw _ (List.mem_of_getElem? (i := 15) rfl))) (by decide) (StrChars.Road.backV (W := 1) hZ (fun d hd => hw d (own_words d hd)) (kI := 4) (hw _ (List.mem_of_getElem? (i := 11) rfl)) (cs := ([(nar .char d0), (nar .char d1), (nar .char d2)] : List Int32)) (bs := (([(nar .char d0), (nar .char d1), (nar .char d2)] : List Int32)).map StrChars.lo8) (n := 3) g_b44 (O.1 ▸ O.2.1) E_b44 F_value_b44 F_coder_b44 V_b37 (S_CS.ext O.2) hcz rfl rfl (by decide) (by decide) hp rfl (by decide) (by decide)) (g := (mkF m 164 #[.val (.int p0), .val (.int p1), .val (.int p2), .val (.int p3), .val (.int (1 : Int32)), .val (.ref a_ASK), .val (.ref a_BID), .val (.int (1 : Int32)), .val (.ref b37), .unset] [(.ref b37), (.ref b44), (.ref b44)])) rfl (by rw [hml]; rfl) (Steps.refl _) (a := b44) (argsL := [(.ref b37)]) (rest := [(.ref b44)]) (lenOf pd_0 rfl) rfl (by show 2 * 0 + _ ≤ _; exact Nat.le_of_eq rfl) (hb hby at_164) (fun _ _ => ⟨rfl, e44, (by decide : 11 + 1 ≤ _), (by decide : 33 + 3 ≤ _)⟩)
    dsimp only [Pt.U, Pt.locs, Pt.cells, Pt.slots] at X45 l45 y45 z45 st45 hQ45
    subst l45 y45 z45
    obtain ⟨rfl, N45, K45, E_dr, F_cdr, dt, dk, -, -, -, F_vdr, V_dt⟩ := hQ45
    have N45' := Fr.app N43 N45
    have C' := C.trans (CHr.keep K45 (sfS Z_b44 sf0) C.1)
    have zz0 := Safe.keep K45 (sfS Z_b44 sf0) C.1 Z_b44
    replace Z_b44 := zz0
    replace C := C'
    replace E_lo31 := E_lo31.keep K45
    replace F_vlo31 := F_vlo31.keep K45 (ninS ne_lo31_b44 (nin0))
    replace F_clo31 := F_clo31.keep K45 (ninS ne_lo31_b44 (nin0))
    replace V_lt31 := V_lt31.keep K45 (ninS ne_lt31_b44 (nin0))
    replace E_lo33 := E_lo33.keep K45
    replace F_vlo33 := F_vlo33.keep K45 (ninS ne_lo33_b44 (nin0))
    replace F_clo33 := F_clo33.keep K45 (ninS ne_lo33_b44 (nin0))
    replace V_lt33 := V_lt33.keep K45 (ninS ne_lt33_b44 (nin0))
    replace V_b37 := V_b37.keep K45 (ninS ne_b37_b44 (nin0))
    replace E_b44 := E_b44.keep K45
    replace O := O.keep K45 (allS g_b44 all0)
    replace hk0 := Nat.le_trans hk0 K45.1
    have hbdD : ∀ c ∈ ([(nar .char d0), (nar .char d1), (nar .char d2)] : List Int32), ¬ c < 0 ∧ ¬ (65535 : Int32) < c := fun c hc => own_up (hp c hc)
    have hcdD := StrChars.Road.codOf (cs := ([(nar .char d0), (nar .char d1), (nar .char d2)] : List Int32)) (n := 3) rfl (fun c hc => (hp c hc).2)
    refine Goes.to (T' := T45) (mkF m 167 #[.val (.int p0), .val (.int p1), .val (.int p2), .val (.int p3), .val (.int (1 : Int32)), .val (.ref a_ASK), .val (.ref a_BID), .val (.int (1 : Int32)), .val (.ref b37), .unset] [(.ref b44)]) (fun t k => st45.trans k) ?_
    refine Goes.to (T' := T45) (mkF m 169 #[.val (.int p0), .val (.int p1), .val (.int p2), .val (.int p3), .val (.int (1 : Int32)), .val (.ref a_ASK), .val (.ref a_BID), .val (.int (1 : Int32)), .val (.ref b37), .val (.ref b44)] []) (fun t k => XS.astore X45.here hx rfl (hb hby at_167) rfl rfl (l' := #[.val (.int p0), .val (.int p1), .val (.int p2), .val (.int p3), .val (.int (1 : Int32)), .val (.ref a_ASK), .val (.ref a_BID), .val (.int (1 : Int32)), .val (.ref b37), .val (.ref b44)]) rfl k) ?_
    refine Goes.to (T' := T45) (mkF m 171 #[.val (.int p0), .val (.int p1), .val (.int p2), .val (.int p3), .val (.int (1 : Int32)), .val (.ref a_ASK), .val (.ref a_BID), .val (.int (1 : Int32)), .val (.ref b37), .val (.ref b44)] [(.ref b44)]) (fun t k => XS.aload X45.here hx rfl (hb hby at_169) rfl rfl k) ?_
    obtain ⟨str46, T46, h46, k46, sb46, kb46, X46, e46, E46, hS46, hk46, hZ46, hown46, E_str46, F_coder_str46, F_value_str46, V_sb46, lt_str46, lt_sb46, R46, -, hne46, st46⟩ := ldcCH X45 hx hZ hown (hw _ (List.mem_of_getElem? (i := 74) rfl)) (fun a ha => hw a (own_strs a ha)) rfl hS0 hk0 hEL (by decide) C.1 (vs := [(.int (98 : Int32)), (.int (105 : Int32)), (.int (100 : Int32))]) (z := 3) ⟨by decide, rfl⟩ (by decide) rfl (g := (mkF m 171 #[.val (.int p0), .val (.int p1), .val (.int p2), .val (.int p3), .val (.int (1 : Int32)), .val (.ref a_ASK), .val (.ref a_BID), .val (.int (1 : Int32)), .val (.ref b37), .val (.ref b44)] [(.ref b44)])) rfl (hb hby at_171) (n := 12) (by decide) (by decide) (by decide) (by decide)
    replace Z_b44 := CHr.safe R46 E_b44.lt Z_b44
    replace C := C.trans R46
    replace O := O.ext E46
    replace E_lo31 := E_lo31.ext E46
    replace F_vlo31 := F_vlo31.ext E46
    replace F_clo31 := F_clo31.ext E46
    replace V_lt31 := V_lt31.ext E46
    replace E_lo33 := E_lo33.ext E46
    replace F_vlo33 := F_vlo33.ext E46
    replace F_clo33 := F_clo33.ext E46
    replace V_lt33 := V_lt33.ext E46
    replace V_b37 := V_b37.ext E46
    replace E_b44 := E_b44.ext E46
    have ne_b44_str46 := (hne46 _ Z_b44).1
    have ne_b44_sb46 := (hne46 _ Z_b44).2
    replace E_dr := E_dr.ext E46
    replace F_vdr := F_vdr.ext E46
    replace F_cdr := F_cdr.ext E46
    replace V_dt := V_dt.ext E46
    replace hS0 := hS46
    replace hk0 := hk46
    replace hZ := hZ46
    replace hown := hown46
    refine Goes.to (T' := T46) (mkF m 173 #[.val (.int p0), .val (.int p1), .val (.int p2), .val (.int p3), .val (.int (1 : Int32)), .val (.ref a_ASK), .val (.ref a_BID), .val (.int (1 : Int32)), .val (.ref b37), .val (.ref b44)] [(.ref str46), (.ref b44)]) st46 ?_
    obtain ⟨cq47, kq47, q47a, q47b, q47c⟩ := isOf hZ e46 E_b44
    obtain ⟨_, _, ⟨T47, L47, k47, n47⟩, -, X47, ⟨Lc47, hQ47, l47, y47, z47⟩, st47⟩ := X46.virtualBack hx (y := (⟨"java/lang/String", "equals", "(Ljava/lang/Object;)Z"⟩ : MethodName)) (z := (⟨"java/lang/String", "equals", "(Ljava/lang/Object;)Z"⟩ : MethodName)) hown (mvT hZ (hw _ (List.mem_of_getElem? (i := 77) rfl))) (mvT hZ (hw _ (List.mem_of_getElem? (i := 60) rfl))) (notFace_of_selects (args := #[]) (mvT hZ (hw _ (List.mem_of_getElem? (i := 62) rfl)))) (mvT hZ (hw _ (List.mem_of_getElem? (i := 62) rfl))) (mvT hZ (hw _ (List.mem_of_getElem? (i := 61) rfl))) (by decide) (own_eqv (n0 := n0) (StrChars.Road.eqW (W := 0) hZ (fun d hd => hw d (own_wordsE d hd)) (kI := 4) (hw _ (List.mem_of_getElem? (i := 11) rfl)) E_dr F_vdr F_cdr V_dt hcdD hbdD (Nat.le_of_ble_eq_true rfl) E_str46 F_value_str46 F_coder_str46 V_sb46 own_codB own_bdB (by decide) (S_CS.ext O.2) hcz (by decide) (by decide))) q47a q47c (g := (mkF m 173 #[.val (.int p0), .val (.int p1), .val (.int p2), .val (.int p3), .val (.int (1 : Int32)), .val (.ref a_ASK), .val (.ref a_BID), .val (.int (1 : Int32)), .val (.ref b37), .val (.ref b44)] [(.ref str46), (.ref b44)])) rfl (by rw [hml]; rfl) (Steps.refl _) (argsL := [(.ref str46)]) (rest := []) (lenOf pd_2 rfl) rfl (by show 2 * 0 + _ ≤ _; exact Nat.le_of_eq rfl) (hb hby at_173) (fun _ _ => ⟨rfl, e46, (by decide : 14 + 0 ≤ _), (by decide : 52 + 0 ≤ _)⟩)
    dsimp only [Pt.U, Pt.locs, Pt.cells, Pt.slots] at X47 l47 y47 z47 st47 hQ47
    subst l47 y47 z47
    obtain ⟨rfl, N47, hs47⟩ := hQ47
    have N47' := Fr.app N45' N47
    refine Goes.to (T' := T47) (mkF m 176 #[.val (.int p0), .val (.int p1), .val (.int p2), .val (.int p3), .val (.int (1 : Int32)), .val (.ref a_ASK), .val (.ref a_BID), .val (.int (1 : Int32)), .val (.ref b37), .val (.ref b44)] [(.int (bit ([(nar .char d0), (nar .char d1), (nar .char d2)] = [(98 : Int32), (105 : Int32), (100 : Int32)])))]) (fun t k => st47.trans k) ?_
    by_cases hc176_48 : (bit ([(nar .char d0), (nar .char d1), (nar .char d2)] = [(98 : Int32), (105 : Int32), (100 : Int32)])) = (0 : Int32)
    · refine Goes.to (T' := T47) (mkF m 205 #[.val (.int p0), .val (.int p1), .val (.int p2), .val (.int p3), .val (.int (1 : Int32)), .val (.ref a_ASK), .val (.ref a_BID), .val (.int (1 : Int32)), .val (.ref b37), .val (.ref b44)] []) (fun t k => XS.ifYes X47.here hx rfl (pc0 := 176) (pc' := 205) rfl (hb hby at_176) rfl ((if0 _ _).trans (teq hc176_48).1) (by decide) (by decide) k) ?_
      refine Goes.to (T' := T47) (mkF m 207 #[.val (.int p0), .val (.int p1), .val (.int p2), .val (.int p3), .val (.int (1 : Int32)), .val (.ref a_ASK), .val (.ref a_BID), .val (.int (1 : Int32)), .val (.ref b37), .val (.ref b44)] [(.ref b44)]) (fun t k => XS.aload X47.here hx rfl (hb hby at_205) rfl rfl k) ?_
      obtain ⟨str49, T49, h49, k49, sb49, kb49, X49, e49, E49, hS49, hk49, hZ49, hown49, E_str49, F_coder_str49, F_value_str49, V_sb49, lt_str49, lt_sb49, R49, -, hne49, st49⟩ := ldcCH X47 hx hZ hown (hw _ (List.mem_of_getElem? (i := 78) rfl)) (fun a ha => hw a (own_strs a ha)) hs47 hS0 hk0 hEL (by decide) C.1 (vs := [(.int (97 : Int32)), (.int (115 : Int32)), (.int (107 : Int32))]) (z := 3) ⟨by decide, rfl⟩ (by decide) rfl (g := (mkF m 207 #[.val (.int p0), .val (.int p1), .val (.int p2), .val (.int p3), .val (.int (1 : Int32)), .val (.ref a_ASK), .val (.ref a_BID), .val (.int (1 : Int32)), .val (.ref b37), .val (.ref b44)] [(.ref b44)])) rfl (hb hby at_207) (n := 12) (by decide) (by decide) (by decide) (by decide)
      replace Z_b44 := CHr.safe R49 E_b44.lt Z_b44
      replace C := C.trans R49
      replace O := O.ext E49
      replace E_lo31 := E_lo31.ext E49
      replace F_vlo31 := F_vlo31.ext E49
      replace F_clo31 := F_clo31.ext E49
      replace V_lt31 := V_lt31.ext E49
      replace E_lo33 := E_lo33.ext E49
      replace F_vlo33 := F_vlo33.ext E49
      replace F_clo33 := F_clo33.ext E49
      replace V_lt33 := V_lt33.ext E49
      replace V_b37 := V_b37.ext E49
      replace E_b44 := E_b44.ext E49
      have ne_b44_str49 := (hne49 _ Z_b44).1
      have ne_b44_sb49 := (hne49 _ Z_b44).2
      replace E_dr := E_dr.ext E49
      replace F_vdr := F_vdr.ext E49
      replace F_cdr := F_cdr.ext E49
      replace V_dt := V_dt.ext E49
      replace E_str46 := E_str46.ext E49
      replace F_coder_str46 := F_coder_str46.ext E49
      replace F_value_str46 := F_value_str46.ext E49
      replace V_sb46 := V_sb46.ext E49
      replace hS0 := hS49
      replace hk0 := hk49
      replace hZ := hZ49
      replace hown := hown49
      refine Goes.to (T' := T49) (mkF m 209 #[.val (.int p0), .val (.int p1), .val (.int p2), .val (.int p3), .val (.int (1 : Int32)), .val (.ref a_ASK), .val (.ref a_BID), .val (.int (1 : Int32)), .val (.ref b37), .val (.ref b44)] [(.ref str49), (.ref b44)]) st49 ?_
      obtain ⟨cq50, kq50, q50a, q50b, q50c⟩ := isOf hZ e49 E_b44
      obtain ⟨_, _, ⟨T50, L50, k50, n50⟩, -, X50, ⟨Lc50, hQ50, l50, y50, z50⟩, st50⟩ := X49.virtualBack hx (y := (⟨"java/lang/String", "equals", "(Ljava/lang/Object;)Z"⟩ : MethodName)) (z := (⟨"java/lang/String", "equals", "(Ljava/lang/Object;)Z"⟩ : MethodName)) hown (mvT hZ (hw _ (List.mem_of_getElem? (i := 77) rfl))) (mvT hZ (hw _ (List.mem_of_getElem? (i := 60) rfl))) (notFace_of_selects (args := #[]) (mvT hZ (hw _ (List.mem_of_getElem? (i := 62) rfl)))) (mvT hZ (hw _ (List.mem_of_getElem? (i := 62) rfl))) (mvT hZ (hw _ (List.mem_of_getElem? (i := 61) rfl))) (by decide) (own_eqv (n0 := n0) (StrChars.Road.eqW (W := 0) hZ (fun d hd => hw d (own_wordsE d hd)) (kI := 4) (hw _ (List.mem_of_getElem? (i := 11) rfl)) E_dr F_vdr F_cdr V_dt hcdD hbdD (Nat.le_of_ble_eq_true rfl) E_str49 F_value_str49 F_coder_str49 V_sb49 own_codA own_bdA (by decide) (S_CS.ext O.2) hcz (by decide) (by decide))) q50a q50c (g := (mkF m 209 #[.val (.int p0), .val (.int p1), .val (.int p2), .val (.int p3), .val (.int (1 : Int32)), .val (.ref a_ASK), .val (.ref a_BID), .val (.int (1 : Int32)), .val (.ref b37), .val (.ref b44)] [(.ref str49), (.ref b44)])) rfl (by rw [hml]; rfl) (Steps.refl _) (argsL := [(.ref str49)]) (rest := []) (lenOf pd_2 rfl) rfl (by show 2 * 0 + _ ≤ _; exact Nat.le_of_eq rfl) (hb hby at_209) (fun _ _ => ⟨rfl, e49, (by decide : 16 + 0 ≤ _), (by decide : 68 + 0 ≤ _)⟩)
      dsimp only [Pt.U, Pt.locs, Pt.cells, Pt.slots] at X50 l50 y50 z50 st50 hQ50
      subst l50 y50 z50
      obtain ⟨rfl, N50, hs50⟩ := hQ50
      have N50' := Fr.app N47' N50
      refine Goes.to (T' := T50) (mkF m 212 #[.val (.int p0), .val (.int p1), .val (.int p2), .val (.int p3), .val (.int (1 : Int32)), .val (.ref a_ASK), .val (.ref a_BID), .val (.int (1 : Int32)), .val (.ref b37), .val (.ref b44)] [(.int (bit ([(nar .char d0), (nar .char d1), (nar .char d2)] = [(97 : Int32), (115 : Int32), (107 : Int32)])))]) (fun t k => st50.trans k) ?_
      by_cases hc212_51 : (bit ([(nar .char d0), (nar .char d1), (nar .char d2)] = [(97 : Int32), (115 : Int32), (107 : Int32)])) = (0 : Int32)
      · refine Goes.to (T' := T50) (mkF m 238 #[.val (.int p0), .val (.int p1), .val (.int p2), .val (.int p3), .val (.int (1 : Int32)), .val (.ref a_ASK), .val (.ref a_BID), .val (.int (1 : Int32)), .val (.ref b37), .val (.ref b44)] []) (fun t k => XS.ifYes X50.here hx rfl (pc0 := 212) (pc' := 238) rfl (hb hby at_212) rfl ((if0 _ _).trans (teq hc212_51).1) (by decide) (by decide) k) ?_
        refine Goes.to (T' := T50) (mkF m 240 #[.val (.int p0), .val (.int p1), .val (.int p2), .val (.int p3), .val (.int (1 : Int32)), .val (.ref a_ASK), .val (.ref a_BID), .val (.int (1 : Int32)), .val (.ref b37), .val (.ref b44)] [(.int (1 : Int32))]) (fun t k => XS.iload X50.here hx rfl (hb hby at_238) rfl k) ?_
        refine Goes.retNW X50 hx Bd.notSynchronized hS0 (by rw [hs50]; exact hk0) (t := .boolean) Bd.returns (by simp) (hb hby at_240) (by decide) (by decide) ?_
        rw [hs50]
        exact ⟨rfl, N50'⟩
      · refine Goes.to (T' := T50) (mkF m 215 #[.val (.int p0), .val (.int p1), .val (.int p2), .val (.int p3), .val (.int (1 : Int32)), .val (.ref a_ASK), .val (.ref a_BID), .val (.int (1 : Int32)), .val (.ref b37), .val (.ref b44)] []) (fun t k => XS.ifNo X50.here hx rfl (hb hby at_212) rfl ((if0 _ _).trans (feq hc212_51).1) k) ?_
        refine Goes.to (T' := T50) (mkF m 217 #[.val (.int p0), .val (.int p1), .val (.int p2), .val (.int p3), .val (.int (1 : Int32)), .val (.ref a_ASK), .val (.ref a_BID), .val (.int (1 : Int32)), .val (.ref b37), .val (.ref b44)] [(.int (1 : Int32))]) (fun t k => XS.iload X50.here hx rfl (hb hby at_215) rfl k) ?_
        refine Goes.to (T' := T50) (mkF m 220 #[.val (.int p0), .val (.int p1), .val (.int p2), .val (.int p3), .val (.int (1 : Int32)), .val (.ref a_ASK), .val (.ref a_BID), .val (.int (1 : Int32)), .val (.ref b37), .val (.ref b44)] []) (fun t k => XS.ifNo X50.here hx rfl (hb hby at_217) rfl ((if0 _ _).trans (feq ((by decide) : ¬ ((1 : Int32) = (0 : Int32)))).1) k) ?_
        refine Goes.to (T' := T50) (mkF m 222 #[.val (.int p0), .val (.int p1), .val (.int p2), .val (.int p3), .val (.int (1 : Int32)), .val (.ref a_ASK), .val (.ref a_BID), .val (.int (1 : Int32)), .val (.ref b37), .val (.ref b44)] [(.ref b44)]) (fun t k => XS.aload X50.here hx rfl (hb hby at_220) rfl rfl k) ?_
        obtain ⟨_, _, ⟨T52, L52, k52, n52⟩, -, X52, ⟨Lc52, hQ52, l52, y52, z52⟩, st52⟩ := Jvm.LawKit.callS X50 hx (y := (⟨"com/example/marktide/marktide/engine/OrderBook$Side", "named", "(Ljava/lang/String;)Lcom/example/marktide/marktide/engine/OrderBook$Side;"⟩ : MethodName)) hown (mvT hZ (hw _ (List.mem_of_getElem? (i := 39) rfl))) (mvT hZ (hw _ (List.mem_of_getElem? (i := 40) rfl))) (mvT hZ (hw _ (List.mem_of_getElem? (i := 1) rfl))) (mvT hZ (hw _ (List.mem_of_getElem? (i := 41) rfl))) (by decide) (backOf (W := 0) (rm_namedA l Z a0 hw [] b44 _ _ _ _ _ va a_BID a_ASK lBID lASK tBID tASK kv kBID kASK cz h49 n0 O E_dr F_vdr F_cdr V_dt hcdD hbdD (Nat.le_of_ble_eq_true rfl) (own_bit1 hc212_51) S_VALUES V_va E_va F_lBID E_lBID F_vBID F_cBID V_tBID F_lASK E_lASK F_vASK F_cASK V_tASK S_CS hcz) hZ (hw _ (List.mem_of_getElem? (i := 41) rfl)) (hw _ (List.mem_of_getElem? (i := 1) rfl)) (by decide) (by decide)) (g := (mkF m 222 #[.val (.int p0), .val (.int p1), .val (.int p2), .val (.int p3), .val (.int (1 : Int32)), .val (.ref a_ASK), .val (.ref a_BID), .val (.int (1 : Int32)), .val (.ref b37), .val (.ref b44)] [(.ref b44)])) rfl (by rw [hml]; rfl) (argsL := [(.ref b44)]) (rest := []) (lenOf pd_4 rfl) rfl (by show 2 * 0 + _ ≤ _; exact Nat.le_of_eq rfl) (hb hby at_222) (fun _ _ => ⟨rfl, hs50, (by decide : 16 + 1 ≤ _), (by decide : 68 + 2 ≤ _)⟩)
        dsimp only [Pt.U, Pt.locs, Pt.cells, Pt.slots] at X52 l52 y52 z52 st52 hQ52
        subst l52 y52 z52
        obtain ⟨rfl, N52, K52⟩ := hQ52
        have N52' := Fr.app N50' N52
        have C' := C.trans (CHr.keep K52 sf0 C.1)
        have zz0 := Safe.keep K52 sf0 C.1 Z_b44
        replace Z_b44 := zz0
        replace C := C'
        replace E_lo31 := E_lo31.keep K52
        replace F_vlo31 := F_vlo31.keep K52 nin0
        replace F_clo31 := F_clo31.keep K52 nin0
        replace V_lt31 := V_lt31.keep K52 nin0
        replace E_lo33 := E_lo33.keep K52
        replace F_vlo33 := F_vlo33.keep K52 nin0
        replace F_clo33 := F_clo33.keep K52 nin0
        replace V_lt33 := V_lt33.keep K52 nin0
        replace V_b37 := V_b37.keep K52 nin0
        replace E_b44 := E_b44.keep K52
        replace E_dr := E_dr.keep K52
        replace F_vdr := F_vdr.keep K52 nin0
        replace F_cdr := F_cdr.keep K52 nin0
        replace V_dt := V_dt.keep K52 nin0
        replace E_str46 := E_str46.keep K52
        replace F_coder_str46 := F_coder_str46.keep K52 nin0
        replace F_value_str46 := F_value_str46.keep K52 nin0
        replace V_sb46 := V_sb46.keep K52 nin0
        replace E_str49 := E_str49.keep K52
        replace F_coder_str49 := F_coder_str49.keep K52 nin0
        replace F_value_str49 := F_value_str49.keep K52 nin0
        replace V_sb49 := V_sb49.keep K52 nin0
        replace O := O.keep K52 all0
        replace hk0 := Nat.le_trans hk0 K52.1
        refine Goes.to (T' := T52) (mkF m 225 #[.val (.int p0), .val (.int p1), .val (.int p2), .val (.int p3), .val (.int (1 : Int32)), .val (.ref a_ASK), .val (.ref a_BID), .val (.int (1 : Int32)), .val (.ref b37), .val (.ref b44)] [(.ref a_ASK)]) (fun t k => st52 t k) ?_
        obtain ⟨T53, X53, e53, st53⟩ := getS2 X52 hx hZ hown (host := "") (Or.inl (hw _ (List.mem_of_getElem? (i := 3) rfl))) Via.refl rfl (S_ASK.ext O.2) (g := (mkF m 225 #[.val (.int p0), .val (.int p1), .val (.int p2), .val (.int p3), .val (.int (1 : Int32)), .val (.ref a_ASK), .val (.ref a_BID), .val (.int (1 : Int32)), .val (.ref b37), .val (.ref b44)] [(.ref a_ASK)])) rfl (hb hby at_225)
        refine Goes.to (T' := T53) (mkF m 228 #[.val (.int p0), .val (.int p1), .val (.int p2), .val (.int p3), .val (.int (1 : Int32)), .val (.ref a_ASK), .val (.ref a_BID), .val (.int (1 : Int32)), .val (.ref b37), .val (.ref b44)] [(.ref a_ASK), (.ref a_ASK)]) st53 ?_
        refine Goes.to (T' := T53) (mkF m 231 #[.val (.int p0), .val (.int p1), .val (.int p2), .val (.int p3), .val (.int (1 : Int32)), .val (.ref a_ASK), .val (.ref a_BID), .val (.int (1 : Int32)), .val (.ref b37), .val (.ref b44)] []) (fun t k => Jvm.RoadKit.acmp (g := (mkF m 228 #[.val (.int p0), .val (.int p1), .val (.int p2), .val (.int p3), .val (.int (1 : Int32)), .val (.ref a_ASK), .val (.ref a_BID), .val (.int (1 : Int32)), .val (.ref b37), .val (.ref b44)] [(.ref a_ASK), (.ref a_ASK)])) X53 hx rfl rfl rfl (pc0 := 228) (pc' := 231) (same := true) rfl (hb hby at_228) rfl (decide_eq_true rfl) (by decide) (by decide) k) ?_
        refine Goes.to (T' := T53) (mkF m 232 #[.val (.int p0), .val (.int p1), .val (.int p2), .val (.int p3), .val (.int (1 : Int32)), .val (.ref a_ASK), .val (.ref a_BID), .val (.int (1 : Int32)), .val (.ref b37), .val (.ref b44)] [(.int (1 : Int32))]) (fun t k => XS.iconst X53.here hx rfl (hb hby at_231) k) ?_
        refine Goes.to (T' := T53) (mkF m 236 #[.val (.int p0), .val (.int p1), .val (.int p2), .val (.int p3), .val (.int (1 : Int32)), .val (.ref a_ASK), .val (.ref a_BID), .val (.int (1 : Int32)), .val (.ref b37), .val (.ref b44)] [(.int (1 : Int32))]) (fun t k => XS.goto X53.here hx rfl (pc0 := 232) (pc' := 236) rfl (hb hby at_232) (by decide) (by decide) k) ?_
        refine Goes.to (T' := T53) (mkF m 238 #[.val (.int p0), .val (.int p1), .val (.int p2), .val (.int p3), .val (.int (1 : Int32)), .val (.ref a_ASK), .val (.ref a_BID), .val (.int (1 : Int32)), .val (.ref b37), .val (.ref b44)] []) (fun t k => XS.istore X53.here hx rfl (hb hby at_236) rfl (l' := #[.val (.int p0), .val (.int p1), .val (.int p2), .val (.int p3), .val (.int (1 : Int32)), .val (.ref a_ASK), .val (.ref a_BID), .val (.int (1 : Int32)), .val (.ref b37), .val (.ref b44)]) rfl k) ?_
        refine Goes.to (T' := T53) (mkF m 240 #[.val (.int p0), .val (.int p1), .val (.int p2), .val (.int p3), .val (.int (1 : Int32)), .val (.ref a_ASK), .val (.ref a_BID), .val (.int (1 : Int32)), .val (.ref b37), .val (.ref b44)] [(.int (1 : Int32))]) (fun t k => XS.iload X53.here hx rfl (hb hby at_238) rfl k) ?_
        refine Goes.retNW X53 hx Bd.notSynchronized hS0 (by rw [e53]; exact hk0) (t := .boolean) Bd.returns (by simp) (hb hby at_240) (by decide) (by decide) ?_
        rw [e53]
        exact ⟨rfl, N52'⟩
    · refine Goes.to (T' := T47) (mkF m 179 #[.val (.int p0), .val (.int p1), .val (.int p2), .val (.int p3), .val (.int (1 : Int32)), .val (.ref a_ASK), .val (.ref a_BID), .val (.int (1 : Int32)), .val (.ref b37), .val (.ref b44)] []) (fun t k => XS.ifNo X47.here hx rfl (hb hby at_176) rfl ((if0 _ _).trans (feq hc176_48).1) k) ?_
      refine Goes.to (T' := T47) (mkF m 181 #[.val (.int p0), .val (.int p1), .val (.int p2), .val (.int p3), .val (.int (1 : Int32)), .val (.ref a_ASK), .val (.ref a_BID), .val (.int (1 : Int32)), .val (.ref b37), .val (.ref b44)] [(.int (1 : Int32))]) (fun t k => XS.iload X47.here hx rfl (hb hby at_179) rfl k) ?_
      refine Goes.to (T' := T47) (mkF m 184 #[.val (.int p0), .val (.int p1), .val (.int p2), .val (.int p3), .val (.int (1 : Int32)), .val (.ref a_ASK), .val (.ref a_BID), .val (.int (1 : Int32)), .val (.ref b37), .val (.ref b44)] []) (fun t k => XS.ifNo X47.here hx rfl (hb hby at_181) rfl ((if0 _ _).trans (feq ((by decide) : ¬ ((1 : Int32) = (0 : Int32)))).1) k) ?_
      refine Goes.to (T' := T47) (mkF m 186 #[.val (.int p0), .val (.int p1), .val (.int p2), .val (.int p3), .val (.int (1 : Int32)), .val (.ref a_ASK), .val (.ref a_BID), .val (.int (1 : Int32)), .val (.ref b37), .val (.ref b44)] [(.ref b44)]) (fun t k => XS.aload X47.here hx rfl (hb hby at_184) rfl rfl k) ?_
      obtain ⟨_, _, ⟨T54, L54, k54, n54⟩, -, X54, ⟨Lc54, hQ54, l54, y54, z54⟩, st54⟩ := Jvm.LawKit.callS X47 hx (y := (⟨"com/example/marktide/marktide/engine/OrderBook$Side", "named", "(Ljava/lang/String;)Lcom/example/marktide/marktide/engine/OrderBook$Side;"⟩ : MethodName)) hown (mvT hZ (hw _ (List.mem_of_getElem? (i := 39) rfl))) (mvT hZ (hw _ (List.mem_of_getElem? (i := 40) rfl))) (mvT hZ (hw _ (List.mem_of_getElem? (i := 1) rfl))) (mvT hZ (hw _ (List.mem_of_getElem? (i := 41) rfl))) (by decide) (backOf (W := 0) (rm_namedB l Z a0 hw [] b44 _ _ _ _ _ va a_BID a_ASK lBID lASK tBID tASK kv kBID kASK cz h46 n0 O E_dr F_vdr F_cdr V_dt hcdD hbdD (Nat.le_of_ble_eq_true rfl) (own_bit1 hc176_48) S_VALUES V_va E_va F_lBID E_lBID F_vBID F_cBID V_tBID F_lASK E_lASK F_vASK F_cASK V_tASK S_CS hcz) hZ (hw _ (List.mem_of_getElem? (i := 41) rfl)) (hw _ (List.mem_of_getElem? (i := 1) rfl)) (by decide) (by decide)) (g := (mkF m 186 #[.val (.int p0), .val (.int p1), .val (.int p2), .val (.int p3), .val (.int (1 : Int32)), .val (.ref a_ASK), .val (.ref a_BID), .val (.int (1 : Int32)), .val (.ref b37), .val (.ref b44)] [(.ref b44)])) rfl (by rw [hml]; rfl) (argsL := [(.ref b44)]) (rest := []) (lenOf pd_4 rfl) rfl (by show 2 * 0 + _ ≤ _; exact Nat.le_of_eq rfl) (hb hby at_186) (fun _ _ => ⟨rfl, hs47, (by decide : 14 + 1 ≤ _), (by decide : 52 + 2 ≤ _)⟩)
      dsimp only [Pt.U, Pt.locs, Pt.cells, Pt.slots] at X54 l54 y54 z54 st54 hQ54
      subst l54 y54 z54
      obtain ⟨rfl, N54, K54⟩ := hQ54
      have N54' := Fr.app N47' N54
      have C' := C.trans (CHr.keep K54 sf0 C.1)
      have zz0 := Safe.keep K54 sf0 C.1 Z_b44
      replace Z_b44 := zz0
      replace C := C'
      replace E_lo31 := E_lo31.keep K54
      replace F_vlo31 := F_vlo31.keep K54 nin0
      replace F_clo31 := F_clo31.keep K54 nin0
      replace V_lt31 := V_lt31.keep K54 nin0
      replace E_lo33 := E_lo33.keep K54
      replace F_vlo33 := F_vlo33.keep K54 nin0
      replace F_clo33 := F_clo33.keep K54 nin0
      replace V_lt33 := V_lt33.keep K54 nin0
      replace V_b37 := V_b37.keep K54 nin0
      replace E_b44 := E_b44.keep K54
      replace E_dr := E_dr.keep K54
      replace F_vdr := F_vdr.keep K54 nin0
      replace F_cdr := F_cdr.keep K54 nin0
      replace V_dt := V_dt.keep K54 nin0
      replace E_str46 := E_str46.keep K54
      replace F_coder_str46 := F_coder_str46.keep K54 nin0
      replace F_value_str46 := F_value_str46.keep K54 nin0
      replace V_sb46 := V_sb46.keep K54 nin0
      replace O := O.keep K54 all0
      replace hk0 := Nat.le_trans hk0 K54.1
      refine Goes.to (T' := T54) (mkF m 189 #[.val (.int p0), .val (.int p1), .val (.int p2), .val (.int p3), .val (.int (1 : Int32)), .val (.ref a_ASK), .val (.ref a_BID), .val (.int (1 : Int32)), .val (.ref b37), .val (.ref b44)] [(.ref a_BID)]) (fun t k => st54 t k) ?_
      obtain ⟨T55, X55, e55, st55⟩ := getS2 X54 hx hZ hown (host := "") (Or.inl (hw _ (List.mem_of_getElem? (i := 0) rfl))) Via.refl rfl (S_BID.ext O.2) (g := (mkF m 189 #[.val (.int p0), .val (.int p1), .val (.int p2), .val (.int p3), .val (.int (1 : Int32)), .val (.ref a_ASK), .val (.ref a_BID), .val (.int (1 : Int32)), .val (.ref b37), .val (.ref b44)] [(.ref a_BID)])) rfl (hb hby at_189)
      refine Goes.to (T' := T55) (mkF m 192 #[.val (.int p0), .val (.int p1), .val (.int p2), .val (.int p3), .val (.int (1 : Int32)), .val (.ref a_ASK), .val (.ref a_BID), .val (.int (1 : Int32)), .val (.ref b37), .val (.ref b44)] [(.ref a_BID), (.ref a_BID)]) st55 ?_
      refine Goes.to (T' := T55) (mkF m 195 #[.val (.int p0), .val (.int p1), .val (.int p2), .val (.int p3), .val (.int (1 : Int32)), .val (.ref a_ASK), .val (.ref a_BID), .val (.int (1 : Int32)), .val (.ref b37), .val (.ref b44)] []) (fun t k => Jvm.RoadKit.acmp (g := (mkF m 192 #[.val (.int p0), .val (.int p1), .val (.int p2), .val (.int p3), .val (.int (1 : Int32)), .val (.ref a_ASK), .val (.ref a_BID), .val (.int (1 : Int32)), .val (.ref b37), .val (.ref b44)] [(.ref a_BID), (.ref a_BID)])) X55 hx rfl rfl rfl (pc0 := 192) (pc' := 195) (same := true) rfl (hb hby at_192) rfl (decide_eq_true rfl) (by decide) (by decide) k) ?_
      refine Goes.to (T' := T55) (mkF m 196 #[.val (.int p0), .val (.int p1), .val (.int p2), .val (.int p3), .val (.int (1 : Int32)), .val (.ref a_ASK), .val (.ref a_BID), .val (.int (1 : Int32)), .val (.ref b37), .val (.ref b44)] [(.int (1 : Int32))]) (fun t k => XS.iconst X55.here hx rfl (hb hby at_195) k) ?_
      refine Goes.to (T' := T55) (mkF m 200 #[.val (.int p0), .val (.int p1), .val (.int p2), .val (.int p3), .val (.int (1 : Int32)), .val (.ref a_ASK), .val (.ref a_BID), .val (.int (1 : Int32)), .val (.ref b37), .val (.ref b44)] [(.int (1 : Int32))]) (fun t k => XS.goto X55.here hx rfl (pc0 := 196) (pc' := 200) rfl (hb hby at_196) (by decide) (by decide) k) ?_
      refine Goes.to (T' := T55) (mkF m 202 #[.val (.int p0), .val (.int p1), .val (.int p2), .val (.int p3), .val (.int (1 : Int32)), .val (.ref a_ASK), .val (.ref a_BID), .val (.int (1 : Int32)), .val (.ref b37), .val (.ref b44)] []) (fun t k => XS.istore X55.here hx rfl (hb hby at_200) rfl (l' := #[.val (.int p0), .val (.int p1), .val (.int p2), .val (.int p3), .val (.int (1 : Int32)), .val (.ref a_ASK), .val (.ref a_BID), .val (.int (1 : Int32)), .val (.ref b37), .val (.ref b44)]) rfl k) ?_
      refine Goes.to (T' := T55) (mkF m 238 #[.val (.int p0), .val (.int p1), .val (.int p2), .val (.int p3), .val (.int (1 : Int32)), .val (.ref a_ASK), .val (.ref a_BID), .val (.int (1 : Int32)), .val (.ref b37), .val (.ref b44)] []) (fun t k => XS.goto X55.here hx rfl (pc0 := 202) (pc' := 238) rfl (hb hby at_202) (by decide) (by decide) k) ?_
      refine Goes.to (T' := T55) (mkF m 240 #[.val (.int p0), .val (.int p1), .val (.int p2), .val (.int p3), .val (.int (1 : Int32)), .val (.ref a_ASK), .val (.ref a_BID), .val (.int (1 : Int32)), .val (.ref b37), .val (.ref b44)] [(.int (1 : Int32))]) (fun t k => XS.iload X55.here hx rfl (hb hby at_238) rfl k) ?_
      refine Goes.retNW X55 hx Bd.notSynchronized hS0 (by rw [e55]; exact hk0) (t := .boolean) Bd.returns (by simp) (hb hby at_240) (by decide) (by decide) ?_
      rw [e55]
      exact ⟨rfl, N54'⟩
set_option maxRecDepth 65536 in
set_option maxHeartbeats 40000000 in
theorem comes_1 {Post : Tables → Env → Array Value → State → Outcome → State → Prop} (hpost : ∀ tb e args s v u, (limb_1_1.after args s (.returned v) u = true ∧ limb_1_2.after args s (.returned v) u = true ∧ True) → ReturnedEndW s (.returned v) u (Jvm.fieldLocs frame_1_writes args s ++ Jvm.arrayLocs frame_1_arrays args s ++ Jvm.staticLocs frame_1_statics s) 40 2240 → Post tb e args s (.returned v) u) :
    ArmFor flags0 classFile x code maxLocals ret World_1 tables_1 room_1 Calls_1 rest_1 Pre_1 Post := by
  intro l hfl _ _ p e ha hc hk s m args below hf hA hF happ hP
  obtain ⟨hcalls, hrest, hpre⟩ := hP
  obtain ⟨-, -, -, hnamed, -, -, -, hat⟩ := (Spec.applies_iff hf).mp happ
  obtain ⟨hg, hn⟩ := and_e (Cond.before_iff.mp (show (Jvm.Cond.and given_1 narrow_1).before args s = true from hpre))
  obtain ⟨gg0, gr0⟩ := and_e hg
  obtain ⟨gg1, gr1⟩ := and_e gr0
  obtain ⟨gg2, gr2⟩ := and_e gr1
  obtain ⟨gg3, gr3⟩ := and_e gr2
  have gg4 := gr3
  obtain ⟨w0, w1, w2, w3, rfl⟩ : ∃ w0 w1 w2 w3 : Value, args = #[w0, w1, w2, w3] := by
    have hs : args.size = 4 := by simpa [Cond.value, given_1] using gg0
    obtain ⟨L⟩ := args
    match L, hs with
    | [w0, w1, w2, w3], _ => exact ⟨w0, w1, w2, w3, rfl⟩
  have hw := fun d (hd : d ∈ tables_1) => atoms_spec (ws := Jvm.Cond.code x code maxLocals ret :: tables_1) hat d (List.mem_cons_of_mem _ hd)
  have hfit : Fit s := fun {y c} hc i hi => by
    obtain ⟨ha, rfl⟩ := Array.getElem?_eq_some_iff.mp hc
    have q := List.all_eq_true.mp ((Array.all_eq_true_iff_forall_mem.mp hF) _ (Array.getElem_mem ha)) i (List.mem_range.mpr hi)
    simpa [Array.getElem?_eq_getElem hi] using q
  obtain ⟨hsets, hown0⟩ := atoms_of _ (rest_1_c_eq ▸ (show rest_1_c.before _ s = true from hrest))
  have hr0 := Cond.before_iff.mp hown0
  obtain ⟨i0, ei0⟩ := is_v gg1
  obtain rfl : w0 = (.int i0) := Option.some.inj ei0
  obtain ⟨i1, ei1⟩ := is_v gg2
  obtain rfl : w1 = (.int i1) := Option.some.inj ei1
  obtain ⟨i2, ei2⟩ := is_v gg3
  obtain rfl : w2 = (.int i2) := Option.some.inj ei2
  obtain ⟨i3, ei3⟩ := is_v gg4
  obtain rfl : w3 = (.int i3) := Option.some.inj ei3
  obtain ⟨nn0, nr0⟩ := and_e hn
  obtain ⟨nn1, nr1⟩ := and_e nr0
  obtain ⟨nn2, nr2⟩ := and_e nr1
  obtain ⟨nn3, nr3⟩ := and_e nr2
  obtain ⟨nn4, nr4⟩ := and_e nr3
  obtain ⟨nn5, nr5⟩ := and_e nr4
  obtain ⟨nn6, nr6⟩ := and_e nr5
  obtain ⟨nn7, nr7⟩ := and_e nr6
  obtain ⟨nn8, nr8⟩ := and_e nr7
  obtain ⟨nn9, nr9⟩ := and_e nr8
  obtain ⟨nn10, nr10⟩ := and_e nr9
  obtain ⟨nn11, nr11⟩ := and_e nr10
  obtain ⟨nn12, nr12⟩ := and_e nr11
  obtain ⟨nn13, nr13⟩ := and_e nr12
  obtain ⟨nn14, nr14⟩ := and_e nr13
  obtain ⟨nn15, nr15⟩ := and_e nr14
  obtain ⟨nn16, nr16⟩ := and_e nr15
  obtain ⟨nn17, nr17⟩ := and_e nr16
  obtain ⟨nn18, nr18⟩ := and_e nr17
  obtain ⟨nn19, nr19⟩ := and_e nr18
  obtain ⟨nn20, nr20⟩ := and_e nr19
  have nn21 := nr20
  obtain ⟨a_BID, ev_BID⟩ := exa_v nn0
  have S_BID : Sta s s.heap "com/example/marktide/marktide/engine/OrderBook$Side" "BID" "Lcom/example/marktide/marktide/engine/OrderBook$Side;" (.ref a_BID) := Sta.start ev_BID (Or.inr ⟨(hw _ (List.mem_of_getElem? (i := 1) rfl)), (hw _ (List.mem_of_getElem? (i := 2) rfl))⟩)
  have E_BID : Exa s s.heap a_BID "com/example/marktide/marktide/engine/OrderBook$Side" := Exa.start ev_BID nn0
  obtain ⟨a_ASK, ev_ASK⟩ := exa_v nn1
  have S_ASK : Sta s s.heap "com/example/marktide/marktide/engine/OrderBook$Side" "ASK" "Lcom/example/marktide/marktide/engine/OrderBook$Side;" (.ref a_ASK) := Sta.start ev_ASK (Or.inr ⟨(hw _ (List.mem_of_getElem? (i := 1) rfl)), (hw _ (List.mem_of_getElem? (i := 4) rfl))⟩)
  have E_ASK : Exa s s.heap a_ASK "com/example/marktide/marktide/engine/OrderBook$Side" := Exa.start ev_ASK nn1
  obtain ⟨a_VALUES, ev_VALUES⟩ := exa_v nn3
  have S_VALUES : Sta s s.heap "com/example/marktide/marktide/engine/OrderBook$Side" "$VALUES" "[Lcom/example/marktide/marktide/engine/OrderBook$Side;" (.ref a_VALUES) := Sta.start ev_VALUES (Or.inr ⟨(hw _ (List.mem_of_getElem? (i := 1) rfl)), (hw _ (List.mem_of_getElem? (i := 46) rfl))⟩)
  have E_VALUES : Exa s s.heap a_VALUES "[Lcom/example/marktide/marktide/engine/OrderBook$Side;" := Exa.start ev_VALUES nn3
  obtain ⟨hcs, -⟩ := hcalls
  obtain ⟨cz, ecz⟩ := is_v (Cond.before_iff.mp (hsets _ (List.mem_of_getElem? (i := 1) rfl)))
  have S_CS : Sta s s.heap "java/lang/String" "COMPACT_STRINGS" "Z" (.int cz) := Sta.start ecz (Or.inl (hsets _ (List.mem_of_getElem? (i := 0) rfl)))
  have hcz : ¬ cz = 0 := fun q => by
    have h1 := not_v (Cond.before_iff.mp (hsets _ (List.mem_of_getElem? (i := 2) rfl)))
    simp only [Cond.value, ecz, Term.int_eval] at h1
    simp [q] at h1
  obtain ⟨kv, V_va⟩ := own_arv (dv := .null) hfit ev_VALUES nn2 nn4 (by decide) (vs := [.ref a_BID, .ref a_ASK]) rfl (fun c hc => ⟨own_elR ev_VALUES ev_BID hc nn5, own_elR ev_VALUES ev_ASK hc nn6, trivial⟩)
  obtain ⟨lBID, ev_lBID⟩ := exa_v nn7
  have F_lBID : Fld s s.heap a_BID "com/example/marktide/marktide/engine/OrderBook$Side" "label" "Ljava/lang/String;" (.ref lBID) := Fld.start ((fld_at ev_BID).symm.trans ev_lBID)
  have E_lBID : Exa s s.heap lBID "java/lang/String" := Exa.start ev_lBID nn7
  have F_cBID := own_fldI ev_lBID nn8
  obtain ⟨tBID, ev_tBID⟩ := arr_v nn9
  have F_vBID : Fld s s.heap lBID "java/lang/String" "value" "[B" (.ref tBID) := Fld.start ((fld_at ev_lBID).symm.trans ev_tBID)
  obtain ⟨kBID, V_tBID⟩ := own_arv (dv := .int 0) hfit ev_tBID nn9 nn10 (by decide) (vs := [(.int (98 : Int32)), (.int (105 : Int32)), (.int (100 : Int32))]) rfl (fun c hc => ⟨own_elI ev_tBID hc nn11, own_elI ev_tBID hc nn12, own_elI ev_tBID hc nn13, trivial⟩)
  obtain ⟨lASK, ev_lASK⟩ := exa_v nn14
  have F_lASK : Fld s s.heap a_ASK "com/example/marktide/marktide/engine/OrderBook$Side" "label" "Ljava/lang/String;" (.ref lASK) := Fld.start ((fld_at ev_ASK).symm.trans ev_lASK)
  have E_lASK : Exa s s.heap lASK "java/lang/String" := Exa.start ev_lASK nn14
  have F_cASK := own_fldI ev_lASK nn15
  obtain ⟨tASK, ev_tASK⟩ := arr_v nn16
  have F_vASK : Fld s s.heap lASK "java/lang/String" "value" "[B" (.ref tASK) := Fld.start ((fld_at ev_lASK).symm.trans ev_tASK)
  obtain ⟨kASK, V_tASK⟩ := own_arv (dv := .int 0) hfit ev_tASK nn16 nn17 (by decide) (vs := [(.int (97 : Int32)), (.int (115 : Int32)), (.int (107 : Int32))]) rfl (fun c hc => ⟨own_elI ev_tASK hc nn18, own_elI ev_tASK hc nn19, own_elI ev_tASK hc nn20, trivial⟩)
  have hCH : CHv s consts_1 s.vm s.heap := CHv.start (own_EW hw) (fun p hp => hcs p hp) (hsets _ (List.mem_of_getElem? (i := 2) rfl)) (hw _ (List.mem_of_getElem? (i := 28) rfl)) (hw _ (List.mem_of_getElem? (i := 11) rfl))
  obtain ⟨n, o, h1, h2, h3, _, L, rfl, ⟨rfl, N⟩, hq⟩ := rm_law l s _ hw tables_1 i0 i1 i2 i3 a_VALUES a_BID a_ASK lBID lASK tBID tASK kv kBID kASK cz s.heap s.heap.size (Old.start s) S_VALUES V_va E_VALUES F_lBID E_lBID F_vBID F_cBID V_tBID F_lASK E_lASK F_vASK F_cASK V_tASK S_CS hcz S_BID S_ASK E_BID E_ASK p e ha hc hk s m _ below hf ((Spec.applies_iff_loose hf).mp happ).1 ⟨rfl, State.Warmed39.refl s, rfl, hCH⟩ trivial
  refine ⟨n, _, h1, h2, h3, hpost _ _ _ _ _ _ ⟨Cond.after_iff.mpr rfl, Cond.after_iff.mpr (eq_i res_at (Term.int_eval (1)) rfl), trivial⟩ ⟨hq.1, hq.2.1, hq.2.2.1, (hq.2.2.2.sift fun y hy => Or.inr (N y hy)).mono (by decide) (by decide)⟩⟩
theorem main_1_1 : Claimed_1_1 := comes_1 fun _ _ _ _ _ _ h hF => ⟨h.1, hF⟩
theorem main_1_2 : Claimed_1_2 := comes_1 fun _ _ _ _ _ _ h hF => ⟨h.2.1, hF⟩

end Jvm.Pilot.@@N@@
namespace Jvm.Pilot.@@N@@
open Jvm Jvm.ClassFile Sem Op Lib Jvm.Free Jvm.Stand Jvm.Pilot.@@N@@.Jvm.D
/-! MADE BY PROGRAM (witnessworld.py) out of the Statement's table words and the real class files: 22 classes; the members and pool entries that the words name. The judged class is class 1, her method 2. -/
namespace start1
open Jvm.ClassFile
def u (s : String) : CpInfo := .utf8 (stringToUtf16 s)
/-- a pool by its gaps: so many unusable entries, then the entry; so many at the end -/
def gap : Nat → List CpInfo → List CpInfo
  | 0, r => r
  | n + 1, r => .unusable :: gap n r
def poolList (es : List (Nat × CpInfo)) (last : Nat) : List CpInfo := es.foldr (fun e r => gap e.1 (e.2 :: r)) (gap last [])
def pool (es : List (Nat × CpInfo)) (last : Nat) : Array CpInfo := ⟨poolList es last⟩
def fileOf (pool : Array CpInfo) (this : Nat) (attrs : Array Attribute := #[]) (ms : Array MethodInfo := #[]) (fl : Nat := 33) (sup : Nat := 0) (ifs : Array Nat := #[]) (fds : Array FieldInfo := #[]) : ClassFile where
  minorVersion := 0
  majorVersion := 65
  constantPool := pool
  accessFlags := fl
  thisClass := this
  superClass := sup
  interfaces := ifs
  fields := fds
  methods := ms
  attributes := attrs
def plain (name : String) (sup : Option ClassId) : Class where
  name := name
  kind := .ordinary
  loader := none
  accessFlags := 33
  super := sup
  interfaces := #[]
  cf := none
  fields := #[]
  methods := #[]
  instanceTypes := #[]
  staticTypes := #[]
  resolved := #[]
  callSites := []
  init := .initialized
  statics := none
  mirror := none

def pool0 : Array CpInfo := pool [(5, u "<init>"), (0, u "()V"), (1, .class_ 10), (1, u "java/lang/Object"), (85, u "clone"), (0, u "()Ljava/lang/Object;")] 26

def k0c0 : Code := { maxStack := 0, maxLocals := 1, code := object_method_1_code, exceptionTable := #[], attributes := #[] }
def k0m0 : Method := { name := "<init>", desc := "()V", sig := { parameters := [], returnType := none }, accessFlags := 1, code := some k0c0 }
def k0m1 : Method := { name := "clone", desc := "()Ljava/lang/Object;", sig := { parameters := [], returnType := some (.object "java/lang/Object") }, accessFlags := 260, code := none }
/-- java/lang/Object -/
def k0 : Class := { plain "java/lang/Object" none with
  accessFlags := 33
  interfaces := #[]
  cf := some (fileOf pool0 8 #[] #[{ accessFlags := 1, nameIndex := 5, descriptorIndex := 6, attributes := #[] }, { accessFlags := 260, nameIndex := 96, descriptorIndex := 97, attributes := #[] }] 33 0 #[] #[])
  fields := #[]
  methods := #[k0m0, k0m1]
  instanceTypes := #[]
  staticTypes := #[]
  resolved := Array.replicate 124 none
  statics := none }

def pool1 : Array CpInfo := pool [(2, .class_ 4), (1, u "java/lang/Object"), (0, u "<init>"), (0, u "()V"), (0, .class_ 8), (0, u "java/lang/String"), (0, .methodref 7 10), (0, .nameAndType 5 11), (0, u "([C)V"), (0, .fieldref 13 14), (0, .class_ 15), (0, .nameAndType 16 17), (0, u "com/example/marktide/marktide/engine/OrderBook$Side"), (0, u "ASK"), (0, u "Lcom/example/marktide/marktide/engine/OrderBook$Side;"), (0, .fieldref 13 19), (0, .nameAndType 20 17), (0, u "BID"), (0, .methodref 22 23), (0, .class_ 24), (0, .nameAndType 25 26), (0, u "com/example/marktide/marktide/engine/SideNamedPinLaw"), (0, u "label"), (0, u "(Z)Ljava/lang/String;"), (0, .methodref 13 28), (0, .nameAndType 29 30), (0, u "named"), (0, u "(Ljava/lang/String;)Lcom/example/marktide/marktide/engine/OrderBook$Side;"), (0, .methodref 13 32), (0, .nameAndType 33 34), (0, u "toString"), (0, u "()Ljava/lang/String;"), (0, .string 36), (0, u "bid"), (0, .methodref 7 38), (0, .nameAndType 39 40), (0, u "equals"), (0, u "(Ljava/lang/Object;)Z"), (0, .string 42), (0, u "ask"), (5, u "law"), (0, u "(IIII)Z")] 6

def k1m0 : Method := { name := "<init>", desc := "()V", sig := { parameters := [], returnType := none }, accessFlags := 2, code := none }
def k1c1 : Code := { maxStack := 3, maxLocals := 2, code := method_2_code, exceptionTable := #[], attributes := #[] }
def k1m1 : Method := { name := "label", desc := "(Z)Ljava/lang/String;", sig := { parameters := [.boolean], returnType := some (.object "java/lang/String") }, accessFlags := 10, code := some k1c1 }
def k1c2 : Code := { maxStack := 4, maxLocals := 10, code := code, exceptionTable := #[], attributes := #[] }
def k1m2 : Method := { name := "law", desc := "(IIII)Z", sig := { parameters := [.int, .int, .int, .int], returnType := some .boolean }, accessFlags := 9, code := some k1c2 }
/-- com/example/marktide/marktide/engine/SideNamedPinLaw -/
def k1 : Class := { plain "com/example/marktide/marktide/engine/SideNamedPinLaw" (some 0) with
  accessFlags := 49
  interfaces := #[]
  cf := some (fileOf pool1 22 #[] #[{ accessFlags := 2, nameIndex := 5, descriptorIndex := 6, attributes := #[] }, { accessFlags := 10, nameIndex := 25, descriptorIndex := 26, attributes := #[] }, { accessFlags := 9, nameIndex := 48, descriptorIndex := 49, attributes := #[] }] 49 2 #[] #[])
  fields := #[]
  methods := #[k1m0, k1m1, k1m2]
  instanceTypes := #[]
  staticTypes := #[]
  resolved := Array.replicate 56 none
  statics := none }

def pool2 : Array CpInfo := pool [(1, .class_ 2), (0, u "java/lang/constant/Constable"), (0, .class_ 4), (0, u "java/lang/Object")] 6

/-- java/lang/constant/Constable -/
def k2 : Class := { plain "java/lang/constant/Constable" (some 0) with
  accessFlags := 1537
  interfaces := #[]
  cf := some (fileOf pool2 1 #[] #[] 1537 3 #[] #[])
  fields := #[]
  methods := #[]
  instanceTypes := #[]
  staticTypes := #[]
  resolved := Array.replicate 11 none
  statics := none }

def pool3 : Array CpInfo := pool [(1, .class_ 2), (0, u "java/lang/Comparable"), (0, .class_ 4), (0, u "java/lang/Object")] 7

/-- java/lang/Comparable -/
def k3 : Class := { plain "java/lang/Comparable" (some 0) with
  accessFlags := 1537
  interfaces := #[]
  cf := some (fileOf pool3 1 #[] #[] 1537 3 #[] #[])
  fields := #[]
  methods := #[]
  instanceTypes := #[]
  staticTypes := #[]
  resolved := Array.replicate 12 none
  statics := none }

def pool4 : Array CpInfo := pool [(1, .class_ 2), (0, u "java/io/Serializable"), (0, .class_ 4), (0, u "java/lang/Object")] 2

/-- java/io/Serializable -/
def k4 : Class := { plain "java/io/Serializable" (some 0) with
  accessFlags := 1537
  interfaces := #[]
  cf := some (fileOf pool4 1 #[] #[] 1537 3 #[] #[])
  fields := #[]
  methods := #[]
  instanceTypes := #[]
  staticTypes := #[]
  resolved := Array.replicate 7 none
  statics := none }

def pool5 : Array CpInfo := pool [(2, .class_ 4), (1, u "java/lang/Enum"), (0, u "name"), (0, u "Ljava/lang/String;"), (2, u "ordinal"), (0, u "I"), (1, .class_ 14), (1, u "java/lang/Object"), (4, u "hash"), (86, .class_ 108), (1, u "java/lang/Enum$EnumDesc"), (2, .class_ 112), (0, u "java/lang/constant/Constable"), (0, .class_ 114), (0, u "java/lang/Comparable"), (0, .class_ 116), (0, u "java/io/Serializable")] 87

/-- java/lang/Enum -/
def k5 : Class := { plain "java/lang/Enum" (some 0) with
  accessFlags := 1057
  interfaces := #[2, 3, 4]
  cf := some (fileOf pool5 2 #[.nestMembers #[106]] #[] 1057 12 #[111, 113, 115] #[{ accessFlags := 18, nameIndex := 5, descriptorIndex := 6, attributes := #[] }, { accessFlags := 18, nameIndex := 9, descriptorIndex := 10, attributes := #[] }, { accessFlags := 2, nameIndex := 19, descriptorIndex := 10, attributes := #[] }])
  fields := #[{ name := "name", type := (.object "java/lang/String"), accessFlags := 18, slot := 0, constantValue := 0 }, { name := "ordinal", type := .int, accessFlags := 18, slot := 1, constantValue := 0 }, { name := "hash", type := .int, accessFlags := 2, slot := 2, constantValue := 0 }]
  methods := #[]
  instanceTypes := #[(.object "java/lang/String"), .int, .int]
  staticTypes := #[]
  resolved := Array.replicate 204 none
  statics := none }

def pool6 : Array CpInfo := pool [(1, .class_ 2), (0, u "com/example/marktide/marktide/engine/OrderBook$Side"), (2, u "BID"), (0, u "Lcom/example/marktide/marktide/engine/OrderBook$Side;"), (2, u "ASK"), (0, .fieldref 1 11), (0, .nameAndType 12 13), (0, u "$VALUES"), (0, u "[Lcom/example/marktide/marktide/engine/OrderBook$Side;"), (0, .methodref 15 16), (0, .class_ 13), (0, .nameAndType 17 18), (0, u "clone"), (0, u "()Ljava/lang/Object;"), (1, .class_ 22), (1, u "java/lang/Enum"), (6, .fieldref 1 30), (0, .nameAndType 31 32), (0, u "label"), (0, u "Ljava/lang/String;"), (2, u "bestFirst"), (0, u "Ljava/util/Comparator;"), (0, .methodref 1 38), (0, .nameAndType 39 40), (0, u "values"), (0, u "()[Lcom/example/marktide/marktide/engine/OrderBook$Side;"), (0, .methodref 42 43), (0, .class_ 44), (0, .nameAndType 45 46), (0, u "java/lang/String"), (0, u "equals"), (0, u "(Ljava/lang/Object;)Z"), (36, u "(Ljava/lang/String;)Lcom/example/marktide/marktide/engine/OrderBook$Side;"), (2, u "named"), (1, u "toString"), (0, u "()Ljava/lang/String;"), (6, .class_ 97), (0, u "com/example/marktide/marktide/engine/OrderBook")] 17

def k6c0 : Code := { maxStack := 1, maxLocals := 0, code := prog_24_method_1_code, exceptionTable := #[], attributes := #[] }
def k6m0 : Method := { name := "values", desc := "()[Lcom/example/marktide/marktide/engine/OrderBook$Side;", sig := { parameters := [], returnType := some (.array (.object "com/example/marktide/marktide/engine/OrderBook$Side")) }, accessFlags := 9, code := some k6c0 }
def k6c1 : Code := { maxStack := 3, maxLocals := 5, code := prog_24_method_4_code, exceptionTable := #[], attributes := #[] }
def k6m1 : Method := { name := "named", desc := "(Ljava/lang/String;)Lcom/example/marktide/marktide/engine/OrderBook$Side;", sig := { parameters := [(.object "java/lang/String")], returnType := some (.object "com/example/marktide/marktide/engine/OrderBook$Side") }, accessFlags := 9, code := some k6c1 }
def k6c2 : Code := { maxStack := 1, maxLocals := 1, code := prog_24_method_5_code, exceptionTable := #[], attributes := #[] }
def k6m2 : Method := { name := "toString", desc := "()Ljava/lang/String;", sig := { parameters := [], returnType := some (.object "java/lang/String") }, accessFlags := 1, code := some k6c2 }
/-- com/example/marktide/marktide/engine/OrderBook$Side -/
def k6 : Class := { plain "com/example/marktide/marktide/engine/OrderBook$Side" (some 5) with
  accessFlags := 16433
  interfaces := #[]
  cf := some (fileOf pool6 1 #[.nestHost 96] #[{ accessFlags := 9, nameIndex := 39, descriptorIndex := 40, attributes := #[] }, { accessFlags := 9, nameIndex := 86, descriptorIndex := 83, attributes := #[] }, { accessFlags := 1, nameIndex := 88, descriptorIndex := 89, attributes := #[] }] 16433 20 #[] #[{ accessFlags := 16409, nameIndex := 5, descriptorIndex := 6, attributes := #[] }, { accessFlags := 16409, nameIndex := 9, descriptorIndex := 6, attributes := #[] }, { accessFlags := 18, nameIndex := 31, descriptorIndex := 32, attributes := #[] }, { accessFlags := 18, nameIndex := 35, descriptorIndex := 36, attributes := #[] }, { accessFlags := 4122, nameIndex := 12, descriptorIndex := 13, attributes := #[] }])
  fields := #[{ name := "BID", type := (.object "com/example/marktide/marktide/engine/OrderBook$Side"), accessFlags := 16409, slot := 0, constantValue := 0 }, { name := "ASK", type := (.object "com/example/marktide/marktide/engine/OrderBook$Side"), accessFlags := 16409, slot := 1, constantValue := 0 }, { name := "label", type := (.object "java/lang/String"), accessFlags := 18, slot := 3, constantValue := 0 }, { name := "bestFirst", type := (.object "java/util/Comparator"), accessFlags := 18, slot := 4, constantValue := 0 }, { name := "$VALUES", type := (.array (.object "com/example/marktide/marktide/engine/OrderBook$Side")), accessFlags := 4122, slot := 2, constantValue := 0 }]
  methods := #[k6m0, k6m1, k6m2]
  instanceTypes := #[(.object "java/lang/String"), .int, .int, (.object "java/lang/String"), (.object "java/util/Comparator")]
  staticTypes := #[(.object "com/example/marktide/marktide/engine/OrderBook$Side"), (.object "com/example/marktide/marktide/engine/OrderBook$Side"), (.array (.object "com/example/marktide/marktide/engine/OrderBook$Side"))]
  resolved := Array.replicate 115 none
  statics := some 0 }

def pool7 : Array CpInfo := pool [(2, .class_ 4), (1, u "java/lang/CharSequence"), (42, .class_ 48), (0, u "java/lang/CharSequence$1CodePointIterator"), (10, .class_ 60), (0, u "java/lang/CharSequence$1CharIterator"), (5, .class_ 67), (0, u "java/lang/Object")] 63

/-- java/lang/CharSequence -/
def k7 : Class := { plain "java/lang/CharSequence" (some 0) with
  accessFlags := 1537
  interfaces := #[]
  cf := some (fileOf pool7 2 #[.nestMembers #[47, 59]] #[] 1537 66 #[] #[])
  fields := #[]
  methods := #[]
  instanceTypes := #[]
  staticTypes := #[]
  resolved := Array.replicate 131 none
  statics := none }

def pool8 : Array CpInfo := pool [(1, .class_ 2), (0, u "java/lang/constant/ConstantDesc"), (0, .class_ 4), (0, u "java/lang/Object")] 32

/-- java/lang/constant/ConstantDesc -/
def k8 : Class := { plain "java/lang/constant/ConstantDesc" (some 0) with
  accessFlags := 1537
  interfaces := #[]
  cf := some (fileOf pool8 1 #[] #[] 1537 3 #[] #[])
  fields := #[]
  methods := #[]
  instanceTypes := #[]
  staticTypes := #[]
  resolved := Array.replicate 37 none
  statics := none }

def pool9 : Array CpInfo := pool [(1, .methodref 2 3), (0, .class_ 4), (0, .nameAndType 5 6), (0, u "java/lang/Object"), (0, u "<init>"), (0, u "()V"), (2, .fieldref 10 11), (0, .class_ 12), (0, .nameAndType 13 14), (0, u "java/lang/String"), (0, u "value"), (0, u "[B"), (0, .fieldref 10 16), (0, .nameAndType 17 18), (0, u "coder"), (0, u "B"), (2, u "hash"), (0, u "I"), (2, u "hashIsZero"), (0, u "Z"), (0, .methodref 10 28), (0, .nameAndType 5 29), (0, u "([CIILjava/lang/Void;)V"), (8, .fieldref 10 39), (0, .nameAndType 40 26), (0, u "COMPACT_STRINGS"), (1, .class_ 44), (1, u "java/lang/StringUTF16"), (0, u "compress"), (1, .methodref 42 48), (0, .nameAndType 49 50), (0, u "coderFromArrayLen"), (0, u "([BI)B"), (56, .class_ 109), (1, u "java/lang/StringLatin1"), (67, .methodref 42 178), (0, .nameAndType 45 179), (0, u "([CII)[B"), (361, .methodref 107 542), (0, .nameAndType 543 544), (0, u "equals"), (0, u "([B[B)Z"), (28, u "(Ljava/lang/Object;)Z"), (1, .class_ 576), (0, u "java/lang/CharSequence"), (22, u "CASE_INSENSITIVE_ORDER"), (0, u "Ljava/util/Comparator;"), (409, u "([C)V"), (90, u "serialPersistentFields"), (0, u "[Ljava/io/ObjectStreamField;"), (0, .class_ 1104), (0, u "java/lang/String$CaseInsensitiveComparator"), (1, .class_ 1107), (0, u "java/io/Serializable"), (0, .class_ 1109), (0, u "java/lang/Comparable"), (0, .class_ 1111), (0, u "java/lang/constant/Constable"), (0, .class_ 1113), (0, u "java/lang/constant/ConstantDesc"), (2, u "serialVersionUID"), (0, u "J"), (3, u "REPL"), (0, u "C"), (2, u "LATIN1"), (1, u "UTF16")] 323

def k9m0 : Method := { name := "<init>", desc := "()V", sig := { parameters := [], returnType := none }, accessFlags := 1, code := none }
def k9c1 : Code := { maxStack := 5, maxLocals := 2, code := jdk_42_method_3_code, exceptionTable := #[], attributes := #[] }
def k9m1 : Method := { name := "<init>", desc := "([C)V", sig := { parameters := [(.array .char)], returnType := none }, accessFlags := 1, code := some k9c1 }
def k9c2 : Code := { maxStack := 2, maxLocals := 3, code := jdk_42_method_66_code, exceptionTable := #[], attributes := #[] }
def k9m2 : Method := { name := "equals", desc := "(Ljava/lang/Object;)Z", sig := { parameters := [(.object "java/lang/Object")], returnType := some .boolean }, accessFlags := 1, code := some k9c2 }
def k9c3 : Code := { maxStack := 4, maxLocals := 6, code := jdk_42_method_149_code, exceptionTable := #[], attributes := #[] }
def k9m3 : Method := { name := "<init>", desc := "([CIILjava/lang/Void;)V", sig := { parameters := [(.array .char), .int, .int, (.object "java/lang/Void")], returnType := none }, accessFlags := 2, code := some k9c3 }
/-- java/lang/String -/
def k9 : Class := { plain "java/lang/String" (some 0) with
  accessFlags := 49
  interfaces := #[4, 3, 7, 2, 8]
  cf := some (fileOf pool9 10 #[.nestMembers #[1103]] #[{ accessFlags := 1, nameIndex := 5, descriptorIndex := 6, attributes := #[] }, { accessFlags := 1, nameIndex := 5, descriptorIndex := 1010, attributes := #[] }, { accessFlags := 1, nameIndex := 543, descriptorIndex := 573, attributes := #[] }, { accessFlags := 2, nameIndex := 5, descriptorIndex := 29, attributes := #[] }] 49 2 #[1106, 1108, 575, 1110, 1112] #[{ accessFlags := 18, nameIndex := 13, descriptorIndex := 14, attributes := #[] }, { accessFlags := 18, nameIndex := 17, descriptorIndex := 18, attributes := #[] }, { accessFlags := 2, nameIndex := 21, descriptorIndex := 22, attributes := #[] }, { accessFlags := 2, nameIndex := 25, descriptorIndex := 26, attributes := #[] }, { accessFlags := 26, nameIndex := 1116, descriptorIndex := 1117, attributes := #[] }, { accessFlags := 24, nameIndex := 40, descriptorIndex := 26, attributes := #[] }, { accessFlags := 26, nameIndex := 1101, descriptorIndex := 1102, attributes := #[] }, { accessFlags := 26, nameIndex := 1121, descriptorIndex := 1122, attributes := #[] }, { accessFlags := 25, nameIndex := 599, descriptorIndex := 600, attributes := #[] }, { accessFlags := 24, nameIndex := 1125, descriptorIndex := 18, attributes := #[] }, { accessFlags := 24, nameIndex := 1127, descriptorIndex := 18, attributes := #[] }])
  fields := #[{ name := "value", type := (.array .byte), accessFlags := 18, slot := 0, constantValue := 0 }, { name := "coder", type := .byte, accessFlags := 18, slot := 1, constantValue := 0 }, { name := "hash", type := .int, accessFlags := 2, slot := 2, constantValue := 0 }, { name := "hashIsZero", type := .boolean, accessFlags := 2, slot := 3, constantValue := 0 }, { name := "serialVersionUID", type := .long, accessFlags := 26, slot := 0, constantValue := 0 }, { name := "COMPACT_STRINGS", type := .boolean, accessFlags := 24, slot := 1, constantValue := 0 }, { name := "serialPersistentFields", type := (.array (.object "java/io/ObjectStreamField")), accessFlags := 26, slot := 2, constantValue := 0 }, { name := "REPL", type := .char, accessFlags := 26, slot := 3, constantValue := 0 }, { name := "CASE_INSENSITIVE_ORDER", type := (.object "java/util/Comparator"), accessFlags := 25, slot := 4, constantValue := 0 }, { name := "LATIN1", type := .byte, accessFlags := 24, slot := 5, constantValue := 0 }, { name := "UTF16", type := .byte, accessFlags := 24, slot := 6, constantValue := 0 }]
  methods := #[k9m0, k9m1, k9m2, k9m3]
  instanceTypes := #[(.array .byte), .byte, .int, .boolean]
  staticTypes := #[.long, .boolean, (.array (.object "java/io/ObjectStreamField")), .char, (.object "java/util/Comparator"), .byte, .byte]
  resolved := Array.replicate 1451 none
  statics := some 1 }

def pool10 : Array CpInfo := pool [(6, .class_ 8), (1, u "java/lang/Object"), (0, u "<init>"), (0, u "()V"), (1, .class_ 14), (1, u "java/lang/StringUTF16"), (31, u "$assertionsDisabled"), (0, u "Z"), (13, u "HI_BYTE_SHIFT"), (0, u "I"), (2, u "LO_BYTE_SHIFT"), (49, .methodref 12 116), (0, .nameAndType 117 118), (0, u "compress"), (0, u "([CI[BII)I"), (3, u "([CII)[B"), (138, u "coderFromArrayLen"), (0, u "([BI)B"), (106, .class_ 371), (1, u "java/lang/StringUTF16$LinesSpliterator"), (58, u "MAX_LENGTH"), (196, .class_ 628), (0, u "java/lang/StringUTF16$CodePointsSpliterator"), (0, .class_ 630), (0, u "java/lang/StringUTF16$CharsSpliterator")] 4

def k10m0 : Method := { name := "<init>", desc := "()V", sig := { parameters := [], returnType := none }, accessFlags := 0, code := none }
def k10c1 : Code := { maxStack := 2, maxLocals := 2, code := jdk_52_method_15_code, exceptionTable := #[], attributes := #[] }
def k10m1 : Method := { name := "coderFromArrayLen", desc := "([BI)B", sig := { parameters := [(.array .byte), .int], returnType := some .byte }, accessFlags := 8, code := some k10c1 }
def k10c2 : Code := { maxStack := 5, maxLocals := 6, code := jdk_52_method_16_code, exceptionTable := #[], attributes := #[] }
def k10m2 : Method := { name := "compress", desc := "([CII)[B", sig := { parameters := [(.array .char), .int, .int], returnType := some (.array .byte) }, accessFlags := 9, code := some k10c2 }
def k10c3 : Code := { maxStack := 3, maxLocals := 7, code := jdk_52_method_21_code, exceptionTable := #[], attributes := #[] }
def k10m3 : Method := { name := "compress", desc := "([CI[BII)I", sig := { parameters := [(.array .char), .int, (.array .byte), .int, .int], returnType := some .int }, accessFlags := 9, code := some k10c3 }
/-- java/lang/StringUTF16 -/
def k10 : Class := { plain "java/lang/StringUTF16" (some 0) with
  accessFlags := 48
  interfaces := #[]
  cf := some (fileOf pool10 12 #[.nestMembers #[627, 629, 369]] #[{ accessFlags := 0, nameIndex := 9, descriptorIndex := 10, attributes := #[] }, { accessFlags := 8, nameIndex := 261, descriptorIndex := 262, attributes := #[] }, { accessFlags := 9, nameIndex := 117, descriptorIndex := 122, attributes := #[] }, { accessFlags := 9, nameIndex := 117, descriptorIndex := 118, attributes := #[] }] 48 6 #[] #[{ accessFlags := 26, nameIndex := 61, descriptorIndex := 62, attributes := #[] }, { accessFlags := 26, nameIndex := 65, descriptorIndex := 62, attributes := #[] }, { accessFlags := 24, nameIndex := 430, descriptorIndex := 62, attributes := #[] }, { accessFlags := 4120, nameIndex := 46, descriptorIndex := 47, attributes := #[] }])
  fields := #[{ name := "HI_BYTE_SHIFT", type := .int, accessFlags := 26, slot := 0, constantValue := 0 }, { name := "LO_BYTE_SHIFT", type := .int, accessFlags := 26, slot := 1, constantValue := 0 }, { name := "MAX_LENGTH", type := .int, accessFlags := 24, slot := 2, constantValue := 0 }, { name := "$assertionsDisabled", type := .boolean, accessFlags := 4120, slot := 3, constantValue := 0 }]
  methods := #[k10m0, k10m1, k10m2, k10m3]
  instanceTypes := #[]
  staticTypes := #[.int, .int, .int, .boolean]
  resolved := Array.replicate 635 none
  statics := none }

def pool11 : Array CpInfo := pool [(1, .class_ 2), (0, u "java/lang/Cloneable"), (0, .class_ 4), (0, u "java/lang/Object")] 2

/-- java/lang/Cloneable -/
def k11 : Class := { plain "java/lang/Cloneable" (some 0) with
  accessFlags := 1537
  interfaces := #[]
  cf := some (fileOf pool11 1 #[] #[] 1537 3 #[] #[])
  fields := #[]
  methods := #[]
  instanceTypes := #[]
  staticTypes := #[]
  resolved := Array.replicate 7 none
  statics := none }

def pool12 : Array CpInfo := pool [(4, .class_ 6), (1, u "java/lang/Object"), (0, u "<init>"), (0, u "()V"), (5, .class_ 16), (1, u "java/lang/StringLatin1"), (104, u "$assertionsDisabled"), (0, u "Z"), (98, .class_ 223), (1, u "java/lang/StringLatin1$LinesSpliterator"), (57, u "equals"), (0, u "([B[B)Z"), (107, .class_ 391), (0, u "java/lang/StringLatin1$CharsSpliterator")] 3

def k12m0 : Method := { name := "<init>", desc := "()V", sig := { parameters := [], returnType := none }, accessFlags := 0, code := none }
def k12c1 : Code := { maxStack := 3, maxLocals := 3, code := jdk_43_method_13_code, exceptionTable := #[], attributes := #[] }
def k12m1 : Method := { name := "equals", desc := "([B[B)Z", sig := { parameters := [(.array .byte), (.array .byte)], returnType := some .boolean }, accessFlags := 9, code := some k12c1 }
/-- java/lang/StringLatin1 -/
def k12 : Class := { plain "java/lang/StringLatin1" (some 0) with
  accessFlags := 48
  interfaces := #[]
  cf := some (fileOf pool12 14 #[.nestMembers #[390, 221]] #[{ accessFlags := 0, nameIndex := 7, descriptorIndex := 8, attributes := #[] }, { accessFlags := 9, nameIndex := 281, descriptorIndex := 282, attributes := #[] }] 48 4 #[] #[{ accessFlags := 4120, nameIndex := 121, descriptorIndex := 122, attributes := #[] }])
  fields := #[{ name := "$assertionsDisabled", type := .boolean, accessFlags := 4120, slot := 0, constantValue := 0 }]
  methods := #[k12m0, k12m1]
  instanceTypes := #[]
  staticTypes := #[.boolean]
  resolved := Array.replicate 395 none
  statics := none }

def pool13 : Array CpInfo := pool [(2, .class_ 4), (1, u "java/lang/Object"), (0, u "<init>"), (0, u "()V"), (17, .class_ 26), (1, u "jdk/internal/util/Preconditions"), (28, .class_ 56), (0, u "jdk/internal/util/Preconditions$4"), (57, .class_ 115), (0, u "jdk/internal/util/Preconditions$1"), (7, u "SIOOBE_FORMATTER"), (0, u "Ljava/util/function/BiFunction;"), (0, .class_ 126), (0, u "jdk/internal/util/Preconditions$2"), (3, u "AIOOBE_FORMATTER"), (0, .class_ 132), (0, u "jdk/internal/util/Preconditions$3"), (3, u "IOOBE_FORMATTER")] 57

def k13m0 : Method := { name := "<init>", desc := "()V", sig := { parameters := [], returnType := none }, accessFlags := 1, code := none }
/-- jdk/internal/util/Preconditions -/
def k13 : Class := { plain "jdk/internal/util/Preconditions" (some 0) with
  accessFlags := 33
  interfaces := #[]
  cf := some (fileOf pool13 24 #[.nestMembers #[55, 131, 125, 114]] #[{ accessFlags := 1, nameIndex := 5, descriptorIndex := 6, attributes := #[] }] 33 2 #[] #[{ accessFlags := 25, nameIndex := 123, descriptorIndex := 124, attributes := #[] }, { accessFlags := 25, nameIndex := 130, descriptorIndex := 124, attributes := #[] }, { accessFlags := 25, nameIndex := 136, descriptorIndex := 124, attributes := #[] }])
  fields := #[{ name := "SIOOBE_FORMATTER", type := (.object "java/util/function/BiFunction"), accessFlags := 25, slot := 0, constantValue := 0 }, { name := "AIOOBE_FORMATTER", type := (.object "java/util/function/BiFunction"), accessFlags := 25, slot := 1, constantValue := 0 }, { name := "IOOBE_FORMATTER", type := (.object "java/util/function/BiFunction"), accessFlags := 25, slot := 2, constantValue := 0 }]
  methods := #[k13m0]
  instanceTypes := #[]
  staticTypes := #[(.object "java/util/function/BiFunction"), (.object "java/util/function/BiFunction"), (.object "java/util/function/BiFunction")]
  resolved := Array.replicate 194 none
  statics := some 2 }

def pool14 : Array CpInfo := pool [(9, u "<init>"), (6, .class_ 18), (1, u "java/lang/Object"), (0, u "()V"), (1, .class_ 23), (1, u "jdk/internal/util/ArraysSupport"), (0, u "LOG2_ARRAY_LONG_INDEX_SCALE"), (0, u "I"), (2, u "U"), (0, u "Ljdk/internal/misc/Unsafe;"), (8, u "BIG_ENDIAN"), (0, u "Z"), (8, u "LOG2_BYTE_BIT_SIZE"), (4, u "LOG2_ARRAY_INT_INDEX_SCALE"), (54, u "JLA"), (0, u "Ljdk/internal/access/JavaLangAccess;"), (11, u "LOG2_ARRAY_BOOLEAN_INDEX_SCALE"), (9, u "LOG2_ARRAY_BYTE_INDEX_SCALE"), (5, u "LOG2_ARRAY_CHAR_INDEX_SCALE"), (5, u "LOG2_ARRAY_SHORT_INDEX_SCALE"), (18, u "LOG2_ARRAY_FLOAT_INDEX_SCALE"), (24, u "LOG2_ARRAY_DOUBLE_INDEX_SCALE"), (89, u "T_BOOLEAN"), (2, u "T_CHAR"), (1, u "T_FLOAT"), (1, u "T_DOUBLE"), (1, u "T_BYTE"), (1, u "T_SHORT"), (1, u "T_INT"), (1, u "T_LONG"), (1, u "SOFT_MAX_ARRAY_LENGTH")] 83

def k14m0 : Method := { name := "<init>", desc := "()V", sig := { parameters := [], returnType := none }, accessFlags := 2, code := none }
/-- jdk/internal/util/ArraysSupport -/
def k14 : Class := { plain "jdk/internal/util/ArraysSupport" (some 0) with
  accessFlags := 33
  interfaces := #[]
  cf := some (fileOf pool14 21 #[] #[{ accessFlags := 2, nameIndex := 9, descriptorIndex := 19, attributes := #[] }] 33 16 #[] #[{ accessFlags := 24, nameIndex := 28, descriptorIndex := 29, attributes := #[] }, { accessFlags := 26, nameIndex := 38, descriptorIndex := 39, attributes := #[] }, { accessFlags := 25, nameIndex := 121, descriptorIndex := 25, attributes := #[] }, { accessFlags := 25, nameIndex := 131, descriptorIndex := 25, attributes := #[] }, { accessFlags := 25, nameIndex := 137, descriptorIndex := 25, attributes := #[] }, { accessFlags := 25, nameIndex := 143, descriptorIndex := 25, attributes := #[] }, { accessFlags := 25, nameIndex := 53, descriptorIndex := 25, attributes := #[] }, { accessFlags := 25, nameIndex := 24, descriptorIndex := 25, attributes := #[] }, { accessFlags := 25, nameIndex := 162, descriptorIndex := 25, attributes := #[] }, { accessFlags := 25, nameIndex := 187, descriptorIndex := 25, attributes := #[] }, { accessFlags := 26, nameIndex := 48, descriptorIndex := 25, attributes := #[] }, { accessFlags := 25, nameIndex := 277, descriptorIndex := 25, attributes := #[] }, { accessFlags := 25, nameIndex := 280, descriptorIndex := 25, attributes := #[] }, { accessFlags := 25, nameIndex := 282, descriptorIndex := 25, attributes := #[] }, { accessFlags := 25, nameIndex := 284, descriptorIndex := 25, attributes := #[] }, { accessFlags := 25, nameIndex := 286, descriptorIndex := 25, attributes := #[] }, { accessFlags := 25, nameIndex := 288, descriptorIndex := 25, attributes := #[] }, { accessFlags := 25, nameIndex := 290, descriptorIndex := 25, attributes := #[] }, { accessFlags := 25, nameIndex := 292, descriptorIndex := 25, attributes := #[] }, { accessFlags := 26, nameIndex := 108, descriptorIndex := 109, attributes := #[] }, { accessFlags := 25, nameIndex := 294, descriptorIndex := 25, attributes := #[] }])
  fields := #[{ name := "U", type := (.object "jdk/internal/misc/Unsafe"), accessFlags := 24, slot := 0, constantValue := 0 }, { name := "BIG_ENDIAN", type := .boolean, accessFlags := 26, slot := 1, constantValue := 0 }, { name := "LOG2_ARRAY_BOOLEAN_INDEX_SCALE", type := .int, accessFlags := 25, slot := 2, constantValue := 0 }, { name := "LOG2_ARRAY_BYTE_INDEX_SCALE", type := .int, accessFlags := 25, slot := 3, constantValue := 0 }, { name := "LOG2_ARRAY_CHAR_INDEX_SCALE", type := .int, accessFlags := 25, slot := 4, constantValue := 0 }, { name := "LOG2_ARRAY_SHORT_INDEX_SCALE", type := .int, accessFlags := 25, slot := 5, constantValue := 0 }, { name := "LOG2_ARRAY_INT_INDEX_SCALE", type := .int, accessFlags := 25, slot := 6, constantValue := 0 }, { name := "LOG2_ARRAY_LONG_INDEX_SCALE", type := .int, accessFlags := 25, slot := 7, constantValue := 0 }, { name := "LOG2_ARRAY_FLOAT_INDEX_SCALE", type := .int, accessFlags := 25, slot := 8, constantValue := 0 }, { name := "LOG2_ARRAY_DOUBLE_INDEX_SCALE", type := .int, accessFlags := 25, slot := 9, constantValue := 0 }, { name := "LOG2_BYTE_BIT_SIZE", type := .int, accessFlags := 26, slot := 10, constantValue := 0 }, { name := "T_BOOLEAN", type := .int, accessFlags := 25, slot := 11, constantValue := 0 }, { name := "T_CHAR", type := .int, accessFlags := 25, slot := 12, constantValue := 0 }, { name := "T_FLOAT", type := .int, accessFlags := 25, slot := 13, constantValue := 0 }, { name := "T_DOUBLE", type := .int, accessFlags := 25, slot := 14, constantValue := 0 }, { name := "T_BYTE", type := .int, accessFlags := 25, slot := 15, constantValue := 0 }, { name := "T_SHORT", type := .int, accessFlags := 25, slot := 16, constantValue := 0 }, { name := "T_INT", type := .int, accessFlags := 25, slot := 17, constantValue := 0 }, { name := "T_LONG", type := .int, accessFlags := 25, slot := 18, constantValue := 0 }, { name := "JLA", type := (.object "jdk/internal/access/JavaLangAccess"), accessFlags := 26, slot := 19, constantValue := 0 }, { name := "SOFT_MAX_ARRAY_LENGTH", type := .int, accessFlags := 25, slot := 20, constantValue := 0 }]
  methods := #[k14m0]
  instanceTypes := #[]
  staticTypes := #[(.object "jdk/internal/misc/Unsafe"), .boolean, .int, .int, .int, .int, .int, .int, .int, .int, .int, .int, .int, .int, .int, .int, .int, .int, .int, (.object "jdk/internal/access/JavaLangAccess"), .int]
  resolved := Array.replicate 378 none
  statics := none }

/-- the primitive byte -/
def k15 : Class := { plain "byte" none with kind := .primitive 'B', accessFlags := 0x411 }
/-- [B -/
def k16 : Class := { plain "[B" (some 0) with kind := .array 15 .byte, interfaces := #[11, 4], accessFlags := 1041 }

/-- the primitive char -/
def k17 : Class := { plain "char" none with kind := .primitive 'C', accessFlags := 0x411 }
/-- [C -/
def k18 : Class := { plain "[C" (some 0) with kind := .array 17 .char, interfaces := #[11, 4], accessFlags := 1041 }

/-- the primitive int -/
def k19 : Class := { plain "int" none with kind := .primitive 'I', accessFlags := 0x411 }
/-- [I -/
def k20 : Class := { plain "[I" (some 0) with kind := .array 19 .int, interfaces := #[11, 4], accessFlags := 1041 }

/-- [Lcom/example/marktide/marktide/engine/OrderBook$Side; -/
def k21 : Class := { plain "[Lcom/example/marktide/marktide/engine/OrderBook$Side;" (some 0) with kind := .array 6 (.object "com/example/marktide/marktide/engine/OrderBook$Side"), interfaces := #[11, 4], accessFlags := 1041 }

def heap : Heap := #[{ cls := 6, slots := #[.ref 4, .ref 5, .ref 3], vm := .statics 6 },
  { cls := 9, slots := #[.long 0, .int 1, .null, .int 0, .null, .int 0, .int 0], vm := .statics 9 },
  { cls := 13, slots := #[.null, .null, .null], vm := .statics 13 },
  { cls := 21, slots := #[.ref 4, .ref 5], vm := .none },
  { cls := 6, slots := #[.null, .int 0, .int 0, .ref 6, .null], vm := .none },
  { cls := 6, slots := #[.null, .int 1, .int 0, .ref 7, .null], vm := .none },
  { cls := 9, slots := #[.ref 8, .int 0, .int 0, .int 0], vm := .none },
  { cls := 9, slots := #[.ref 9, .int 0, .int 0, .int 0], vm := .none },
  { cls := 16, slots := #[.int 98, .int 105, .int 100], vm := .none },
  { cls := 16, slots := #[.int 97, .int 115, .int 107], vm := .none }]
def classes : Array Class := #[k0, k1, k2, k3, k4, k5, k6, k7, k8, k9, k10, k11, k12, k13, k14, k15, k16, k17, k18, k19, k20, k21]
def interned : List (Array UInt16 × Addr) := []
def slotsUsed : Nat := 39
def theMethod : MethodId := ⟨1, 2⟩
def args0 : Array Value := #[.int 1, .int 98, .int 105, .int 100]
def aboutOver (below : List Frame) : State where
  vm := { classes := classes, interned := interned.toArray }
  heap := heap
  slotsUsed := slotsUsed
  threads := #[{ frames := .invoking theMethod args0 :: below }]
def below0 : List Frame := [.native { method := ⟨0, 0⟩, args := #[] }]
def about1 : State := aboutOver below0
def p0 : Program := .bare "" "" ""
def e0 : Env := launch0.env 0 0 0
theorem w_frames : about1.frames = Frame.invoking theMethod args0 :: below0 := rfl
set_option maxRecDepth 65536 in
theorem w_args : argsFit about1.vm theMethod args0 = true := by decide +kernel
set_option maxRecDepth 65536 in
theorem w_heap : heapFits about1 = true := by decide +kernel
set_option maxRecDepth 65536 in
theorem w_runnable : about1.curStatus? = some .runnable := by decide +kernel
set_option maxRecDepth 65536 in
theorem w_alone : about1.alone = true := by decide +kernel
set_option maxRecDepth 65536 in
theorem w_named : about1.methodNamed? x = some theMethod := by decide +kernel
set_option maxRecDepth 65536 in
theorem w_hears : about1.hears theMethod below0 = true := by decide +kernel
set_option maxRecDepth 65536 in
theorem w_ripe : about1.ripe theMethod args0 below0 = true := by decide +kernel
theorem w_running : about1.status = .running := rfl
set_option maxRecDepth 65536 in
theorem w_room : about1.hasRoom e0.platform room_1 = true :=
  launch0.hasRoom_least _ room_1 (by decide +kernel) (by decide +kernel) (by decide +kernel) (by decide +kernel) (by decide +kernel) (by decide +kernel)
theorem allAtoms_all (ts : List Jvm.Cond) (a : Array Jvm.Value) (st : Jvm.State) : (allAtoms ts).before a st = ts.all (fun c => c.before a st) := by
  induction ts with
  | nil => rfl
  | cons c t ih =>
    show (Jvm.Cond.and c (allAtoms t)).before a st = _
    rw [Jvm.Cond.before_and, ih, List.all_cons]
def words1 : List Jvm.Cond := Jvm.Cond.code x code maxLocals ret :: tables_1
/-- a 'code' word, met by the world's own term for the bytes: nothing is compared byte by byte -/
theorem code_word {y : MethodName} {bytes : ByteArray} {mx : Nat} {rt : Option FieldType} {a : Array Value} {s : State} {m : MethodId} {meth : Method} {c : Code} (h1 : s.methodNamed? y = some m) (h2 : s.vm.method? m = some meth) (h3 : meth.code = some c) (h4 : c.code = bytes)
    (h5 : (c.maxLocals == mx && c.exceptionTable.isEmpty && decide (c.maxStack ≤ mostOperands) && decide (meth.sig.returnType = rt) && !meth.locks && decide (parseMethodDescriptor y.desc = some meth.sig)) = true) : (Jvm.Cond.code y bytes mx rt).before a s = true := by
  simp only [Bool.and_eq_true, beq_iff_eq, Bool.not_eq_true', decide_eq_true_eq] at h5
  obtain ⟨⟨⟨⟨⟨g1, g2⟩, g3⟩, g4⟩, g5⟩, g6⟩ := h5
  simp [Cond.before, Cond.holds, Cond.value, h1, h2, h3, h4, g1, g2, g3, g4, g5, g6]
def isCode : Jvm.Cond → Bool
  | .code _ _ _ _ => true
  | _ => false
theorem all_split {L : List Jvm.Cond} {P : Jvm.Cond → Bool} (h1 : L.all (fun c => isCode c || P c) = true) (h2 : ∀ c ∈ L.filter isCode, P c = true) : L.all P = true := by
  refine List.all_eq_true.mpr fun c hc => ?_
  have h := List.all_eq_true.mp h1 c hc
  rcases Bool.eq_false_or_eq_true (isCode c) with hi | hi
  · exact h2 c (List.mem_filter.mpr ⟨hc, hi⟩)
  · simpa [hi] using h
set_option maxRecDepth 65536 in
theorem w_c0 : (Jvm.Cond.code x code maxLocals ret).before args0 about1 = true := code_word (m := ⟨1, 2⟩) (meth := k1m2) (c := k1c2) (by decide +kernel) rfl rfl rfl (by decide +kernel)
set_option maxRecDepth 65536 in
theorem w_c1 : (Jvm.Cond.code ({ cls := "com/example/marktide/marktide/engine/SideNamedPinLaw", name := "label", desc := "(Z)Ljava/lang/String;" } : Jvm.MethodName) method_2_code (2 : Nat) (Option.some (Jvm.ClassFile.FieldType.object "java/lang/String"))).before args0 about1 = true := code_word (m := ⟨1, 1⟩) (meth := k1m1) (c := k1c1) (by decide +kernel) rfl rfl rfl (by decide +kernel)
set_option maxRecDepth 65536 in
theorem w_c2 : (Jvm.Cond.code ({ cls := "java/lang/String", name := "<init>", desc := "([C)V" } : Jvm.MethodName) jdk_42_method_3_code (2 : Nat) (Option.none : Option Jvm.ClassFile.FieldType)).before args0 about1 = true := code_word (m := ⟨9, 1⟩) (meth := k9m1) (c := k9c1) (by decide +kernel) rfl rfl rfl (by decide +kernel)
set_option maxRecDepth 65536 in
theorem w_c3 : (Jvm.Cond.code ({ cls := "java/lang/String", name := "<init>", desc := "([CIILjava/lang/Void;)V" } : Jvm.MethodName) jdk_42_method_149_code (6 : Nat) (Option.none : Option Jvm.ClassFile.FieldType)).before args0 about1 = true := code_word (m := ⟨9, 3⟩) (meth := k9m3) (c := k9c3) (by decide +kernel) rfl rfl rfl (by decide +kernel)
set_option maxRecDepth 65536 in
theorem w_c4 : (Jvm.Cond.code ({ cls := "java/lang/Object", name := "<init>", desc := "()V" } : Jvm.MethodName) object_method_1_code (1 : Nat) (Option.none : Option Jvm.ClassFile.FieldType)).before args0 about1 = true := code_word (m := ⟨0, 0⟩) (meth := k0m0) (c := k0c0) (by decide +kernel) rfl rfl rfl (by decide +kernel)
set_option maxRecDepth 65536 in
theorem w_c5 : (Jvm.Cond.code ({ cls := "java/lang/StringUTF16", name := "compress", desc := "([CII)[B" } : Jvm.MethodName) jdk_52_method_16_code (6 : Nat) (Option.some (Jvm.ClassFile.FieldType.array Jvm.ClassFile.FieldType.byte))).before args0 about1 = true := code_word (m := ⟨10, 2⟩) (meth := k10m2) (c := k10c2) (by decide +kernel) rfl rfl rfl (by decide +kernel)
set_option maxRecDepth 65536 in
theorem w_c6 : (Jvm.Cond.code ({ cls := "java/lang/StringUTF16", name := "compress", desc := "([CI[BII)I" } : Jvm.MethodName) jdk_52_method_21_code (7 : Nat) (Option.some Jvm.ClassFile.FieldType.int)).before args0 about1 = true := code_word (m := ⟨10, 3⟩) (meth := k10m3) (c := k10c3) (by decide +kernel) rfl rfl rfl (by decide +kernel)
set_option maxRecDepth 65536 in
theorem w_c7 : (Jvm.Cond.code ({ cls := "java/lang/StringUTF16", name := "coderFromArrayLen", desc := "([BI)B" } : Jvm.MethodName) jdk_52_method_15_code (2 : Nat) (Option.some Jvm.ClassFile.FieldType.byte)).before args0 about1 = true := code_word (m := ⟨10, 1⟩) (meth := k10m1) (c := k10c1) (by decide +kernel) rfl rfl rfl (by decide +kernel)
set_option maxRecDepth 65536 in
theorem w_c8 : (Jvm.Cond.code ({ cls := "com/example/marktide/marktide/engine/OrderBook$Side", name := "named", desc := "(Ljava/lang/String;)Lcom/example/marktide/marktide/engine/OrderBook$Side;" } : Jvm.MethodName) prog_24_method_4_code (5 : Nat) (Option.some (Jvm.ClassFile.FieldType.object "com/example/marktide/marktide/engine/OrderBook$Side"))).before args0 about1 = true := code_word (m := ⟨6, 1⟩) (meth := k6m1) (c := k6c1) (by decide +kernel) rfl rfl rfl (by decide +kernel)
set_option maxRecDepth 65536 in
theorem w_c9 : (Jvm.Cond.code ({ cls := "com/example/marktide/marktide/engine/OrderBook$Side", name := "values", desc := "()[Lcom/example/marktide/marktide/engine/OrderBook$Side;" } : Jvm.MethodName) prog_24_method_1_code (0 : Nat) (Option.some (Jvm.ClassFile.FieldType.array (Jvm.ClassFile.FieldType.object "com/example/marktide/marktide/engine/OrderBook$Side")))).before args0 about1 = true := code_word (m := ⟨6, 0⟩) (meth := k6m0) (c := k6c0) (by decide +kernel) rfl rfl rfl (by decide +kernel)
set_option maxRecDepth 65536 in
theorem w_c10 : (Jvm.Cond.code ({ cls := "java/lang/String", name := "equals", desc := "(Ljava/lang/Object;)Z" } : Jvm.MethodName) jdk_42_method_66_code (3 : Nat) (Option.some Jvm.ClassFile.FieldType.boolean)).before args0 about1 = true := code_word (m := ⟨9, 2⟩) (meth := k9m2) (c := k9c2) (by decide +kernel) rfl rfl rfl (by decide +kernel)
set_option maxRecDepth 65536 in
theorem w_c11 : (Jvm.Cond.code ({ cls := "java/lang/StringLatin1", name := "equals", desc := "([B[B)Z" } : Jvm.MethodName) jdk_43_method_13_code (3 : Nat) (Option.some Jvm.ClassFile.FieldType.boolean)).before args0 about1 = true := code_word (m := ⟨12, 1⟩) (meth := k12m1) (c := k12c1) (by decide +kernel) rfl rfl rfl (by decide +kernel)
set_option maxRecDepth 65536 in
theorem w_c12 : (Jvm.Cond.code ({ cls := "com/example/marktide/marktide/engine/OrderBook$Side", name := "toString", desc := "()Ljava/lang/String;" } : Jvm.MethodName) prog_24_method_5_code (1 : Nat) (Option.some (Jvm.ClassFile.FieldType.object "java/lang/String"))).before args0 about1 = true := code_word (m := ⟨6, 2⟩) (meth := k6m2) (c := k6c2) (by decide +kernel) rfl rfl rfl (by decide +kernel)
def codes1 : List Jvm.Cond := [Jvm.Cond.code x code maxLocals ret, Jvm.Cond.code ({ cls := "com/example/marktide/marktide/engine/SideNamedPinLaw", name := "label", desc := "(Z)Ljava/lang/String;" } : Jvm.MethodName) method_2_code (2 : Nat) (Option.some (Jvm.ClassFile.FieldType.object "java/lang/String")), Jvm.Cond.code ({ cls := "java/lang/String", name := "<init>", desc := "([C)V" } : Jvm.MethodName) jdk_42_method_3_code (2 : Nat) (Option.none : Option Jvm.ClassFile.FieldType), Jvm.Cond.code ({ cls := "java/lang/String", name := "<init>", desc := "([CIILjava/lang/Void;)V" } : Jvm.MethodName) jdk_42_method_149_code (6 : Nat) (Option.none : Option Jvm.ClassFile.FieldType), Jvm.Cond.code ({ cls := "java/lang/Object", name := "<init>", desc := "()V" } : Jvm.MethodName) object_method_1_code (1 : Nat) (Option.none : Option Jvm.ClassFile.FieldType), Jvm.Cond.code ({ cls := "java/lang/StringUTF16", name := "compress", desc := "([CII)[B" } : Jvm.MethodName) jdk_52_method_16_code (6 : Nat) (Option.some (Jvm.ClassFile.FieldType.array Jvm.ClassFile.FieldType.byte)), Jvm.Cond.code ({ cls := "java/lang/StringUTF16", name := "compress", desc := "([CI[BII)I" } : Jvm.MethodName) jdk_52_method_21_code (7 : Nat) (Option.some Jvm.ClassFile.FieldType.int), Jvm.Cond.code ({ cls := "java/lang/StringUTF16", name := "coderFromArrayLen", desc := "([BI)B" } : Jvm.MethodName) jdk_52_method_15_code (2 : Nat) (Option.some Jvm.ClassFile.FieldType.byte), Jvm.Cond.code ({ cls := "com/example/marktide/marktide/engine/OrderBook$Side", name := "named", desc := "(Ljava/lang/String;)Lcom/example/marktide/marktide/engine/OrderBook$Side;" } : Jvm.MethodName) prog_24_method_4_code (5 : Nat) (Option.some (Jvm.ClassFile.FieldType.object "com/example/marktide/marktide/engine/OrderBook$Side")), Jvm.Cond.code ({ cls := "com/example/marktide/marktide/engine/OrderBook$Side", name := "values", desc := "()[Lcom/example/marktide/marktide/engine/OrderBook$Side;" } : Jvm.MethodName) prog_24_method_1_code (0 : Nat) (Option.some (Jvm.ClassFile.FieldType.array (Jvm.ClassFile.FieldType.object "com/example/marktide/marktide/engine/OrderBook$Side"))), Jvm.Cond.code ({ cls := "java/lang/String", name := "equals", desc := "(Ljava/lang/Object;)Z" } : Jvm.MethodName) jdk_42_method_66_code (3 : Nat) (Option.some Jvm.ClassFile.FieldType.boolean), Jvm.Cond.code ({ cls := "java/lang/StringLatin1", name := "equals", desc := "([B[B)Z" } : Jvm.MethodName) jdk_43_method_13_code (3 : Nat) (Option.some Jvm.ClassFile.FieldType.boolean), Jvm.Cond.code ({ cls := "com/example/marktide/marktide/engine/OrderBook$Side", name := "toString", desc := "()Ljava/lang/String;" } : Jvm.MethodName) prog_24_method_5_code (1 : Nat) (Option.some (Jvm.ClassFile.FieldType.object "java/lang/String"))]
set_option maxRecDepth 65536 in
theorem codes_eq : words1.filter isCode = codes1 := rfl
theorem w_codes : ∀ c ∈ words1.filter isCode, c.before args0 about1 = true := by
  rw [codes_eq]
  intro c hc
  simp only [codes1, List.mem_cons, List.not_mem_nil, or_false] at hc
  rcases hc with rfl | rfl | rfl | rfl | rfl | rfl | rfl | rfl | rfl | rfl | rfl | rfl | rfl
  · exact w_c0
  · exact w_c1
  · exact w_c2
  · exact w_c3
  · exact w_c4
  · exact w_c5
  · exact w_c6
  · exact w_c7
  · exact w_c8
  · exact w_c9
  · exact w_c10
  · exact w_c11
  · exact w_c12
set_option maxRecDepth 65536 in
theorem w_t1 : (words1.take 24).all (fun c => isCode c || c.before args0 about1) = true := by decide +kernel
set_option maxRecDepth 65536 in
theorem w_t2 : ((words1.drop 24).take 24).all (fun c => isCode c || c.before args0 about1) = true := by decide +kernel
set_option maxRecDepth 65536 in
theorem w_t3 : (((words1.drop 24).drop 24).take 24).all (fun c => isCode c || c.before args0 about1) = true := by decide +kernel
set_option maxRecDepth 65536 in
theorem w_t4 : (((words1.drop 24).drop 24).drop 24).all (fun c => isCode c || c.before args0 about1) = true := by decide +kernel
theorem w_tables : (allAtoms (Jvm.Cond.code x code maxLocals ret :: tables_1)).before args0 about1 = true := by
  rw [allAtoms_all]
  show words1.all (fun c => c.before args0 about1) = true
  refine all_split ?_ w_codes
  rw [← List.take_append_drop 24 words1, List.all_append, w_t1, ← List.take_append_drop 24 (words1.drop 24), List.all_append, w_t2, ← List.take_append_drop 24 ((words1.drop 24).drop 24), List.all_append, w_t3, w_t4]
  rfl
set_option maxRecDepth 65536 in
theorem w_rest : rest_1_c.before args0 about1 = true := by decide +kernel
set_option maxRecDepth 65536 in
theorem w_case : (Jvm.Cond.and given_1 narrow_1).before args0 about1 = true := by decide +kernel
set_option maxRecDepth 65536 in
theorem w_consts : constsHeld consts_1 about1 := Jvm.Lit.constsHeldB_iff.mp (by decide +kernel)
theorem w_applies : (headSpec (Jvm.Cond.code x code maxLocals ret :: tables_1) room_1).applies x e0.platform about1 = true :=
  (Spec.applies_iff w_frames).mpr ⟨w_running, w_runnable, w_alone, w_named, w_hears, w_ripe, w_room, w_tables⟩
theorem atStart : AtStart classFile x code maxLocals ret World_1 tables_1 room_1 Calls_1 rest_1 Pre_1 launch0 p0 e0 about1 theMethod args0 below0 :=
  ⟨lists_1, trivial, launch0.admits_env _ _ _, launch0.least_env, fairChoices_fair.cas, fairChoices_fair.clock, w_frames, w_args, w_heap, w_applies, ⟨w_consts, trivial⟩, w_rest, w_case⟩
end start1
theorem witness_1 : WitnessClaimed_1 := ⟨start1.p0, start1.e0, start1.about1, start1.theMethod, start1.args0, start1.below0, start1.atStart⟩
end Jvm.Pilot.@@N@@
