import JvmDerived
import JvmDerived.Pilot.@@N@@Statement
import JvmDerived.Pilot.@@N@@Code
set_option linter.unusedVariables false
set_option linter.unusedSimpArgs false
namespace Jvm.RoadKit
open Sem ClassFile Op Lib Jvm.Stand Jvm.Free Jvm.LawKit
section New
variable {p : Program} {l : Launch} {e : Env} {R : Room} {s : State} {m : MethodId} {args : Array Value} {below : List Frame} {meth : Method} {c : Code} {T : State} {locs : List Loc} {cells slots : Nat}
theorem retI (X : Stand p l e R s m args below meth c T locs cells slots) (hx : p.tables.exec = Jvm.exec) {pc : Nat} {Ls : Array Slot} {z : Int32} {rest : List Value} (hret : meth.sig.returnType = some .int) (hd : decode c.code pc = .ok (.ireturn, 1)) {fs : List Frame}
    (hl : ∀ (f : JFrame) (acts : List Action), f.method = m → f.locked = none → f.entered = [] → (doReturn e (T.setTop f) acts (some (.int z))).1 = T.setFrames fs) : Steps p.tables e below (T.setTop (mkF m pc Ls (.int z :: rest))) (T.setFrames fs) := by
  have hm' : T.vm.method? m = some meth := X.method'
  have hn : narrow .int (.int z) = .int z := rfl
  show Steps p.tables e below (T.setTop { method := m, pc := pc, locals := Ls, stack := _ :: rest, locked := none }) _
  jvm_step X.here [X.here.top, hx, hd, hm', hret, hn]
  first | (intro acts; rw [hl _ acts rfl rfl rfl]) | rw [hl _ _ rfl rfl rfl]
  exact Steps.refl _
theorem own_retJ (X : Stand p l e R s m args below meth c T locs cells slots) (hx : p.tables.exec = Jvm.exec) {pc : Nat} {Ls : Array Slot} {z : Int64} {rest : List Value} (hret : meth.sig.returnType = some .long) (hd : decode c.code pc = .ok (.lreturn, 1)) {fs : List Frame}
    (hl : ∀ (f : JFrame) (acts : List Action), f.method = m → f.locked = none → f.entered = [] → (doReturn e (T.setTop f) acts (some (.long z))).1 = T.setFrames fs) : Steps p.tables e below (T.setTop (mkF m pc Ls (.long z :: rest))) (T.setFrames fs) := by
  have hm' : T.vm.method? m = some meth := X.method'
  show Steps p.tables e below (T.setTop { method := m, pc := pc, locals := Ls, stack := _ :: rest, locked := none }) _
  jvm_step X.here [X.here.top, hx, hd, hm', hret, narrow]
  first | (intro acts; rw [hl _ acts rfl rfl rfl]) | rw [hl _ _ rfl rfl rfl]
  exact Steps.refl _
theorem own_retD (X : Stand p l e R s m args below meth c T locs cells slots) (hx : p.tables.exec = Jvm.exec) {pc : Nat} {Ls : Array Slot} {z : UInt64} {rest : List Value} (hret : meth.sig.returnType = some .double) (hd : decode c.code pc = .ok (.dreturn, 1)) {fs : List Frame}
    (hl : ∀ (f : JFrame) (acts : List Action), f.method = m → f.locked = none → f.entered = [] → (doReturn e (T.setTop f) acts (some (.double z))).1 = T.setFrames fs) : Steps p.tables e below (T.setTop (mkF m pc Ls (.double z :: rest))) (T.setFrames fs) := by
  have hm' : T.vm.method? m = some meth := X.method'
  show Steps p.tables e below (T.setTop { method := m, pc := pc, locals := Ls, stack := _ :: rest, locked := none }) _
  jvm_step X.here [X.here.top, hx, hd, hm', hret, narrow]
  first | (intro acts; rw [hl _ acts rfl rfl rfl]) | rw [hl _ _ rfl rfl rfl]
  exact Steps.refl _
/-- from T, with the frame g on top, the run comes to an end of the kind that Q tells; Fe: the frame of that end -/
def Goes (p : Program) (e : Env) (below : List Frame) (s : State) (Fe : State → Outcome → State → List Loc → Nat → Nat → Prop) (kc ks : Nat) (Q : Option Value → Heap → List Loc → Prop) (T : State) (g : JFrame) : Prop :=
  ∃ s₂ o, Steps p.tables e below (T.setTop g) s₂ ∧ s₂.status = .running ∧ Ended s₂ below o ∧ ∃ v L, o = .returned v ∧ Q v s₂.heap L ∧ Fe s o s₂ L kc ks
/-- a wide end that keeps the invariant of the held constants -/
def HeldEnd (Z : State) (EL : List (String × Nat)) (s : State) (o : Outcome) (t : State) (L : List Loc) (k n : Nat) : Prop := CHr Z EL s.vm s.heap t.vm t.heap ∧ ReturnedEndW s o t L k n
variable {kc ks : Nat} {Q : Option Value → Heap → List Loc → Prop} {T' : State} {Fe : State → Outcome → State → List Loc → Nat → Nat → Prop}
theorem Goes.go {g g' : JFrame} (h : ∀ t, Steps p.tables e below (T'.setTop g') t → Steps p.tables e below (T.setTop g) t) (k : Goes p e below s Fe kc ks Q T' g') : Goes p e below s Fe kc ks Q T g := by
  obtain ⟨s₂, o, h1, h2⟩ := k
  exact ⟨s₂, o, h _ h1, h2⟩
theorem Goes.to {g : JFrame} (g' : JFrame) (h : ∀ t, Steps p.tables e below (T'.setTop g') t → Steps p.tables e below (T.setTop g) t) (k : Goes p e below s Fe kc ks Q T' g') : Goes p e below s Fe kc ks Q T g := k.go h
theorem Goes.cast {g g' : JFrame} (q : g = g') (k : Goes p e below s Fe kc ks Q T g') : Goes p e below s Fe kc ks Q T g := q ▸ k
theorem Goes.retN (X : Stand p l e R s m args below meth c T locs cells slots) (hx : p.tables.exec = Jvm.exec) (hlk : meth.locks = false) {pc : Nat} {Ls : Array Slot} {z : Int32} {t : FieldType} {rest : List Value} (hret : meth.sig.returnType = some t) (ht : t = .boolean ∨ t = .byte ∨ t = .char ∨ t = .short) (hd : decode c.code pc = .ok (.ireturn, 1)) (hc : cells ≤ kc) (hs : slots ≤ ks) (hQ : Q (some (.int (nar t z))) T.heap locs) : Goes p e below s FrameEnd kc ks Q T (mkF m pc Ls (.int z :: rest)) := by
  obtain ⟨fs, hr, hrun, hended, hW, hsame⟩ := X.leave (v := some (.int (nar t z))) (fun h => by rw [hret] at h; cases h) hlk
  exact ⟨_, _, RoadKit.retN X hx hret ht hd hr, hrun, hended, _, _, rfl, hQ, ⟨_, rfl⟩, hW, hsame.mono hc hs⟩
theorem Goes.retNW {vm1 : Vm} {k0 : Nat} (X : Stand p l e R (s.setVm vm1) m args below meth c T locs cells slots) (hx : p.tables.exec = Jvm.exec) (hlk : meth.locks = false) (hS : s.Since vm1 k0) (hk : k0 ≤ T.heap.size) {pc : Nat} {Ls : Array Slot} {z : Int32} {t : FieldType} {rest : List Value} (hret : meth.sig.returnType = some t) (ht : t = .boolean ∨ t = .byte ∨ t = .char ∨ t = .short) (hd : decode c.code pc = .ok (.ireturn, 1)) (hc : cells ≤ kc) (hs : slots ≤ ks) (hQ : Q (some (.int (nar t z))) T.heap locs) : Goes p e below s ReturnedEndW kc ks Q T (mkF m pc Ls (.int z :: rest)) := by
  obtain ⟨fs, hr, hrun, hended, h1, h2, h3, hsame⟩ := X.leaveW hS hk (v := some (.int (nar t z))) (fun h => by rw [hret] at h; cases h) hlk
  exact ⟨_, _, RoadKit.retN X hx hret ht hd hr, hrun, hended, _, _, rfl, hQ, h1, h2, h3, hsame.mono hc hs⟩
theorem Goes.retI (X : Stand p l e R s m args below meth c T locs cells slots) (hx : p.tables.exec = Jvm.exec) (hlk : meth.locks = false) {pc : Nat} {Ls : Array Slot} {z : Int32} {rest : List Value} (hret : meth.sig.returnType = some .int) (hd : decode c.code pc = .ok (.ireturn, 1)) (hc : cells ≤ kc) (hs : slots ≤ ks) (hQ : Q (some (.int z)) T.heap locs) : Goes p e below s FrameEnd kc ks Q T (mkF m pc Ls (.int z :: rest)) := by
  obtain ⟨fs, hr, hrun, hended, hW, hsame⟩ := X.leave (v := some (.int z)) (fun h => by rw [hret] at h; cases h) hlk
  exact ⟨_, _, RoadKit.retI X hx hret hd hr, hrun, hended, _, _, rfl, hQ, ⟨_, rfl⟩, hW, hsame.mono hc hs⟩
theorem Goes.retIW {vm1 : Vm} {k0 : Nat} (X : Stand p l e R (s.setVm vm1) m args below meth c T locs cells slots) (hx : p.tables.exec = Jvm.exec) (hlk : meth.locks = false) (hS : s.Since vm1 k0) (hk : k0 ≤ T.heap.size) {pc : Nat} {Ls : Array Slot} {z : Int32} {rest : List Value} (hret : meth.sig.returnType = some .int) (hd : decode c.code pc = .ok (.ireturn, 1)) (hc : cells ≤ kc) (hs : slots ≤ ks) (hQ : Q (some (.int z)) T.heap locs) : Goes p e below s ReturnedEndW kc ks Q T (mkF m pc Ls (.int z :: rest)) := by
  obtain ⟨fs, hr, hrun, hended, h1, h2, h3, hsame⟩ := X.leaveW hS hk (v := some (.int z)) (fun h => by rw [hret] at h; cases h) hlk
  exact ⟨_, _, RoadKit.retI X hx hret hd hr, hrun, hended, _, _, rfl, hQ, h1, h2, h3, hsame.mono hc hs⟩
theorem Goes.retJ (X : Stand p l e R s m args below meth c T locs cells slots) (hx : p.tables.exec = Jvm.exec) (hlk : meth.locks = false) {pc : Nat} {Ls : Array Slot} {z : Int64} {rest : List Value} (hret : meth.sig.returnType = some .long) (hd : decode c.code pc = .ok (.lreturn, 1)) (hc : cells ≤ kc) (hs : slots ≤ ks) (hQ : Q (some (.long z)) T.heap locs) : Goes p e below s FrameEnd kc ks Q T (mkF m pc Ls (.long z :: rest)) := by
  obtain ⟨fs, hr, hrun, hended, hW, hsame⟩ := X.leave (v := some (.long z)) (fun h => by rw [hret] at h; cases h) hlk
  exact ⟨_, _, own_retJ X hx hret hd hr, hrun, hended, _, _, rfl, hQ, ⟨_, rfl⟩, hW, hsame.mono hc hs⟩
theorem Goes.retJW {vm1 : Vm} {k0 : Nat} (X : Stand p l e R (s.setVm vm1) m args below meth c T locs cells slots) (hx : p.tables.exec = Jvm.exec) (hlk : meth.locks = false) (hS : s.Since vm1 k0) (hk : k0 ≤ T.heap.size) {pc : Nat} {Ls : Array Slot} {z : Int64} {rest : List Value} (hret : meth.sig.returnType = some .long) (hd : decode c.code pc = .ok (.lreturn, 1)) (hc : cells ≤ kc) (hs : slots ≤ ks) (hQ : Q (some (.long z)) T.heap locs) : Goes p e below s ReturnedEndW kc ks Q T (mkF m pc Ls (.long z :: rest)) := by
  obtain ⟨fs, hr, hrun, hended, h1, h2, h3, hsame⟩ := X.leaveW hS hk (v := some (.long z)) (fun h => by rw [hret] at h; cases h) hlk
  exact ⟨_, _, own_retJ X hx hret hd hr, hrun, hended, _, _, rfl, hQ, h1, h2, h3, hsame.mono hc hs⟩
theorem Goes.retD (X : Stand p l e R s m args below meth c T locs cells slots) (hx : p.tables.exec = Jvm.exec) (hlk : meth.locks = false) {pc : Nat} {Ls : Array Slot} {z : UInt64} {rest : List Value} (hret : meth.sig.returnType = some .double) (hd : decode c.code pc = .ok (.dreturn, 1)) (hc : cells ≤ kc) (hs : slots ≤ ks) (hQ : Q (some (.double z)) T.heap locs) : Goes p e below s FrameEnd kc ks Q T (mkF m pc Ls (.double z :: rest)) := by
  obtain ⟨fs, hr, hrun, hended, hW, hsame⟩ := X.leave (v := some (.double z)) (fun h => by rw [hret] at h; cases h) hlk
  exact ⟨_, _, own_retD X hx hret hd hr, hrun, hended, _, _, rfl, hQ, ⟨_, rfl⟩, hW, hsame.mono hc hs⟩
theorem Goes.retDW {vm1 : Vm} {k0 : Nat} (X : Stand p l e R (s.setVm vm1) m args below meth c T locs cells slots) (hx : p.tables.exec = Jvm.exec) (hlk : meth.locks = false) (hS : s.Since vm1 k0) (hk : k0 ≤ T.heap.size) {pc : Nat} {Ls : Array Slot} {z : UInt64} {rest : List Value} (hret : meth.sig.returnType = some .double) (hd : decode c.code pc = .ok (.dreturn, 1)) (hc : cells ≤ kc) (hs : slots ≤ ks) (hQ : Q (some (.double z)) T.heap locs) : Goes p e below s ReturnedEndW kc ks Q T (mkF m pc Ls (.double z :: rest)) := by
  obtain ⟨fs, hr, hrun, hended, h1, h2, h3, hsame⟩ := X.leaveW hS hk (v := some (.double z)) (fun h => by rw [hret] at h; cases h) hlk
  exact ⟨_, _, own_retD X hx hret hd hr, hrun, hended, _, _, rfl, hQ, h1, h2, h3, hsame.mono hc hs⟩
theorem Goes.retA (X : Stand p l e R s m args below meth c T locs cells slots) (hx : p.tables.exec = Jvm.exec) (hlk : meth.locks = false) {pc : Nat} {Ls : Array Slot} {w : Value} {t : FieldType} (hw : w.isRef = true) (hret : meth.sig.returnType = some t) (ht : t.isReference = true) (hd : decode c.code pc = .ok (.areturn, 1)) (hc : cells ≤ kc) (hs : slots ≤ ks) (hQ : Q (some w) T.heap locs) : Goes p e below s FrameEnd kc ks Q T (mkF m pc Ls [w]) := by
  obtain ⟨fs, hr, hrun, hended, hW, hsame⟩ := X.leave (v := some w) (fun h => by rw [hret] at h; cases h) hlk
  exact ⟨_, _, X.areturnOut hx hw hret ht hd hr, hrun, hended, _, _, rfl, hQ, ⟨_, rfl⟩, hW, hsame.mono hc hs⟩
theorem Goes.retAW {vm1 : Vm} {k0 : Nat} (X : Stand p l e R (s.setVm vm1) m args below meth c T locs cells slots) (hx : p.tables.exec = Jvm.exec) (hlk : meth.locks = false) (hS : s.Since vm1 k0) (hk : k0 ≤ T.heap.size) {pc : Nat} {Ls : Array Slot} {w : Value} {t : FieldType} (hw : w.isRef = true) (hret : meth.sig.returnType = some t) (ht : t.isReference = true) (hd : decode c.code pc = .ok (.areturn, 1)) (hc : cells ≤ kc) (hs : slots ≤ ks) (hQ : Q (some w) T.heap locs) : Goes p e below s ReturnedEndW kc ks Q T (mkF m pc Ls [w]) := by
  obtain ⟨fs, hr, hrun, hended, h1, h2, h3, hsame⟩ := X.leaveW hS hk (v := some w) (fun h => by rw [hret] at h; cases h) hlk
  exact ⟨_, _, X.areturnOut hx hw hret ht hd hr, hrun, hended, _, _, rfl, hQ, h1, h2, h3, hsame.mono hc hs⟩
theorem Goes.retV (X : Stand p l e R s m args below meth c T locs cells slots) (hx : p.tables.exec = Jvm.exec) (hlk : meth.locks = false) {pc : Nat} {Ls : Array Slot} (hret : meth.sig.returnType = none) (hd : decode c.code pc = .ok (.return_, 1)) (hc : cells ≤ kc) (hs : slots ≤ ks) (hQ : Q (none) T.heap locs) : Goes p e below s FrameEnd kc ks Q T (mkF m pc Ls []) := by
  obtain ⟨fs, hr, hrun, hended, hW, hsame⟩ := X.leave (v := none) (fun _ => rfl) hlk
  exact ⟨_, _, X.returnOut hx hret hd hr, hrun, hended, _, _, rfl, hQ, ⟨_, rfl⟩, hW, hsame.mono hc hs⟩
theorem Goes.retVW {vm1 : Vm} {k0 : Nat} (X : Stand p l e R (s.setVm vm1) m args below meth c T locs cells slots) (hx : p.tables.exec = Jvm.exec) (hlk : meth.locks = false) (hS : s.Since vm1 k0) (hk : k0 ≤ T.heap.size) {pc : Nat} {Ls : Array Slot} (hret : meth.sig.returnType = none) (hd : decode c.code pc = .ok (.return_, 1)) (hc : cells ≤ kc) (hs : slots ≤ ks) (hQ : Q (none) T.heap locs) : Goes p e below s ReturnedEndW kc ks Q T (mkF m pc Ls []) := by
  obtain ⟨fs, hr, hrun, hended, h1, h2, h3, hsame⟩ := X.leaveW hS hk (v := none) (fun _ => rfl) hlk
  exact ⟨_, _, X.returnOut hx hret hd hr, hrun, hended, _, _, rfl, hQ, h1, h2, h3, hsame.mono hc hs⟩
theorem Goes.retNH {vm1 : Vm} {k0 : Nat} {Z : State} {a0 : Array Value} {EL : List (String × Nat)} (X : Stand p l e R (s.setVm vm1) m args below meth c T locs cells slots) (hx : p.tables.exec = Jvm.exec) (hlk : meth.locks = false) (hS : s.Since vm1 k0) (hk : k0 ≤ T.heap.size) (hZ : Z.Warmed39 vm1) (hEL : EW Z a0 EL) (C : CHr Z EL s.vm s.heap vm1 T.heap) {pc : Nat} {Ls : Array Slot} {z : Int32} {t : FieldType} {rest : List Value} (hret : meth.sig.returnType = some t) (ht : t = .boolean ∨ t = .byte ∨ t = .char ∨ t = .short) (hd : decode c.code pc = .ok (.ireturn, 1)) (hc : cells ≤ kc) (hs : slots ≤ ks) (hQ : Q (some (.int (nar t z))) T.heap locs) : Goes p e below s (HeldEnd Z EL) kc ks Q T (mkF m pc Ls (.int z :: rest)) := by
  obtain ⟨fs, hr, hrun, hended, h1, h2, h3, hsame⟩ := X.leaveW hS hk (v := some (.int (nar t z))) (fun h => by rw [hret] at h; cases h) hlk
  exact ⟨_, _, RoadKit.retN X hx hret ht hd hr, hrun, hended, _, _, rfl, hQ, C.trans (CHv.at (T := T) X hZ hEL C.1), h1, h2, h3, hsame.mono hc hs⟩
theorem Goes.retIH {vm1 : Vm} {k0 : Nat} {Z : State} {a0 : Array Value} {EL : List (String × Nat)} (X : Stand p l e R (s.setVm vm1) m args below meth c T locs cells slots) (hx : p.tables.exec = Jvm.exec) (hlk : meth.locks = false) (hS : s.Since vm1 k0) (hk : k0 ≤ T.heap.size) (hZ : Z.Warmed39 vm1) (hEL : EW Z a0 EL) (C : CHr Z EL s.vm s.heap vm1 T.heap) {pc : Nat} {Ls : Array Slot} {z : Int32} {rest : List Value} (hret : meth.sig.returnType = some .int) (hd : decode c.code pc = .ok (.ireturn, 1)) (hc : cells ≤ kc) (hs : slots ≤ ks) (hQ : Q (some (.int z)) T.heap locs) : Goes p e below s (HeldEnd Z EL) kc ks Q T (mkF m pc Ls (.int z :: rest)) := by
  obtain ⟨fs, hr, hrun, hended, h1, h2, h3, hsame⟩ := X.leaveW hS hk (v := some (.int z)) (fun h => by rw [hret] at h; cases h) hlk
  exact ⟨_, _, RoadKit.retI X hx hret hd hr, hrun, hended, _, _, rfl, hQ, C.trans (CHv.at (T := T) X hZ hEL C.1), h1, h2, h3, hsame.mono hc hs⟩
theorem Goes.retAH {vm1 : Vm} {k0 : Nat} {Z : State} {a0 : Array Value} {EL : List (String × Nat)} (X : Stand p l e R (s.setVm vm1) m args below meth c T locs cells slots) (hx : p.tables.exec = Jvm.exec) (hlk : meth.locks = false) (hS : s.Since vm1 k0) (hk : k0 ≤ T.heap.size) (hZ : Z.Warmed39 vm1) (hEL : EW Z a0 EL) (C : CHr Z EL s.vm s.heap vm1 T.heap) {pc : Nat} {Ls : Array Slot} {w : Value} {t : FieldType} (hw : w.isRef = true) (hret : meth.sig.returnType = some t) (ht : t.isReference = true) (hd : decode c.code pc = .ok (.areturn, 1)) (hc : cells ≤ kc) (hs : slots ≤ ks) (hQ : Q (some w) T.heap locs) : Goes p e below s (HeldEnd Z EL) kc ks Q T (mkF m pc Ls [w]) := by
  obtain ⟨fs, hr, hrun, hended, h1, h2, h3, hsame⟩ := X.leaveW hS hk (v := some w) (fun h => by rw [hret] at h; cases h) hlk
  exact ⟨_, _, X.areturnOut hx hw hret ht hd hr, hrun, hended, _, _, rfl, hQ, C.trans (CHv.at (T := T) X hZ hEL C.1), h1, h2, h3, hsame.mono hc hs⟩
theorem Goes.retVH {vm1 : Vm} {k0 : Nat} {Z : State} {a0 : Array Value} {EL : List (String × Nat)} (X : Stand p l e R (s.setVm vm1) m args below meth c T locs cells slots) (hx : p.tables.exec = Jvm.exec) (hlk : meth.locks = false) (hS : s.Since vm1 k0) (hk : k0 ≤ T.heap.size) (hZ : Z.Warmed39 vm1) (hEL : EW Z a0 EL) (C : CHr Z EL s.vm s.heap vm1 T.heap) {pc : Nat} {Ls : Array Slot} (hret : meth.sig.returnType = none) (hd : decode c.code pc = .ok (.return_, 1)) (hc : cells ≤ kc) (hs : slots ≤ ks) (hQ : Q (none) T.heap locs) : Goes p e below s (HeldEnd Z EL) kc ks Q T (mkF m pc Ls []) := by
  obtain ⟨fs, hr, hrun, hended, h1, h2, h3, hsame⟩ := X.leaveW hS hk (v := none) (fun _ => rfl) hlk
  exact ⟨_, _, X.returnOut hx hret hd hr, hrun, hended, _, _, rfl, hQ, C.trans (CHv.at (T := T) X hZ hEL C.1), h1, h2, h3, hsame.mono hc hs⟩
end New
/-- a boolean as the machine holds it -/
def bit (P : Prop) [Decidable P] : Int32 := if P then 1 else 0
theorem bit_t {P : Prop} [Decidable P] (h : P) : bit P = 1 := if_pos h
theorem bit_f {P : Prop} [Decidable P] (h : ¬ P) : bit P = 0 := if_neg h
theorem nar_bit (P : Prop) [Decidable P] : nar .boolean (bit P) = bit P := by unfold bit; split <;> rfl
theorem bit_ne {P : Prop} [Decidable P] : ¬ bit P = 0 ↔ P := by unfold bit; split <;> simp_all
theorem bit_eq {P R : Prop} [Decidable P] [Decidable R] : bit P = bit R ↔ (P ↔ R) := by unfold bit; split <;> split <;> simp_all
theorem own_selPriv {Z s : State} {a0 args : Array Value} {y : MethodName} {n : Nat} (hZ : Z.Warmed39 s.vm) (wi : (Cond.instantiable y.cls n).before a0 Z = true) (wp : (Cond.privateMethod y).before a0 Z = true) (wm : (Cond.instanceMethod y).before a0 Z = true) (hy : y.cls ≠ "java/lang/invoke/MethodHandle" ∧ y.cls ≠ "java/lang/invoke/VarHandle") : (Cond.selects y.cls y y).before args s = true := by
  obtain ⟨c, k, h1, h2, h3, h4, -⟩ := Cond.instantiable_spec (mv hZ wi : (Cond.instantiable y.cls n).before args s = true)
  exact selects_self_of_private h1 h2 (Bool.or_eq_false_iff.mp h4).1 (Cond.privateMethod_at (mvP hZ wp (args := args))) (mv hZ wm) hy
theorem own_fldI {s : State} {args : Array Value} {t : Term} {a : Addr} {C n d : String} {k : Int32} (ev : t.eval args s none [] s = some (.ref a)) (h : (Jvm.Cond.eq (Term.field t C n d) (Term.int k)).value args s none s [] = some true) : Fld s s.heap a C n d (.int k) := by
  obtain ⟨x, y, h1, h2, h3, h4⟩ := cmp_v (Or.inl h)
  obtain rfl : Value.int k = y := Option.some.inj h2
  obtain ⟨z, rfl⟩ := h4
  have q : z = k := by simpa [Cond.value, h1, h2] using h
  subst q
  exact Fld.start ((fld_at ev).symm.trans h1)
end Jvm.RoadKit
namespace Jvm.Pilot.@@N@@
open Jvm Jvm.ClassFile Sem Op Lib Jvm.Free Jvm.Stand Jvm.LawKit Jvm.RoadKit Bundle Jvm.Pilot.@@N@@.Jvm.D
theorem pn_com_example_redeal_redeal_cards_Suit : plainName "com/example/redeal/redeal/cards/Suit" = true := by first | (simp [plainName, overriddenIn]; done) | decide +kernel
theorem ef_rm_isRed (m : MethodId) (x0 : Addr) : entryFrame m #[(.ref x0)] 1 = mkF m 0 #[.val (.ref x0)] [] := by first | (simp [entryFrame, mkF, argsToLocals, Value.category]; done) | rfl
def Q_rm_isRed (Z : State) (a ad ah : Addr) (h0 : Heap) (n0 : Nat) (v : Option Value) (h : Heap) (L : List Loc) : Prop := v = some (.int (bit (a = ad ∨ a = ah))) ∧ Fr n0 L ∧ h = h0
theorem d1_0 : decode prog_4_method_6_code 0 = .ok (.aload_n 0, 1) := by decide +kernel
theorem d1_1 : decode prog_4_method_6_code 1 = .ok (.getstatic 7, 3) := by decide +kernel
theorem d1_4 : decode prog_4_method_6_code 4 = .ok (.if_acmp .eq 10, 3) := by decide +kernel
theorem d1_14 : decode prog_4_method_6_code 14 = .ok (.iconst 1, 1) := by decide +kernel
theorem d1_15 : decode prog_4_method_6_code 15 = .ok (.goto 4, 3) := by decide +kernel
theorem d1_19 : decode prog_4_method_6_code 19 = .ok (.ireturn, 1) := by decide +kernel
theorem d1_7 : decode prog_4_method_6_code 7 = .ok (.aload_n 0, 1) := by decide +kernel
theorem d1_8 : decode prog_4_method_6_code 8 = .ok (.getstatic 10, 3) := by decide +kernel
theorem d1_11 : decode prog_4_method_6_code 11 = .ok (.if_acmp .ne 7, 3) := by decide +kernel
theorem d1_18 : decode prog_4_method_6_code 18 = .ok (.iconst 0, 1) := by decide +kernel
set_option maxRecDepth 65536 in
set_option maxHeartbeats 40000000 in
theorem rm_isRed (l : Launch) (Z : State) (a0 : Array Value) (hw : ∀ d ∈ tables_1, d.before a0 Z = true) (ws : List Jvm.Cond) (a ad ah : Addr) (h0 : Heap) (n0 : Nat) (O : Old Z n0 h0) (S_DIAMONDS : Sta Z Z.heap "com/example/redeal/redeal/cards/Suit" "DIAMONDS" "Lcom/example/redeal/redeal/cards/Suit;" (.ref ad)) (S_HEARTS : Sta Z Z.heap "com/example/redeal/redeal/cards/Suit" "HEARTS" "Lcom/example/redeal/redeal/cards/Suit;" (.ref ah)) :
    MetFree l (⟨"com/example/redeal/redeal/cards/Suit", "isRed", "()Z"⟩ : MethodName) (head1 (Jvm.Cond.code (⟨"com/example/redeal/redeal/cards/Suit", "isRed", "()Z"⟩ : MethodName) prog_4_method_6_code 1 (some .boolean) :: ws) ({ frames := 0, cells := 0, slots := 0, locals := 0 } : Room)) (fun aa U => aa = #[(.ref a)] ∧ Z.Warmed39 U.vm ∧ U.heap = h0) (fun _ _ _ _ _ => True) (fun _ U o U' => ∃ v L, o = .returned v ∧ Q_rm_isRed Z a ad ah h0 n0 v U'.heap L ∧ FrameEnd U o U' L ({ frames := 0, cells := 0, slots := 0, locals := 0 } : Room).cells ({ frames := 0, cells := 0, slots := 0, locals := 0 } : Room).slots) := by
  refine MetFree.of_bodySF (plainFor_of_name pn_com_example_redeal_redeal_cards_Suit) hisR ?_
  intro p e s m args below meth c s₁ Bd hml0 hP hK
  obtain ⟨rfl, hZ, hh⟩ := hP
  have hx := Bd.exec
  have hby := Bd.bytes
  have hml : c.maxLocals = 1 := hml0
  have hown : s.vm.findClass "com/example/redeal/redeal/cards/Suit" = some m.cls := findClass_of_methodNamed Bd.named
  have hnm := (name_of_methodNamed Bd.named Bd.method).1
  have X0 : Stand p l e ({ frames := 0, cells := 0, slots := 0, locals := 0 } : Room) s m #[(.ref a)] below meth c s₁ [] 0 0 := Stand.of_body Bd
  have e0 : s₁.heap = h0 := by rw [← hh, Bd.state]; rfl
  have N0 := Fr.nil n0
  show Goes p e below s FrameEnd ({ frames := 0, cells := 0, slots := 0, locals := 0 } : Room).cells ({ frames := 0, cells := 0, slots := 0, locals := 0 } : Room).slots (Q_rm_isRed Z a ad ah h0 n0) s₁ (entryFrame m #[(.ref a)] 1)
  refine Goes.cast (ef_rm_isRed m a) ?_
  refine Goes.to (T' := s₁) (mkF m 1 #[.val (.ref a)] [(.ref a)]) (fun t k => XS.aloadN X0.here hx rfl (hb hby d1_0) rfl rfl k) ?_
  obtain ⟨T1, X1, e1, st1⟩ := getS2 X0 hx hZ hown (host := "") (Or.inl (hw _ (List.mem_of_getElem? (i := 8) rfl))) Via.refl e0 (S_DIAMONDS.ext O.2) (g := (mkF m 1 #[.val (.ref a)] [(.ref a)])) rfl (hb hby d1_1)
  refine Goes.to (T' := T1) (mkF m 4 #[.val (.ref a)] [(.ref ad), (.ref a)]) st1 ?_
  by_cases ha4_2 : a = ad
  · refine Goes.to (T' := T1) (mkF m 14 #[.val (.ref a)] []) (fun t k => Jvm.RoadKit.acmp (g := (mkF m 4 #[.val (.ref a)] [(.ref ad), (.ref a)])) X1 hx rfl rfl rfl (pc0 := 4) (pc' := 14) (same := true) rfl (hb hby d1_4) rfl (decide_eq_true (congrArg Value.ref ha4_2)) (by decide) (by decide) k) ?_
    refine Goes.to (T' := T1) (mkF m 15 #[.val (.ref a)] [(.int (1 : Int32))]) (fun t k => XS.iconst X1.here hx rfl (hb hby d1_14) k) ?_
    refine Goes.to (T' := T1) (mkF m 19 #[.val (.ref a)] [(.int (1 : Int32))]) (fun t k => XS.goto X1.here hx rfl (pc0 := 15) (pc' := 19) rfl (hb hby d1_15) (by decide) (by decide) k) ?_
    refine Goes.retN X1 hx Bd.notSynchronized (t := .boolean) Bd.returns (by simp) (hb hby d1_19) (by decide) (by decide) ?_
    rw [e1]
    exact ⟨by rw [bit_t (Or.inl ha4_2)]; rfl, N0, rfl⟩
  · refine Goes.to (T' := T1) (mkF m 7 #[.val (.ref a)] []) (fun t k => Jvm.RoadKit.acmp (g := (mkF m 4 #[.val (.ref a)] [(.ref ad), (.ref a)])) X1 hx rfl rfl rfl (pc0 := 4) (pc' := 7) (same := false) rfl (hb hby d1_4) rfl (decide_eq_false fun q => ha4_2 (Value.ref.inj q)) (by decide) (by decide) k) ?_
    refine Goes.to (T' := T1) (mkF m 8 #[.val (.ref a)] [(.ref a)]) (fun t k => XS.aloadN X1.here hx rfl (hb hby d1_7) rfl rfl k) ?_
    obtain ⟨T3, X3, e3, st3⟩ := getS2 X1 hx hZ hown (host := "") (Or.inl (hw _ (List.mem_of_getElem? (i := 10) rfl))) Via.refl e1 (S_HEARTS.ext O.2) (g := (mkF m 8 #[.val (.ref a)] [(.ref a)])) rfl (hb hby d1_8)
    refine Goes.to (T' := T3) (mkF m 11 #[.val (.ref a)] [(.ref ah), (.ref a)]) st3 ?_
    by_cases ha11_4 : a = ah
    · refine Goes.to (T' := T3) (mkF m 14 #[.val (.ref a)] []) (fun t k => Jvm.RoadKit.acmp (g := (mkF m 11 #[.val (.ref a)] [(.ref ah), (.ref a)])) X3 hx rfl rfl rfl (pc0 := 11) (pc' := 14) (same := true) rfl (hb hby d1_11) rfl (decide_eq_true (congrArg Value.ref ha11_4)) (by decide) (by decide) k) ?_
      refine Goes.to (T' := T3) (mkF m 15 #[.val (.ref a)] [(.int (1 : Int32))]) (fun t k => XS.iconst X3.here hx rfl (hb hby d1_14) k) ?_
      refine Goes.to (T' := T3) (mkF m 19 #[.val (.ref a)] [(.int (1 : Int32))]) (fun t k => XS.goto X3.here hx rfl (pc0 := 15) (pc' := 19) rfl (hb hby d1_15) (by decide) (by decide) k) ?_
      refine Goes.retN X3 hx Bd.notSynchronized (t := .boolean) Bd.returns (by simp) (hb hby d1_19) (by decide) (by decide) ?_
      rw [e3]
      exact ⟨by rw [bit_t (Or.inr ha11_4)]; rfl, N0, rfl⟩
    · refine Goes.to (T' := T3) (mkF m 18 #[.val (.ref a)] []) (fun t k => Jvm.RoadKit.acmp (g := (mkF m 11 #[.val (.ref a)] [(.ref ah), (.ref a)])) X3 hx rfl rfl rfl (pc0 := 11) (pc' := 18) (same := false) rfl (hb hby d1_11) rfl (decide_eq_false fun q => ha11_4 (Value.ref.inj q)) (by decide) (by decide) k) ?_
      refine Goes.to (T' := T3) (mkF m 19 #[.val (.ref a)] [(.int (0 : Int32))]) (fun t k => XS.iconst X3.here hx rfl (hb hby d1_18) k) ?_
      refine Goes.retN X3 hx Bd.notSynchronized (t := .boolean) Bd.returns (by simp) (hb hby d1_19) (by decide) (by decide) ?_
      rw [e3]
      exact ⟨by rw [bit_f (not_or.mpr ⟨ha4_2, ha11_4⟩)]; rfl, N0, rfl⟩
theorem pn_com_example_redeal_redeal_cards_SuitIsRedPinLaw : plainName "com/example/redeal/redeal/cards/SuitIsRedPinLaw" = true := by first | (simp [plainName, overriddenIn]; done) | decide +kernel
theorem ef_rm_law (m : MethodId) (x0 : Int32) : entryFrame m #[(.int x0)] maxLocals = mkF m 0 #[.val (.int x0), .unset, .unset, .unset] [] := by first | (simp [entryFrame, mkF, argsToLocals, Value.category, maxLocals]; done) | rfl
def Q_rm_law (Z : State) (p1 : Int32) (a_CLUBS a_DIAMONDS a_HEARTS a_SPADES : Addr) (h0 : Heap) (n0 : Nat) (v : Option Value) (h : Heap) (L : List Loc) : Prop := v = some (.int 1) ∧ Fr n0 L
theorem pd_0 : parseMethodDescriptor "()Z" = some ⟨[], some .boolean⟩ := by decide +kernel
set_option maxRecDepth 65536 in
set_option maxHeartbeats 40000000 in
theorem rm_law (l : Launch) (Z : State) (a0 : Array Value) (hw : ∀ d ∈ tables_1, d.before a0 Z = true) (ws : List Jvm.Cond) (p1 : Int32) (a_CLUBS a_DIAMONDS a_HEARTS a_SPADES : Addr) (h0 : Heap) (n0 : Nat) (O : Old Z n0 h0) (S_CLUBS : Sta Z Z.heap "com/example/redeal/redeal/cards/Suit" "CLUBS" "Lcom/example/redeal/redeal/cards/Suit;" (.ref a_CLUBS)) (S_DIAMONDS : Sta Z Z.heap "com/example/redeal/redeal/cards/Suit" "DIAMONDS" "Lcom/example/redeal/redeal/cards/Suit;" (.ref a_DIAMONDS)) (S_HEARTS : Sta Z Z.heap "com/example/redeal/redeal/cards/Suit" "HEARTS" "Lcom/example/redeal/redeal/cards/Suit;" (.ref a_HEARTS)) (S_SPADES : Sta Z Z.heap "com/example/redeal/redeal/cards/Suit" "SPADES" "Lcom/example/redeal/redeal/cards/Suit;" (.ref a_SPADES)) (E_CLUBS : Exa Z Z.heap a_CLUBS "com/example/redeal/redeal/cards/Suit") (E_DIAMONDS : Exa Z Z.heap a_DIAMONDS "com/example/redeal/redeal/cards/Suit") (E_HEARTS : Exa Z Z.heap a_HEARTS "com/example/redeal/redeal/cards/Suit") (E_SPADES : Exa Z Z.heap a_SPADES "com/example/redeal/redeal/cards/Suit") (ne_CLUBS_DIAMONDS : ¬ a_CLUBS = a_DIAMONDS) (ne_CLUBS_HEARTS : ¬ a_CLUBS = a_HEARTS) (ne_SPADES_DIAMONDS : ¬ a_SPADES = a_DIAMONDS) (ne_SPADES_HEARTS : ¬ a_SPADES = a_HEARTS) :
    MetFree l x (head1 (Jvm.Cond.code x code maxLocals ret :: ws) room_1) (fun aa U => aa = #[(.int p1)] ∧ Z.Warmed39 U.vm ∧ U.heap = h0) (fun _ _ _ _ _ => True) (fun _ U o U' => ∃ v L, o = .returned v ∧ Q_rm_law Z p1 a_CLUBS a_DIAMONDS a_HEARTS a_SPADES h0 n0 v U'.heap L ∧ FrameEnd U o U' L room_1.cells room_1.slots) := by
  refine MetFree.of_bodySF (plainFor_of_name pn_com_example_redeal_redeal_cards_SuitIsRedPinLaw) hisR ?_
  intro p e s m args below meth c s₁ Bd hml0 hP hK
  obtain ⟨rfl, hZ, hh⟩ := hP
  have hx := Bd.exec
  have hby := Bd.bytes
  have hml : c.maxLocals = 4 := hml0
  have hown : s.vm.findClass "com/example/redeal/redeal/cards/SuitIsRedPinLaw" = some m.cls := findClass_of_methodNamed Bd.named
  have hnm := (name_of_methodNamed Bd.named Bd.method).1
  have X0 : Stand p l e room_1 s m #[(.int p1)] below meth c s₁ [] 0 0 := Stand.of_body Bd
  have e0 : s₁.heap = h0 := by rw [← hh, Bd.state]; rfl
  have N0 := Fr.nil n0
  show Goes p e below s FrameEnd room_1.cells room_1.slots (Q_rm_law Z p1 a_CLUBS a_DIAMONDS a_HEARTS a_SPADES h0 n0) s₁ (entryFrame m #[(.int p1)] maxLocals)
  refine Goes.cast (ef_rm_law m p1) ?_
  refine Goes.to (T' := s₁) (mkF m 1 #[.val (.int p1), .unset, .unset, .unset] [(.int p1)]) (fun t k => XS.iloadN X0.here hx rfl (hb hby at_0) rfl k) ?_
  refine Goes.to (T' := s₁) (mkF m 2 #[.val (.int p1), .unset, .unset, .unset] [(.int (3 : Int32)), (.int p1)]) (fun t k => XS.iconst X0.here hx rfl (hb hby at_1) k) ?_
  refine Goes.to (T' := s₁) (mkF m 3 #[.val (.int p1), .unset, .unset, .unset] [(.int (p1 &&& (3 : Int32)))]) (fun t k => XS.iand X0.here hx rfl (hb hby at_2) rfl k) ?_
  refine Goes.to (T' := s₁) (mkF m 4 #[.val (.int p1), .val (.int (p1 &&& (3 : Int32))), .unset, .unset] []) (fun t k => XS.istoreN X0.here hx rfl (hb hby at_3) rfl (l' := #[.val (.int p1), .val (.int (p1 &&& (3 : Int32))), .unset, .unset]) rfl k) ?_
  refine Goes.to (T' := s₁) (mkF m 5 #[.val (.int p1), .val (.int (p1 &&& (3 : Int32))), .unset, .unset] [(.int (p1 &&& (3 : Int32)))]) (fun t k => XS.iloadN X0.here hx rfl (hb hby at_4) rfl k) ?_
  by_cases hc5_1 : (p1 &&& (3 : Int32)) = (0 : Int32)
  · refine Goes.to (T' := s₁) (mkF m 8 #[.val (.int p1), .val (.int (p1 &&& (3 : Int32))), .unset, .unset] []) (fun t k => XS.ifNo X0.here hx rfl (hb hby at_5) rfl ((if0 _ _).trans (teq hc5_1).2) k) ?_
    obtain ⟨T2, X2, e2, st2⟩ := getS2 X0 hx hZ hown (host := "") (Or.inl (hw _ (List.mem_of_getElem? (i := 0) rfl))) Via.refl e0 (S_CLUBS.ext O.2) (g := (mkF m 8 #[.val (.int p1), .val (.int (p1 &&& (3 : Int32))), .unset, .unset] [])) rfl (hb hby at_8)
    refine Goes.to (T' := T2) (mkF m 11 #[.val (.int p1), .val (.int (p1 &&& (3 : Int32))), .unset, .unset] [(.ref a_CLUBS)]) st2 ?_
    refine Goes.to (T' := T2) (mkF m 12 #[.val (.int p1), .val (.int (p1 &&& (3 : Int32))), .val (.ref a_CLUBS), .unset] []) (fun t k => XS.astoreN X2.here hx rfl (hb hby at_11) rfl rfl (l' := #[.val (.int p1), .val (.int (p1 &&& (3 : Int32))), .val (.ref a_CLUBS), .unset]) rfl k) ?_
    refine Goes.to (T' := T2) (mkF m 13 #[.val (.int p1), .val (.int (p1 &&& (3 : Int32))), .val (.ref a_CLUBS), .unset] [(.int (0 : Int32))]) (fun t k => XS.iconst X2.here hx rfl (hb hby at_12) k) ?_
    refine Goes.to (T' := T2) (mkF m 14 #[.val (.int p1), .val (.int (p1 &&& (3 : Int32))), .val (.ref a_CLUBS), .val (.int (0 : Int32))] []) (fun t k => XS.istoreN X2.here hx rfl (hb hby at_13) rfl (l' := #[.val (.int p1), .val (.int (p1 &&& (3 : Int32))), .val (.ref a_CLUBS), .val (.int (0 : Int32))]) rfl k) ?_
    refine Goes.to (T' := T2) (mkF m 51 #[.val (.int p1), .val (.int (p1 &&& (3 : Int32))), .val (.ref a_CLUBS), .val (.int (0 : Int32))] []) (fun t k => XS.goto X2.here hx rfl (pc0 := 14) (pc' := 51) rfl (hb hby at_14) (by decide) (by decide) k) ?_
    refine Goes.to (T' := T2) (mkF m 52 #[.val (.int p1), .val (.int (p1 &&& (3 : Int32))), .val (.ref a_CLUBS), .val (.int (0 : Int32))] [(.ref a_CLUBS)]) (fun t k => XS.aloadN X2.here hx rfl (hb hby at_51) rfl rfl k) ?_
    obtain ⟨cq3, kq3, q3a, q3b, q3c⟩ := isOf hZ e2 (E_CLUBS.ext O.2)
    obtain ⟨_, _, ⟨T3, L3, k3, n3⟩, -, X3, ⟨Lc3, hQ3, l3, y3, z3⟩, st3⟩ := X2.virtualBack hx (y := (⟨"com/example/redeal/redeal/cards/Suit", "isRed", "()Z"⟩ : MethodName)) (z := (⟨"com/example/redeal/redeal/cards/Suit", "isRed", "()Z"⟩ : MethodName)) hown (mvT hZ (hw _ (List.mem_of_getElem? (i := 3) rfl))) (mvT hZ (hw _ (List.mem_of_getElem? (i := 4) rfl))) (notFace_of_selects (args := #[]) (mvT hZ (hw _ (List.mem_of_getElem? (i := 6) rfl)))) (mvT hZ (hw _ (List.mem_of_getElem? (i := 6) rfl))) (mvT hZ (hw _ (List.mem_of_getElem? (i := 5) rfl))) (by decide) (backOf (W := 0) (rm_isRed l Z a0 hw [] a_CLUBS a_DIAMONDS a_HEARTS h0 n0 O S_DIAMONDS S_HEARTS) hZ (hw _ (List.mem_of_getElem? (i := 7) rfl)) (hw _ (List.mem_of_getElem? (i := 1) rfl)) (by decide) (by decide)) q3a q3c (g := (mkF m 52 #[.val (.int p1), .val (.int (p1 &&& (3 : Int32))), .val (.ref a_CLUBS), .val (.int (0 : Int32))] [(.ref a_CLUBS)])) rfl (by rw [hml]; rfl) (Steps.refl _) (argsL := []) (rest := []) (lenOf pd_0 rfl) rfl (by show 2 * 0 + _ ≤ _; exact Nat.le_of_eq rfl) (hb hby at_52) (fun _ _ => ⟨rfl, e2, (by decide : 0 + 0 ≤ _), (by decide : 0 + 0 ≤ _)⟩)
    dsimp only [Pt.U, Pt.locs, Pt.cells, Pt.slots] at X3 l3 y3 z3 st3 hQ3
    subst l3 y3 z3
    obtain ⟨rfl, N3, hs3⟩ := hQ3
    have N3' := Fr.app N0 N3
    refine Goes.to (T' := T3) (mkF m 55 #[.val (.int p1), .val (.int (p1 &&& (3 : Int32))), .val (.ref a_CLUBS), .val (.int (0 : Int32))] [(.int (bit (a_CLUBS = a_DIAMONDS ∨ a_CLUBS = a_HEARTS)))]) (fun t k => st3.trans k) ?_
    refine Goes.to (T' := T3) (mkF m 56 #[.val (.int p1), .val (.int (p1 &&& (3 : Int32))), .val (.ref a_CLUBS), .val (.int (0 : Int32))] [(.int (0 : Int32)), (.int (bit (a_CLUBS = a_DIAMONDS ∨ a_CLUBS = a_HEARTS)))]) (fun t k => XS.iloadN X3.here hx rfl (hb hby at_55) rfl k) ?_
    refine Goes.to (T' := T3) (mkF m 59 #[.val (.int p1), .val (.int (p1 &&& (3 : Int32))), .val (.ref a_CLUBS), .val (.int (0 : Int32))] []) (fun t k => XS.icmpNo X3.here hx rfl (hb hby at_56) rfl (teq (bit_f (not_or.mpr ⟨ne_CLUBS_DIAMONDS, ne_CLUBS_HEARTS⟩) : (bit (a_CLUBS = a_DIAMONDS ∨ a_CLUBS = a_HEARTS)) = (0 : Int32))).2 k) ?_
    refine Goes.to (T' := T3) (mkF m 60 #[.val (.int p1), .val (.int (p1 &&& (3 : Int32))), .val (.ref a_CLUBS), .val (.int (0 : Int32))] [(.int (1 : Int32))]) (fun t k => XS.iconst X3.here hx rfl (hb hby at_59) k) ?_
    refine Goes.to (T' := T3) (mkF m 64 #[.val (.int p1), .val (.int (p1 &&& (3 : Int32))), .val (.ref a_CLUBS), .val (.int (0 : Int32))] [(.int (1 : Int32))]) (fun t k => XS.goto X3.here hx rfl (pc0 := 60) (pc' := 64) rfl (hb hby at_60) (by decide) (by decide) k) ?_
    refine Goes.retN X3 hx Bd.notSynchronized (t := .boolean) Bd.returns (by simp) (hb hby at_64) (by decide) (by decide) ?_
    rw [hs3]
    exact ⟨rfl, N3'⟩
  · refine Goes.to (T' := s₁) (mkF m 17 #[.val (.int p1), .val (.int (p1 &&& (3 : Int32))), .unset, .unset] []) (fun t k => XS.ifYes X0.here hx rfl (pc0 := 5) (pc' := 17) rfl (hb hby at_5) rfl ((if0 _ _).trans (feq hc5_1).2) (by decide) (by decide) k) ?_
    refine Goes.to (T' := s₁) (mkF m 18 #[.val (.int p1), .val (.int (p1 &&& (3 : Int32))), .unset, .unset] [(.int (p1 &&& (3 : Int32)))]) (fun t k => XS.iloadN X0.here hx rfl (hb hby at_17) rfl k) ?_
    refine Goes.to (T' := s₁) (mkF m 19 #[.val (.int p1), .val (.int (p1 &&& (3 : Int32))), .unset, .unset] [(.int (1 : Int32)), (.int (p1 &&& (3 : Int32)))]) (fun t k => XS.iconst X0.here hx rfl (hb hby at_18) k) ?_
    by_cases hc19_4 : (p1 &&& (3 : Int32)) = (1 : Int32)
    · refine Goes.to (T' := s₁) (mkF m 22 #[.val (.int p1), .val (.int (p1 &&& (3 : Int32))), .unset, .unset] []) (fun t k => XS.icmpNo X0.here hx rfl (hb hby at_19) rfl (teq hc19_4).2 k) ?_
      obtain ⟨T5, X5, e5, st5⟩ := getS2 X0 hx hZ hown (host := "") (Or.inl (hw _ (List.mem_of_getElem? (i := 15) rfl))) Via.refl e0 (S_DIAMONDS.ext O.2) (g := (mkF m 22 #[.val (.int p1), .val (.int (p1 &&& (3 : Int32))), .unset, .unset] [])) rfl (hb hby at_22)
      refine Goes.to (T' := T5) (mkF m 25 #[.val (.int p1), .val (.int (p1 &&& (3 : Int32))), .unset, .unset] [(.ref a_DIAMONDS)]) st5 ?_
      refine Goes.to (T' := T5) (mkF m 26 #[.val (.int p1), .val (.int (p1 &&& (3 : Int32))), .val (.ref a_DIAMONDS), .unset] []) (fun t k => XS.astoreN X5.here hx rfl (hb hby at_25) rfl rfl (l' := #[.val (.int p1), .val (.int (p1 &&& (3 : Int32))), .val (.ref a_DIAMONDS), .unset]) rfl k) ?_
      refine Goes.to (T' := T5) (mkF m 27 #[.val (.int p1), .val (.int (p1 &&& (3 : Int32))), .val (.ref a_DIAMONDS), .unset] [(.int (1 : Int32))]) (fun t k => XS.iconst X5.here hx rfl (hb hby at_26) k) ?_
      refine Goes.to (T' := T5) (mkF m 28 #[.val (.int p1), .val (.int (p1 &&& (3 : Int32))), .val (.ref a_DIAMONDS), .val (.int (1 : Int32))] []) (fun t k => XS.istoreN X5.here hx rfl (hb hby at_27) rfl (l' := #[.val (.int p1), .val (.int (p1 &&& (3 : Int32))), .val (.ref a_DIAMONDS), .val (.int (1 : Int32))]) rfl k) ?_
      refine Goes.to (T' := T5) (mkF m 51 #[.val (.int p1), .val (.int (p1 &&& (3 : Int32))), .val (.ref a_DIAMONDS), .val (.int (1 : Int32))] []) (fun t k => XS.goto X5.here hx rfl (pc0 := 28) (pc' := 51) rfl (hb hby at_28) (by decide) (by decide) k) ?_
      refine Goes.to (T' := T5) (mkF m 52 #[.val (.int p1), .val (.int (p1 &&& (3 : Int32))), .val (.ref a_DIAMONDS), .val (.int (1 : Int32))] [(.ref a_DIAMONDS)]) (fun t k => XS.aloadN X5.here hx rfl (hb hby at_51) rfl rfl k) ?_
      obtain ⟨cq6, kq6, q6a, q6b, q6c⟩ := isOf hZ e5 (E_DIAMONDS.ext O.2)
      obtain ⟨_, _, ⟨T6, L6, k6, n6⟩, -, X6, ⟨Lc6, hQ6, l6, y6, z6⟩, st6⟩ := X5.virtualBack hx (y := (⟨"com/example/redeal/redeal/cards/Suit", "isRed", "()Z"⟩ : MethodName)) (z := (⟨"com/example/redeal/redeal/cards/Suit", "isRed", "()Z"⟩ : MethodName)) hown (mvT hZ (hw _ (List.mem_of_getElem? (i := 3) rfl))) (mvT hZ (hw _ (List.mem_of_getElem? (i := 4) rfl))) (notFace_of_selects (args := #[]) (mvT hZ (hw _ (List.mem_of_getElem? (i := 6) rfl)))) (mvT hZ (hw _ (List.mem_of_getElem? (i := 6) rfl))) (mvT hZ (hw _ (List.mem_of_getElem? (i := 5) rfl))) (by decide) (backOf (W := 0) (rm_isRed l Z a0 hw [] a_DIAMONDS a_DIAMONDS a_HEARTS h0 n0 O S_DIAMONDS S_HEARTS) hZ (hw _ (List.mem_of_getElem? (i := 7) rfl)) (hw _ (List.mem_of_getElem? (i := 1) rfl)) (by decide) (by decide)) q6a q6c (g := (mkF m 52 #[.val (.int p1), .val (.int (p1 &&& (3 : Int32))), .val (.ref a_DIAMONDS), .val (.int (1 : Int32))] [(.ref a_DIAMONDS)])) rfl (by rw [hml]; rfl) (Steps.refl _) (argsL := []) (rest := []) (lenOf pd_0 rfl) rfl (by show 2 * 0 + _ ≤ _; exact Nat.le_of_eq rfl) (hb hby at_52) (fun _ _ => ⟨rfl, e5, (by decide : 0 + 0 ≤ _), (by decide : 0 + 0 ≤ _)⟩)
      dsimp only [Pt.U, Pt.locs, Pt.cells, Pt.slots] at X6 l6 y6 z6 st6 hQ6
      subst l6 y6 z6
      obtain ⟨rfl, N6, hs6⟩ := hQ6
      have N6' := Fr.app N0 N6
      refine Goes.to (T' := T6) (mkF m 55 #[.val (.int p1), .val (.int (p1 &&& (3 : Int32))), .val (.ref a_DIAMONDS), .val (.int (1 : Int32))] [(.int (bit (a_DIAMONDS = a_DIAMONDS ∨ a_DIAMONDS = a_HEARTS)))]) (fun t k => st6.trans k) ?_
      refine Goes.to (T' := T6) (mkF m 56 #[.val (.int p1), .val (.int (p1 &&& (3 : Int32))), .val (.ref a_DIAMONDS), .val (.int (1 : Int32))] [(.int (1 : Int32)), (.int (bit (a_DIAMONDS = a_DIAMONDS ∨ a_DIAMONDS = a_HEARTS)))]) (fun t k => XS.iloadN X6.here hx rfl (hb hby at_55) rfl k) ?_
      refine Goes.to (T' := T6) (mkF m 59 #[.val (.int p1), .val (.int (p1 &&& (3 : Int32))), .val (.ref a_DIAMONDS), .val (.int (1 : Int32))] []) (fun t k => XS.icmpNo X6.here hx rfl (hb hby at_56) rfl (teq (bit_t (Or.inl rfl) : (bit (a_DIAMONDS = a_DIAMONDS ∨ a_DIAMONDS = a_HEARTS)) = (1 : Int32))).2 k) ?_
      refine Goes.to (T' := T6) (mkF m 60 #[.val (.int p1), .val (.int (p1 &&& (3 : Int32))), .val (.ref a_DIAMONDS), .val (.int (1 : Int32))] [(.int (1 : Int32))]) (fun t k => XS.iconst X6.here hx rfl (hb hby at_59) k) ?_
      refine Goes.to (T' := T6) (mkF m 64 #[.val (.int p1), .val (.int (p1 &&& (3 : Int32))), .val (.ref a_DIAMONDS), .val (.int (1 : Int32))] [(.int (1 : Int32))]) (fun t k => XS.goto X6.here hx rfl (pc0 := 60) (pc' := 64) rfl (hb hby at_60) (by decide) (by decide) k) ?_
      refine Goes.retN X6 hx Bd.notSynchronized (t := .boolean) Bd.returns (by simp) (hb hby at_64) (by decide) (by decide) ?_
      rw [hs6]
      exact ⟨rfl, N6'⟩
    · refine Goes.to (T' := s₁) (mkF m 31 #[.val (.int p1), .val (.int (p1 &&& (3 : Int32))), .unset, .unset] []) (fun t k => XS.icmpYes X0.here hx rfl (pc0 := 19) (pc' := 31) rfl (hb hby at_19) rfl (feq hc19_4).2 (by decide) (by decide) k) ?_
      refine Goes.to (T' := s₁) (mkF m 32 #[.val (.int p1), .val (.int (p1 &&& (3 : Int32))), .unset, .unset] [(.int (p1 &&& (3 : Int32)))]) (fun t k => XS.iloadN X0.here hx rfl (hb hby at_31) rfl k) ?_
      refine Goes.to (T' := s₁) (mkF m 33 #[.val (.int p1), .val (.int (p1 &&& (3 : Int32))), .unset, .unset] [(.int (2 : Int32)), (.int (p1 &&& (3 : Int32)))]) (fun t k => XS.iconst X0.here hx rfl (hb hby at_32) k) ?_
      by_cases hc33_7 : (p1 &&& (3 : Int32)) = (2 : Int32)
      · refine Goes.to (T' := s₁) (mkF m 36 #[.val (.int p1), .val (.int (p1 &&& (3 : Int32))), .unset, .unset] []) (fun t k => XS.icmpNo X0.here hx rfl (hb hby at_33) rfl (teq hc33_7).2 k) ?_
        obtain ⟨T8, X8, e8, st8⟩ := getS2 X0 hx hZ hown (host := "") (Or.inl (hw _ (List.mem_of_getElem? (i := 14) rfl))) Via.refl e0 (S_HEARTS.ext O.2) (g := (mkF m 36 #[.val (.int p1), .val (.int (p1 &&& (3 : Int32))), .unset, .unset] [])) rfl (hb hby at_36)
        refine Goes.to (T' := T8) (mkF m 39 #[.val (.int p1), .val (.int (p1 &&& (3 : Int32))), .unset, .unset] [(.ref a_HEARTS)]) st8 ?_
        refine Goes.to (T' := T8) (mkF m 40 #[.val (.int p1), .val (.int (p1 &&& (3 : Int32))), .val (.ref a_HEARTS), .unset] []) (fun t k => XS.astoreN X8.here hx rfl (hb hby at_39) rfl rfl (l' := #[.val (.int p1), .val (.int (p1 &&& (3 : Int32))), .val (.ref a_HEARTS), .unset]) rfl k) ?_
        refine Goes.to (T' := T8) (mkF m 41 #[.val (.int p1), .val (.int (p1 &&& (3 : Int32))), .val (.ref a_HEARTS), .unset] [(.int (1 : Int32))]) (fun t k => XS.iconst X8.here hx rfl (hb hby at_40) k) ?_
        refine Goes.to (T' := T8) (mkF m 42 #[.val (.int p1), .val (.int (p1 &&& (3 : Int32))), .val (.ref a_HEARTS), .val (.int (1 : Int32))] []) (fun t k => XS.istoreN X8.here hx rfl (hb hby at_41) rfl (l' := #[.val (.int p1), .val (.int (p1 &&& (3 : Int32))), .val (.ref a_HEARTS), .val (.int (1 : Int32))]) rfl k) ?_
        refine Goes.to (T' := T8) (mkF m 51 #[.val (.int p1), .val (.int (p1 &&& (3 : Int32))), .val (.ref a_HEARTS), .val (.int (1 : Int32))] []) (fun t k => XS.goto X8.here hx rfl (pc0 := 42) (pc' := 51) rfl (hb hby at_42) (by decide) (by decide) k) ?_
        refine Goes.to (T' := T8) (mkF m 52 #[.val (.int p1), .val (.int (p1 &&& (3 : Int32))), .val (.ref a_HEARTS), .val (.int (1 : Int32))] [(.ref a_HEARTS)]) (fun t k => XS.aloadN X8.here hx rfl (hb hby at_51) rfl rfl k) ?_
        obtain ⟨cq9, kq9, q9a, q9b, q9c⟩ := isOf hZ e8 (E_HEARTS.ext O.2)
        obtain ⟨_, _, ⟨T9, L9, k9, n9⟩, -, X9, ⟨Lc9, hQ9, l9, y9, z9⟩, st9⟩ := X8.virtualBack hx (y := (⟨"com/example/redeal/redeal/cards/Suit", "isRed", "()Z"⟩ : MethodName)) (z := (⟨"com/example/redeal/redeal/cards/Suit", "isRed", "()Z"⟩ : MethodName)) hown (mvT hZ (hw _ (List.mem_of_getElem? (i := 3) rfl))) (mvT hZ (hw _ (List.mem_of_getElem? (i := 4) rfl))) (notFace_of_selects (args := #[]) (mvT hZ (hw _ (List.mem_of_getElem? (i := 6) rfl)))) (mvT hZ (hw _ (List.mem_of_getElem? (i := 6) rfl))) (mvT hZ (hw _ (List.mem_of_getElem? (i := 5) rfl))) (by decide) (backOf (W := 0) (rm_isRed l Z a0 hw [] a_HEARTS a_DIAMONDS a_HEARTS h0 n0 O S_DIAMONDS S_HEARTS) hZ (hw _ (List.mem_of_getElem? (i := 7) rfl)) (hw _ (List.mem_of_getElem? (i := 1) rfl)) (by decide) (by decide)) q9a q9c (g := (mkF m 52 #[.val (.int p1), .val (.int (p1 &&& (3 : Int32))), .val (.ref a_HEARTS), .val (.int (1 : Int32))] [(.ref a_HEARTS)])) rfl (by rw [hml]; rfl) (Steps.refl _) (argsL := []) (rest := []) (lenOf pd_0 rfl) rfl (by show 2 * 0 + _ ≤ _; exact Nat.le_of_eq rfl) (hb hby at_52) (fun _ _ => ⟨rfl, e8, (by decide : 0 + 0 ≤ _), (by decide : 0 + 0 ≤ _)⟩)
        dsimp only [Pt.U, Pt.locs, Pt.cells, Pt.slots] at X9 l9 y9 z9 st9 hQ9
        subst l9 y9 z9
        obtain ⟨rfl, N9, hs9⟩ := hQ9
        have N9' := Fr.app N0 N9
        refine Goes.to (T' := T9) (mkF m 55 #[.val (.int p1), .val (.int (p1 &&& (3 : Int32))), .val (.ref a_HEARTS), .val (.int (1 : Int32))] [(.int (bit (a_HEARTS = a_DIAMONDS ∨ a_HEARTS = a_HEARTS)))]) (fun t k => st9.trans k) ?_
        refine Goes.to (T' := T9) (mkF m 56 #[.val (.int p1), .val (.int (p1 &&& (3 : Int32))), .val (.ref a_HEARTS), .val (.int (1 : Int32))] [(.int (1 : Int32)), (.int (bit (a_HEARTS = a_DIAMONDS ∨ a_HEARTS = a_HEARTS)))]) (fun t k => XS.iloadN X9.here hx rfl (hb hby at_55) rfl k) ?_
        refine Goes.to (T' := T9) (mkF m 59 #[.val (.int p1), .val (.int (p1 &&& (3 : Int32))), .val (.ref a_HEARTS), .val (.int (1 : Int32))] []) (fun t k => XS.icmpNo X9.here hx rfl (hb hby at_56) rfl (teq (bit_t (Or.inr rfl) : (bit (a_HEARTS = a_DIAMONDS ∨ a_HEARTS = a_HEARTS)) = (1 : Int32))).2 k) ?_
        refine Goes.to (T' := T9) (mkF m 60 #[.val (.int p1), .val (.int (p1 &&& (3 : Int32))), .val (.ref a_HEARTS), .val (.int (1 : Int32))] [(.int (1 : Int32))]) (fun t k => XS.iconst X9.here hx rfl (hb hby at_59) k) ?_
        refine Goes.to (T' := T9) (mkF m 64 #[.val (.int p1), .val (.int (p1 &&& (3 : Int32))), .val (.ref a_HEARTS), .val (.int (1 : Int32))] [(.int (1 : Int32))]) (fun t k => XS.goto X9.here hx rfl (pc0 := 60) (pc' := 64) rfl (hb hby at_60) (by decide) (by decide) k) ?_
        refine Goes.retN X9 hx Bd.notSynchronized (t := .boolean) Bd.returns (by simp) (hb hby at_64) (by decide) (by decide) ?_
        rw [hs9]
        exact ⟨rfl, N9'⟩
      · refine Goes.to (T' := s₁) (mkF m 45 #[.val (.int p1), .val (.int (p1 &&& (3 : Int32))), .unset, .unset] []) (fun t k => XS.icmpYes X0.here hx rfl (pc0 := 33) (pc' := 45) rfl (hb hby at_33) rfl (feq hc33_7).2 (by decide) (by decide) k) ?_
        obtain ⟨T10, X10, e10, st10⟩ := getS2 X0 hx hZ hown (host := "") (Or.inl (hw _ (List.mem_of_getElem? (i := 12) rfl))) Via.refl e0 (S_SPADES.ext O.2) (g := (mkF m 45 #[.val (.int p1), .val (.int (p1 &&& (3 : Int32))), .unset, .unset] [])) rfl (hb hby at_45)
        refine Goes.to (T' := T10) (mkF m 48 #[.val (.int p1), .val (.int (p1 &&& (3 : Int32))), .unset, .unset] [(.ref a_SPADES)]) st10 ?_
        refine Goes.to (T' := T10) (mkF m 49 #[.val (.int p1), .val (.int (p1 &&& (3 : Int32))), .val (.ref a_SPADES), .unset] []) (fun t k => XS.astoreN X10.here hx rfl (hb hby at_48) rfl rfl (l' := #[.val (.int p1), .val (.int (p1 &&& (3 : Int32))), .val (.ref a_SPADES), .unset]) rfl k) ?_
        refine Goes.to (T' := T10) (mkF m 50 #[.val (.int p1), .val (.int (p1 &&& (3 : Int32))), .val (.ref a_SPADES), .unset] [(.int (0 : Int32))]) (fun t k => XS.iconst X10.here hx rfl (hb hby at_49) k) ?_
        refine Goes.to (T' := T10) (mkF m 51 #[.val (.int p1), .val (.int (p1 &&& (3 : Int32))), .val (.ref a_SPADES), .val (.int (0 : Int32))] []) (fun t k => XS.istoreN X10.here hx rfl (hb hby at_50) rfl (l' := #[.val (.int p1), .val (.int (p1 &&& (3 : Int32))), .val (.ref a_SPADES), .val (.int (0 : Int32))]) rfl k) ?_
        refine Goes.to (T' := T10) (mkF m 52 #[.val (.int p1), .val (.int (p1 &&& (3 : Int32))), .val (.ref a_SPADES), .val (.int (0 : Int32))] [(.ref a_SPADES)]) (fun t k => XS.aloadN X10.here hx rfl (hb hby at_51) rfl rfl k) ?_
        obtain ⟨cq11, kq11, q11a, q11b, q11c⟩ := isOf hZ e10 (E_SPADES.ext O.2)
        obtain ⟨_, _, ⟨T11, L11, k11, n11⟩, -, X11, ⟨Lc11, hQ11, l11, y11, z11⟩, st11⟩ := X10.virtualBack hx (y := (⟨"com/example/redeal/redeal/cards/Suit", "isRed", "()Z"⟩ : MethodName)) (z := (⟨"com/example/redeal/redeal/cards/Suit", "isRed", "()Z"⟩ : MethodName)) hown (mvT hZ (hw _ (List.mem_of_getElem? (i := 3) rfl))) (mvT hZ (hw _ (List.mem_of_getElem? (i := 4) rfl))) (notFace_of_selects (args := #[]) (mvT hZ (hw _ (List.mem_of_getElem? (i := 6) rfl)))) (mvT hZ (hw _ (List.mem_of_getElem? (i := 6) rfl))) (mvT hZ (hw _ (List.mem_of_getElem? (i := 5) rfl))) (by decide) (backOf (W := 0) (rm_isRed l Z a0 hw [] a_SPADES a_DIAMONDS a_HEARTS h0 n0 O S_DIAMONDS S_HEARTS) hZ (hw _ (List.mem_of_getElem? (i := 7) rfl)) (hw _ (List.mem_of_getElem? (i := 1) rfl)) (by decide) (by decide)) q11a q11c (g := (mkF m 52 #[.val (.int p1), .val (.int (p1 &&& (3 : Int32))), .val (.ref a_SPADES), .val (.int (0 : Int32))] [(.ref a_SPADES)])) rfl (by rw [hml]; rfl) (Steps.refl _) (argsL := []) (rest := []) (lenOf pd_0 rfl) rfl (by show 2 * 0 + _ ≤ _; exact Nat.le_of_eq rfl) (hb hby at_52) (fun _ _ => ⟨rfl, e10, (by decide : 0 + 0 ≤ _), (by decide : 0 + 0 ≤ _)⟩)
        dsimp only [Pt.U, Pt.locs, Pt.cells, Pt.slots] at X11 l11 y11 z11 st11 hQ11
        subst l11 y11 z11
        obtain ⟨rfl, N11, hs11⟩ := hQ11
        have N11' := Fr.app N0 N11
        refine Goes.to (T' := T11) (mkF m 55 #[.val (.int p1), .val (.int (p1 &&& (3 : Int32))), .val (.ref a_SPADES), .val (.int (0 : Int32))] [(.int (bit (a_SPADES = a_DIAMONDS ∨ a_SPADES = a_HEARTS)))]) (fun t k => st11.trans k) ?_
        refine Goes.to (T' := T11) (mkF m 56 #[.val (.int p1), .val (.int (p1 &&& (3 : Int32))), .val (.ref a_SPADES), .val (.int (0 : Int32))] [(.int (0 : Int32)), (.int (bit (a_SPADES = a_DIAMONDS ∨ a_SPADES = a_HEARTS)))]) (fun t k => XS.iloadN X11.here hx rfl (hb hby at_55) rfl k) ?_
        refine Goes.to (T' := T11) (mkF m 59 #[.val (.int p1), .val (.int (p1 &&& (3 : Int32))), .val (.ref a_SPADES), .val (.int (0 : Int32))] []) (fun t k => XS.icmpNo X11.here hx rfl (hb hby at_56) rfl (teq (bit_f (not_or.mpr ⟨ne_SPADES_DIAMONDS, ne_SPADES_HEARTS⟩) : (bit (a_SPADES = a_DIAMONDS ∨ a_SPADES = a_HEARTS)) = (0 : Int32))).2 k) ?_
        refine Goes.to (T' := T11) (mkF m 60 #[.val (.int p1), .val (.int (p1 &&& (3 : Int32))), .val (.ref a_SPADES), .val (.int (0 : Int32))] [(.int (1 : Int32))]) (fun t k => XS.iconst X11.here hx rfl (hb hby at_59) k) ?_
        refine Goes.to (T' := T11) (mkF m 64 #[.val (.int p1), .val (.int (p1 &&& (3 : Int32))), .val (.ref a_SPADES), .val (.int (0 : Int32))] [(.int (1 : Int32))]) (fun t k => XS.goto X11.here hx rfl (pc0 := 60) (pc' := 64) rfl (hb hby at_60) (by decide) (by decide) k) ?_
        refine Goes.retN X11 hx Bd.notSynchronized (t := .boolean) Bd.returns (by simp) (hb hby at_64) (by decide) (by decide) ?_
        rw [hs11]
        exact ⟨rfl, N11'⟩
set_option maxRecDepth 65536 in
set_option maxHeartbeats 40000000 in
theorem comes_1 {Post : Tables → Env → Array Value → State → Outcome → State → Prop} (hpost : ∀ tb e args s v u, (limb_1_1.after args s (.returned v) u = true ∧ limb_1_2.after args s (.returned v) u = true ∧ True) → FrameEnd s (.returned v) u (Jvm.fieldLocs frame_1_writes args s ++ Jvm.arrayLocs frame_1_arrays args s ++ Jvm.staticLocs frame_1_statics s) 0 0 → Post tb e args s (.returned v) u) :
    ArmFor flags0 classFile x code maxLocals ret World_1 tables_1 room_1 Calls_1 rest_1 Pre_1 Post := by
  intro l hfl _ _ p e ha hc hk s m args below hf hA hF happ hP
  obtain ⟨hcalls, hrest, hpre⟩ := hP
  obtain ⟨-, -, -, hnamed, -, -, -, hat⟩ := (Spec.applies_iff hf).mp happ
  obtain ⟨hg, hn⟩ := and_e (Cond.before_iff.mp (show (Jvm.Cond.and given_1 narrow_1).before args s = true from hpre))
  obtain ⟨gg0, gr0⟩ := and_e hg
  have gg1 := gr0
  obtain ⟨w0, rfl⟩ : ∃ w0 : Value, args = #[w0] := by
    have hs : args.size = 1 := by simpa [Cond.value, given_1] using gg0
    obtain ⟨L⟩ := args
    match L, hs with
    | [w0], _ => exact ⟨w0, rfl⟩
  have hw := fun d (hd : d ∈ tables_1) => atoms_spec (ws := Jvm.Cond.code x code maxLocals ret :: tables_1) hat d (List.mem_cons_of_mem _ hd)
  have hfit : Fit s := fun {y c} hc i hi => by
    obtain ⟨ha, rfl⟩ := Array.getElem?_eq_some_iff.mp hc
    have q := List.all_eq_true.mp ((Array.all_eq_true_iff_forall_mem.mp hF) _ (Array.getElem_mem ha)) i (List.mem_range.mpr hi)
    simpa [Array.getElem?_eq_getElem hi] using q
  obtain ⟨i0, ei0⟩ := is_v gg1
  obtain rfl : w0 = (.int i0) := Option.some.inj ei0
  obtain ⟨nn0, nr0⟩ := and_e hn
  obtain ⟨nn1, nr1⟩ := and_e nr0
  obtain ⟨nn2, nr2⟩ := and_e nr1
  obtain ⟨nn3, nr3⟩ := and_e nr2
  obtain ⟨nn4, nr4⟩ := and_e nr3
  obtain ⟨nn5, nr5⟩ := and_e nr4
  obtain ⟨nn6, nr6⟩ := and_e nr5
  have nn7 := nr6
  obtain ⟨a_CLUBS, ev_CLUBS⟩ := exa_v nn0
  have S_CLUBS : Sta s s.heap "com/example/redeal/redeal/cards/Suit" "CLUBS" "Lcom/example/redeal/redeal/cards/Suit;" (.ref a_CLUBS) := Sta.start ev_CLUBS (Or.inr ⟨(hw _ (List.mem_of_getElem? (i := 1) rfl)), (hw _ (List.mem_of_getElem? (i := 2) rfl))⟩)
  have E_CLUBS : Exa s s.heap a_CLUBS "com/example/redeal/redeal/cards/Suit" := Exa.start ev_CLUBS nn0
  obtain ⟨a_DIAMONDS, ev_DIAMONDS⟩ := exa_v nn1
  have S_DIAMONDS : Sta s s.heap "com/example/redeal/redeal/cards/Suit" "DIAMONDS" "Lcom/example/redeal/redeal/cards/Suit;" (.ref a_DIAMONDS) := Sta.start ev_DIAMONDS (Or.inr ⟨(hw _ (List.mem_of_getElem? (i := 1) rfl)), (hw _ (List.mem_of_getElem? (i := 9) rfl))⟩)
  have E_DIAMONDS : Exa s s.heap a_DIAMONDS "com/example/redeal/redeal/cards/Suit" := Exa.start ev_DIAMONDS nn1
  obtain ⟨a_HEARTS, ev_HEARTS⟩ := exa_v nn4
  have S_HEARTS : Sta s s.heap "com/example/redeal/redeal/cards/Suit" "HEARTS" "Lcom/example/redeal/redeal/cards/Suit;" (.ref a_HEARTS) := Sta.start ev_HEARTS (Or.inr ⟨(hw _ (List.mem_of_getElem? (i := 1) rfl)), (hw _ (List.mem_of_getElem? (i := 11) rfl))⟩)
  have E_HEARTS : Exa s s.heap a_HEARTS "com/example/redeal/redeal/cards/Suit" := Exa.start ev_HEARTS nn4
  obtain ⟨a_SPADES, ev_SPADES⟩ := exa_v nn6
  have S_SPADES : Sta s s.heap "com/example/redeal/redeal/cards/Suit" "SPADES" "Lcom/example/redeal/redeal/cards/Suit;" (.ref a_SPADES) := Sta.start ev_SPADES (Or.inr ⟨(hw _ (List.mem_of_getElem? (i := 1) rfl)), (hw _ (List.mem_of_getElem? (i := 13) rfl))⟩)
  have E_SPADES : Exa s s.heap a_SPADES "com/example/redeal/redeal/cards/Suit" := Exa.start ev_SPADES nn6
  have F_ordinal_CLUBS : Fld s s.heap a_CLUBS "java/lang/Enum" "ordinal" "I" (.int 0) := own_fldI ev_CLUBS nn2
  have F_ordinal_DIAMONDS : Fld s s.heap a_DIAMONDS "java/lang/Enum" "ordinal" "I" (.int 1) := own_fldI ev_DIAMONDS nn3
  have F_ordinal_HEARTS : Fld s s.heap a_HEARTS "java/lang/Enum" "ordinal" "I" (.int 2) := own_fldI ev_HEARTS nn5
  have F_ordinal_SPADES : Fld s s.heap a_SPADES "java/lang/Enum" "ordinal" "I" (.int 3) := own_fldI ev_SPADES nn7
  obtain ⟨n, o, h1, h2, h3, _, L, rfl, ⟨rfl, N⟩, hq⟩ := rm_law l s _ hw tables_1 i0 a_CLUBS a_DIAMONDS a_HEARTS a_SPADES s.heap s.heap.size (Old.start s) S_CLUBS S_DIAMONDS S_HEARTS S_SPADES E_CLUBS E_DIAMONDS E_HEARTS E_SPADES (Fld.ne F_ordinal_CLUBS F_ordinal_DIAMONDS (by decide)) (Fld.ne F_ordinal_CLUBS F_ordinal_HEARTS (by decide)) (Fld.ne F_ordinal_SPADES F_ordinal_DIAMONDS (by decide)) (Fld.ne F_ordinal_SPADES F_ordinal_HEARTS (by decide)) p e ha hc hk s m _ below hf ((Spec.applies_iff_loose hf).mp happ).1 ⟨rfl, State.Warmed39.refl s, rfl⟩ trivial
  refine ⟨n, _, h1, h2, h3, hpost _ _ _ _ _ _ ⟨Cond.after_iff.mpr rfl, Cond.after_iff.mpr (eq_i res_at (Term.int_eval (1)) rfl), trivial⟩ ⟨hq.1, hq.2.1, (hq.2.2.sift fun y hy => Or.inr (N y hy)).mono (by decide) (by decide)⟩⟩
theorem main_1_1 : Claimed_1_1 := comes_1 fun _ _ _ _ _ _ h hF => ⟨h.1, hF⟩
theorem main_1_2 : Claimed_1_2 := comes_1 fun _ _ _ _ _ _ h hF => ⟨h.2.1, hF⟩

end Jvm.Pilot.@@N@@
namespace Jvm.Pilot.@@N@@
open Jvm Jvm.ClassFile Sem Op Lib Jvm.Free Jvm.Stand Jvm.Pilot.@@N@@.Jvm.D
/-! MADE BY PROGRAM (witnessworld.py) out of the Statement's table words and the real class files: 12 classes; the members and pool entries that the words name. The judged class is class 1, her method 1. -/
namespace start1
open Jvm.ClassFile
def u (s : String) : CpInfo := .utf8 (stringToUtf16 s)
/-- a pool by its gaps: so many unusable entries, then the entry; so many at the end -/
def gap : Nat → List CpInfo → List CpInfo
  | 0, r => r
  | n + 1, r => .unusable :: gap n r
def poolList (es : List (Nat × CpInfo)) (last : Nat) : List CpInfo := es.foldr (fun e r => gap e.1 (e.2 :: r)) (gap last [])
def pool (es : List (Nat × CpInfo)) (last : Nat) : Array CpInfo := ⟨poolList es last⟩
def fileOf (pool : Array CpInfo) (this : Nat) (attrs : Array Attribute := #[]) (ms : Array MethodInfo := #[]) (fl : Nat := 33) (sup : Nat := 0) (ifs : Array Nat := #[]) (fds : Array FieldInfo := #[]) : ClassFile where
  minorVersion := 0
  majorVersion := 65
  constantPool := pool
  accessFlags := fl
  thisClass := this
  superClass := sup
  interfaces := ifs
  fields := fds
  methods := ms
  attributes := attrs
def plain (name : String) (sup : Option ClassId) : Class where
  name := name
  kind := .ordinary
  loader := none
  accessFlags := 33
  super := sup
  interfaces := #[]
  cf := none
  fields := #[]
  methods := #[]
  instanceTypes := #[]
  staticTypes := #[]
  resolved := #[]
  callSites := []
  init := .initialized
  statics := none
  mirror := none

def pool0 : Array CpInfo := pool [(5, u "<init>"), (0, u "()V"), (1, .class_ 10), (1, u "java/lang/Object")] 113

def k0m0 : Method := { name := "<init>", desc := "()V", sig := { parameters := [], returnType := none }, accessFlags := 1, code := none }
/-- java/lang/Object -/
def k0 : Class := { plain "java/lang/Object" none with
  accessFlags := 33
  interfaces := #[]
  cf := some (fileOf pool0 8 #[] #[{ accessFlags := 1, nameIndex := 5, descriptorIndex := 6, attributes := #[] }] 33 0 #[] #[])
  fields := #[]
  methods := #[k0m0]
  instanceTypes := #[]
  staticTypes := #[]
  resolved := Array.replicate 124 none
  statics := none }

def pool1 : Array CpInfo := pool [(2, .class_ 4), (1, u "java/lang/Object"), (0, u "<init>"), (0, u "()V"), (0, .fieldref 8 9), (0, .class_ 10), (0, .nameAndType 11 12), (0, u "com/example/redeal/redeal/cards/Suit"), (0, u "CLUBS"), (0, u "Lcom/example/redeal/redeal/cards/Suit;"), (0, .fieldref 8 14), (0, .nameAndType 15 12), (0, u "DIAMONDS"), (0, .fieldref 8 17), (0, .nameAndType 18 12), (0, u "HEARTS"), (0, .fieldref 8 20), (0, .nameAndType 21 12), (0, u "SPADES"), (0, .methodref 8 23), (0, .nameAndType 24 25), (0, u "isRed"), (0, u "()Z"), (0, .class_ 27), (0, u "com/example/redeal/redeal/cards/SuitIsRedPinLaw"), (2, u "law"), (0, u "(I)Z")] 3

def k1m0 : Method := { name := "<init>", desc := "()V", sig := { parameters := [], returnType := none }, accessFlags := 2, code := none }
def k1c1 : Code := { maxStack := 2, maxLocals := 4, code := code, exceptionTable := #[], attributes := #[] }
def k1m1 : Method := { name := "law", desc := "(I)Z", sig := { parameters := [.int], returnType := some .boolean }, accessFlags := 9, code := some k1c1 }
/-- com/example/redeal/redeal/cards/SuitIsRedPinLaw -/
def k1 : Class := { plain "com/example/redeal/redeal/cards/SuitIsRedPinLaw" (some 0) with
  accessFlags := 49
  interfaces := #[]
  cf := some (fileOf pool1 26 #[] #[{ accessFlags := 2, nameIndex := 5, descriptorIndex := 6, attributes := #[] }, { accessFlags := 9, nameIndex := 30, descriptorIndex := 31, attributes := #[] }] 49 2 #[] #[])
  fields := #[]
  methods := #[k1m0, k1m1]
  instanceTypes := #[]
  staticTypes := #[]
  resolved := Array.replicate 35 none
  statics := none }

def pool2 : Array CpInfo := pool [(1, .class_ 2), (0, u "java/lang/constant/Constable"), (0, .class_ 4), (0, u "java/lang/Object")] 6

/-- java/lang/constant/Constable -/
def k2 : Class := { plain "java/lang/constant/Constable" (some 0) with
  accessFlags := 1537
  interfaces := #[]
  cf := some (fileOf pool2 1 #[] #[] 1537 3 #[] #[])
  fields := #[]
  methods := #[]
  instanceTypes := #[]
  staticTypes := #[]
  resolved := Array.replicate 11 none
  statics := none }

def pool3 : Array CpInfo := pool [(1, .class_ 2), (0, u "java/lang/Comparable"), (0, .class_ 4), (0, u "java/lang/Object")] 7

/-- java/lang/Comparable -/
def k3 : Class := { plain "java/lang/Comparable" (some 0) with
  accessFlags := 1537
  interfaces := #[]
  cf := some (fileOf pool3 1 #[] #[] 1537 3 #[] #[])
  fields := #[]
  methods := #[]
  instanceTypes := #[]
  staticTypes := #[]
  resolved := Array.replicate 12 none
  statics := none }

def pool4 : Array CpInfo := pool [(1, .class_ 2), (0, u "java/io/Serializable"), (0, .class_ 4), (0, u "java/lang/Object")] 2

/-- java/io/Serializable -/
def k4 : Class := { plain "java/io/Serializable" (some 0) with
  accessFlags := 1537
  interfaces := #[]
  cf := some (fileOf pool4 1 #[] #[] 1537 3 #[] #[])
  fields := #[]
  methods := #[]
  instanceTypes := #[]
  staticTypes := #[]
  resolved := Array.replicate 7 none
  statics := none }

def pool5 : Array CpInfo := pool [(2, .class_ 4), (1, u "java/lang/Enum"), (0, u "name"), (0, u "Ljava/lang/String;"), (2, u "ordinal"), (0, u "I"), (1, .class_ 14), (1, u "java/lang/Object"), (4, u "hash"), (86, .class_ 108), (1, u "java/lang/Enum$EnumDesc"), (2, .class_ 112), (0, u "java/lang/constant/Constable"), (0, .class_ 114), (0, u "java/lang/Comparable"), (0, .class_ 116), (0, u "java/io/Serializable")] 87

/-- java/lang/Enum -/
def k5 : Class := { plain "java/lang/Enum" (some 0) with
  accessFlags := 1057
  interfaces := #[2, 3, 4]
  cf := some (fileOf pool5 2 #[.nestMembers #[106]] #[] 1057 12 #[111, 113, 115] #[{ accessFlags := 18, nameIndex := 5, descriptorIndex := 6, attributes := #[] }, { accessFlags := 18, nameIndex := 9, descriptorIndex := 10, attributes := #[] }, { accessFlags := 2, nameIndex := 19, descriptorIndex := 10, attributes := #[] }])
  fields := #[{ name := "name", type := (.object "java/lang/String"), accessFlags := 18, slot := 0, constantValue := 0 }, { name := "ordinal", type := .int, accessFlags := 18, slot := 1, constantValue := 0 }, { name := "hash", type := .int, accessFlags := 2, slot := 2, constantValue := 0 }]
  methods := #[]
  instanceTypes := #[(.object "java/lang/String"), .int, .int]
  staticTypes := #[]
  resolved := Array.replicate 204 none
  statics := none }

def pool6 : Array CpInfo := pool [(1, .class_ 2), (0, u "com/example/redeal/redeal/cards/Suit"), (2, u "CLUBS"), (0, u "Lcom/example/redeal/redeal/cards/Suit;"), (0, .fieldref 1 8), (0, .nameAndType 9 6), (0, u "DIAMONDS"), (0, .fieldref 1 11), (0, .nameAndType 12 6), (0, u "HEARTS"), (2, u "SPADES"), (2, u "$VALUES"), (0, u "[Lcom/example/redeal/redeal/cards/Suit;"), (6, .class_ 28), (1, u "java/lang/Enum"), (8, u "symbol"), (0, u "C"), (2, u "word"), (0, u "Ljava/lang/String;"), (28, u "isRed"), (0, u "()Z")] 6

def k6c0 : Code := { maxStack := 2, maxLocals := 1, code := prog_4_method_6_code, exceptionTable := #[], attributes := #[] }
def k6m0 : Method := { name := "isRed", desc := "()Z", sig := { parameters := [], returnType := some .boolean }, accessFlags := 1, code := some k6c0 }
/-- com/example/redeal/redeal/cards/Suit -/
def k6 : Class := { plain "com/example/redeal/redeal/cards/Suit" (some 5) with
  accessFlags := 16433
  interfaces := #[]
  cf := some (fileOf pool6 1 #[] #[{ accessFlags := 1, nameIndex := 71, descriptorIndex := 72, attributes := #[] }] 16433 26 #[] #[{ accessFlags := 16409, nameIndex := 5, descriptorIndex := 6, attributes := #[] }, { accessFlags := 16409, nameIndex := 9, descriptorIndex := 6, attributes := #[] }, { accessFlags := 16409, nameIndex := 12, descriptorIndex := 6, attributes := #[] }, { accessFlags := 16409, nameIndex := 15, descriptorIndex := 6, attributes := #[] }, { accessFlags := 18, nameIndex := 37, descriptorIndex := 38, attributes := #[] }, { accessFlags := 18, nameIndex := 41, descriptorIndex := 42, attributes := #[] }, { accessFlags := 4122, nameIndex := 18, descriptorIndex := 19, attributes := #[] }])
  fields := #[{ name := "CLUBS", type := (.object "com/example/redeal/redeal/cards/Suit"), accessFlags := 16409, slot := 0, constantValue := 0 }, { name := "DIAMONDS", type := (.object "com/example/redeal/redeal/cards/Suit"), accessFlags := 16409, slot := 1, constantValue := 0 }, { name := "HEARTS", type := (.object "com/example/redeal/redeal/cards/Suit"), accessFlags := 16409, slot := 2, constantValue := 0 }, { name := "SPADES", type := (.object "com/example/redeal/redeal/cards/Suit"), accessFlags := 16409, slot := 3, constantValue := 0 }, { name := "symbol", type := .char, accessFlags := 18, slot := 3, constantValue := 0 }, { name := "word", type := (.object "java/lang/String"), accessFlags := 18, slot := 4, constantValue := 0 }, { name := "$VALUES", type := (.array (.object "com/example/redeal/redeal/cards/Suit")), accessFlags := 4122, slot := 4, constantValue := 0 }]
  methods := #[k6m0]
  instanceTypes := #[(.object "java/lang/String"), .int, .int, .char, (.object "java/lang/String")]
  staticTypes := #[(.object "com/example/redeal/redeal/cards/Suit"), (.object "com/example/redeal/redeal/cards/Suit"), (.object "com/example/redeal/redeal/cards/Suit"), (.object "com/example/redeal/redeal/cards/Suit"), (.array (.object "com/example/redeal/redeal/cards/Suit"))]
  resolved := Array.replicate 79 none
  statics := some 0 }

def pool7 : Array CpInfo := pool [(1, u "java/lang/Cloneable"), (0, .class_ 1), (0, u "java/lang/Object"), (0, .class_ 3)] 3

/-- java/lang/Cloneable -/
def k7 : Class := { plain "java/lang/Cloneable" (some 0) with
  accessFlags := 1537
  interfaces := #[]
  cf := some (fileOf pool7 2 #[] #[] 1537 4 #[] #[])
  fields := #[]
  methods := #[]
  instanceTypes := #[]
  staticTypes := #[]
  resolved := Array.replicate 8 none
  statics := none }

/-- the primitive byte -/
def k8 : Class := { plain "byte" none with kind := .primitive 'B', accessFlags := 0x411 }
/-- [B -/
def k9 : Class := { plain "[B" (some 0) with kind := .array 8 .byte, interfaces := #[7, 4], accessFlags := 1041 }

/-- the primitive int -/
def k10 : Class := { plain "int" none with kind := .primitive 'I', accessFlags := 0x411 }
/-- [I -/
def k11 : Class := { plain "[I" (some 0) with kind := .array 10 .int, interfaces := #[7, 4], accessFlags := 1041 }

def heap : Heap := #[{ cls := 6, slots := #[.ref 1, .ref 2, .ref 3, .ref 4, .null], vm := .statics 6 },
  { cls := 6, slots := #[.null, .int 0, .int 0, .int 0, .null], vm := .none },
  { cls := 6, slots := #[.null, .int 1, .int 0, .int 0, .null], vm := .none },
  { cls := 6, slots := #[.null, .int 2, .int 0, .int 0, .null], vm := .none },
  { cls := 6, slots := #[.null, .int 3, .int 0, .int 0, .null], vm := .none }]
def classes : Array Class := #[k0, k1, k2, k3, k4, k5, k6, k7, k8, k9, k10, k11]
def interned : List (Array UInt16 × Addr) := []
def slotsUsed : Nat := 25
def theMethod : MethodId := ⟨1, 1⟩
def args0 : Array Value := #[.int 5]
def aboutOver (below : List Frame) : State where
  vm := { classes := classes, interned := interned.toArray }
  heap := heap
  slotsUsed := slotsUsed
  threads := #[{ frames := .invoking theMethod args0 :: below }]
def below0 : List Frame := [.native { method := ⟨0, 0⟩, args := #[] }]
def about1 : State := aboutOver below0
def p0 : Program := .bare "" "" ""
def e0 : Env := launch0.env 0 0 0
theorem w_frames : about1.frames = Frame.invoking theMethod args0 :: below0 := rfl
set_option maxRecDepth 65536 in
theorem w_args : argsFit about1.vm theMethod args0 = true := by decide +kernel
set_option maxRecDepth 65536 in
theorem w_heap : heapFits about1 = true := by decide +kernel
set_option maxRecDepth 65536 in
theorem w_runnable : about1.curStatus? = some .runnable := by decide +kernel
set_option maxRecDepth 65536 in
theorem w_alone : about1.alone = true := by decide +kernel
set_option maxRecDepth 65536 in
theorem w_named : about1.methodNamed? x = some theMethod := by decide +kernel
set_option maxRecDepth 65536 in
theorem w_hears : about1.hears theMethod below0 = true := by decide +kernel
set_option maxRecDepth 65536 in
theorem w_ripe : about1.ripe theMethod args0 below0 = true := by decide +kernel
theorem w_running : about1.status = .running := rfl
set_option maxRecDepth 65536 in
theorem w_room : about1.hasRoom e0.platform room_1 = true :=
  launch0.hasRoom_least _ room_1 (by decide +kernel) (by decide +kernel) (by decide +kernel) (by decide +kernel) (by decide +kernel) (by decide +kernel)
theorem allAtoms_all (ts : List Jvm.Cond) (a : Array Jvm.Value) (st : Jvm.State) : (allAtoms ts).before a st = ts.all (fun c => c.before a st) := by
  induction ts with
  | nil => rfl
  | cons c t ih =>
    show (Jvm.Cond.and c (allAtoms t)).before a st = _
    rw [Jvm.Cond.before_and, ih, List.all_cons]
def words1 : List Jvm.Cond := Jvm.Cond.code x code maxLocals ret :: tables_1
/-- a 'code' word, met by the world's own term for the bytes: nothing is compared byte by byte -/
theorem code_word {y : MethodName} {bytes : ByteArray} {mx : Nat} {rt : Option FieldType} {a : Array Value} {s : State} {m : MethodId} {meth : Method} {c : Code} (h1 : s.methodNamed? y = some m) (h2 : s.vm.method? m = some meth) (h3 : meth.code = some c) (h4 : c.code = bytes)
    (h5 : (c.maxLocals == mx && c.exceptionTable.isEmpty && decide (c.maxStack ≤ mostOperands) && decide (meth.sig.returnType = rt) && !meth.locks && decide (parseMethodDescriptor y.desc = some meth.sig)) = true) : (Jvm.Cond.code y bytes mx rt).before a s = true := by
  simp only [Bool.and_eq_true, beq_iff_eq, Bool.not_eq_true', decide_eq_true_eq] at h5
  obtain ⟨⟨⟨⟨⟨g1, g2⟩, g3⟩, g4⟩, g5⟩, g6⟩ := h5
  simp [Cond.before, Cond.holds, Cond.value, h1, h2, h3, h4, g1, g2, g3, g4, g5, g6]
def isCode : Jvm.Cond → Bool
  | .code _ _ _ _ => true
  | _ => false
theorem all_split {L : List Jvm.Cond} {P : Jvm.Cond → Bool} (h1 : L.all (fun c => isCode c || P c) = true) (h2 : ∀ c ∈ L.filter isCode, P c = true) : L.all P = true := by
  refine List.all_eq_true.mpr fun c hc => ?_
  have h := List.all_eq_true.mp h1 c hc
  rcases Bool.eq_false_or_eq_true (isCode c) with hi | hi
  · exact h2 c (List.mem_filter.mpr ⟨hc, hi⟩)
  · simpa [hi] using h
set_option maxRecDepth 65536 in
theorem w_c0 : (Jvm.Cond.code x code maxLocals ret).before args0 about1 = true := code_word (m := ⟨1, 1⟩) (meth := k1m1) (c := k1c1) (by decide +kernel) rfl rfl rfl (by decide +kernel)
set_option maxRecDepth 65536 in
theorem w_c1 : (Jvm.Cond.code ({ cls := "com/example/redeal/redeal/cards/Suit", name := "isRed", desc := "()Z" } : Jvm.MethodName) prog_4_method_6_code (1 : Nat) (Option.some Jvm.ClassFile.FieldType.boolean)).before args0 about1 = true := code_word (m := ⟨6, 0⟩) (meth := k6m0) (c := k6c0) (by decide +kernel) rfl rfl rfl (by decide +kernel)
def codes1 : List Jvm.Cond := [Jvm.Cond.code x code maxLocals ret, Jvm.Cond.code ({ cls := "com/example/redeal/redeal/cards/Suit", name := "isRed", desc := "()Z" } : Jvm.MethodName) prog_4_method_6_code (1 : Nat) (Option.some Jvm.ClassFile.FieldType.boolean)]
set_option maxRecDepth 65536 in
theorem codes_eq : words1.filter isCode = codes1 := rfl
theorem w_codes : ∀ c ∈ words1.filter isCode, c.before args0 about1 = true := by
  rw [codes_eq]
  intro c hc
  simp only [codes1, List.mem_cons, List.not_mem_nil, or_false] at hc
  rcases hc with rfl | rfl
  · exact w_c0
  · exact w_c1
set_option maxRecDepth 65536 in
theorem w_t1 : words1.all (fun c => isCode c || c.before args0 about1) = true := by decide +kernel
theorem w_tables : (allAtoms (Jvm.Cond.code x code maxLocals ret :: tables_1)).before args0 about1 = true := by
  rw [allAtoms_all]
  show words1.all (fun c => c.before args0 about1) = true
  refine all_split ?_ w_codes
  rw [w_t1]
set_option maxRecDepth 65536 in
theorem w_case : (Jvm.Cond.and given_1 narrow_1).before args0 about1 = true := by decide +kernel
theorem w_applies : (headSpec (Jvm.Cond.code x code maxLocals ret :: tables_1) room_1).applies x e0.platform about1 = true :=
  (Spec.applies_iff w_frames).mpr ⟨w_running, w_runnable, w_alone, w_named, w_hears, w_ripe, w_room, w_tables⟩
theorem atStart : AtStart classFile x code maxLocals ret World_1 tables_1 room_1 Calls_1 rest_1 Pre_1 launch0 p0 e0 about1 theMethod args0 below0 :=
  ⟨lists_1, trivial, launch0.admits_env _ _ _, launch0.least_env, fairChoices_fair.cas, fairChoices_fair.clock, w_frames, w_args, w_heap, w_applies, trivial, trivial, w_case⟩
end start1
theorem witness_1 : WitnessClaimed_1 := ⟨start1.p0, start1.e0, start1.about1, start1.theMethod, start1.args0, start1.below0, start1.atStart⟩
end Jvm.Pilot.@@N@@
