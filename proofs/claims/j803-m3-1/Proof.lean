import JvmDerived
import JvmDerived.Pilot.@@N@@Statement
import JvmDerived.Pilot.@@N@@Code
set_option linter.unusedVariables false
set_option linter.unusedSimpArgs false
namespace Jvm.RoadKit
open Sem ClassFile Op Lib Jvm.Stand Jvm.Free Jvm.LawKit
section New
variable {p : Program} {l : Launch} {e : Env} {R : Room} {s : State} {m : MethodId} {args : Array Value} {below : List Frame} {meth : Method} {c : Code} {T : State} {locs : List Loc} {cells slots : Nat}
theorem retI (X : Stand p l e R s m args below meth c T locs cells slots) (hx : p.tables.exec = Jvm.exec) {pc : Nat} {Ls : Array Slot} {z : Int32} {rest : List Value} (hret : meth.sig.returnType = some .int) (hd : decode c.code pc = .ok (.ireturn, 1)) {fs : List Frame}
    (hl : ∀ (f : JFrame) (acts : List Action), f.method = m → f.locked = none → f.entered = [] → (doReturn e (T.setTop f) acts (some (.int z))).1 = T.setFrames fs) : Steps p.tables e below (T.setTop (mkF m pc Ls (.int z :: rest))) (T.setFrames fs) := by
  have hm' : T.vm.method? m = some meth := X.method'
  have hn : narrow .int (.int z) = .int z := rfl
  show Steps p.tables e below (T.setTop { method := m, pc := pc, locals := Ls, stack := _ :: rest, locked := none }) _
  jvm_step X.here [X.here.top, hx, hd, hm', hret, hn]
  first | (intro acts; rw [hl _ acts rfl rfl rfl]) | rw [hl _ _ rfl rfl rfl]
  exact Steps.refl _
theorem own_retJ (X : Stand p l e R s m args below meth c T locs cells slots) (hx : p.tables.exec = Jvm.exec) {pc : Nat} {Ls : Array Slot} {z : Int64} {rest : List Value} (hret : meth.sig.returnType = some .long) (hd : decode c.code pc = .ok (.lreturn, 1)) {fs : List Frame}
    (hl : ∀ (f : JFrame) (acts : List Action), f.method = m → f.locked = none → f.entered = [] → (doReturn e (T.setTop f) acts (some (.long z))).1 = T.setFrames fs) : Steps p.tables e below (T.setTop (mkF m pc Ls (.long z :: rest))) (T.setFrames fs) := by
  have hm' : T.vm.method? m = some meth := X.method'
  show Steps p.tables e below (T.setTop { method := m, pc := pc, locals := Ls, stack := _ :: rest, locked := none }) _
  jvm_step X.here [X.here.top, hx, hd, hm', hret, narrow]
  first | (intro acts; rw [hl _ acts rfl rfl rfl]) | rw [hl _ _ rfl rfl rfl]
  exact Steps.refl _
theorem own_retD (X : Stand p l e R s m args below meth c T locs cells slots) (hx : p.tables.exec = Jvm.exec) {pc : Nat} {Ls : Array Slot} {z : UInt64} {rest : List Value} (hret : meth.sig.returnType = some .double) (hd : decode c.code pc = .ok (.dreturn, 1)) {fs : List Frame}
    (hl : ∀ (f : JFrame) (acts : List Action), f.method = m → f.locked = none → f.entered = [] → (doReturn e (T.setTop f) acts (some (.double z))).1 = T.setFrames fs) : Steps p.tables e below (T.setTop (mkF m pc Ls (.double z :: rest))) (T.setFrames fs) := by
  have hm' : T.vm.method? m = some meth := X.method'
  show Steps p.tables e below (T.setTop { method := m, pc := pc, locals := Ls, stack := _ :: rest, locked := none }) _
  jvm_step X.here [X.here.top, hx, hd, hm', hret, narrow]
  first | (intro acts; rw [hl _ acts rfl rfl rfl]) | rw [hl _ _ rfl rfl rfl]
  exact Steps.refl _
/-- from T, with the frame g on top, the run comes to an end of the kind that Q tells; Fe: the frame of that end -/
def Goes (p : Program) (e : Env) (below : List Frame) (s : State) (Fe : State → Outcome → State → List Loc → Nat → Nat → Prop) (kc ks : Nat) (Q : Option Value → Heap → List Loc → Prop) (T : State) (g : JFrame) : Prop :=
  ∃ s₂ o, Steps p.tables e below (T.setTop g) s₂ ∧ s₂.status = .running ∧ Ended s₂ below o ∧ ∃ v L, o = .returned v ∧ Q v s₂.heap L ∧ Fe s o s₂ L kc ks
/-- a wide end that keeps the invariant of the held constants -/
def HeldEnd (Z : State) (EL : List (String × Nat)) (s : State) (o : Outcome) (t : State) (L : List Loc) (k n : Nat) : Prop := CHr Z EL s.vm s.heap t.vm t.heap ∧ ReturnedEndW s o t L k n
variable {kc ks : Nat} {Q : Option Value → Heap → List Loc → Prop} {T' : State} {Fe : State → Outcome → State → List Loc → Nat → Nat → Prop}
theorem Goes.go {g g' : JFrame} (h : ∀ t, Steps p.tables e below (T'.setTop g') t → Steps p.tables e below (T.setTop g) t) (k : Goes p e below s Fe kc ks Q T' g') : Goes p e below s Fe kc ks Q T g := by
  obtain ⟨s₂, o, h1, h2⟩ := k
  exact ⟨s₂, o, h _ h1, h2⟩
theorem Goes.to {g : JFrame} (g' : JFrame) (h : ∀ t, Steps p.tables e below (T'.setTop g') t → Steps p.tables e below (T.setTop g) t) (k : Goes p e below s Fe kc ks Q T' g') : Goes p e below s Fe kc ks Q T g := k.go h
theorem Goes.cast {g g' : JFrame} (q : g = g') (k : Goes p e below s Fe kc ks Q T g') : Goes p e below s Fe kc ks Q T g := q ▸ k
theorem Goes.retN (X : Stand p l e R s m args below meth c T locs cells slots) (hx : p.tables.exec = Jvm.exec) (hlk : meth.locks = false) {pc : Nat} {Ls : Array Slot} {z : Int32} {t : FieldType} {rest : List Value} (hret : meth.sig.returnType = some t) (ht : t = .boolean ∨ t = .byte ∨ t = .char ∨ t = .short) (hd : decode c.code pc = .ok (.ireturn, 1)) (hc : cells ≤ kc) (hs : slots ≤ ks) (hQ : Q (some (.int (nar t z))) T.heap locs) : Goes p e below s FrameEnd kc ks Q T (mkF m pc Ls (.int z :: rest)) := by
  obtain ⟨fs, hr, hrun, hended, hW, hsame⟩ := X.leave (v := some (.int (nar t z))) (fun h => by rw [hret] at h; cases h) hlk
  exact ⟨_, _, RoadKit.retN X hx hret ht hd hr, hrun, hended, _, _, rfl, hQ, ⟨_, rfl⟩, hW, hsame.mono hc hs⟩
theorem Goes.retNW {vm1 : Vm} {k0 : Nat} (X : Stand p l e R (s.setVm vm1) m args below meth c T locs cells slots) (hx : p.tables.exec = Jvm.exec) (hlk : meth.locks = false) (hS : s.Since vm1 k0) (hk : k0 ≤ T.heap.size) {pc : Nat} {Ls : Array Slot} {z : Int32} {t : FieldType} {rest : List Value} (hret : meth.sig.returnType = some t) (ht : t = .boolean ∨ t = .byte ∨ t = .char ∨ t = .short) (hd : decode c.code pc = .ok (.ireturn, 1)) (hc : cells ≤ kc) (hs : slots ≤ ks) (hQ : Q (some (.int (nar t z))) T.heap locs) : Goes p e below s ReturnedEndW kc ks Q T (mkF m pc Ls (.int z :: rest)) := by
  obtain ⟨fs, hr, hrun, hended, h1, h2, h3, hsame⟩ := X.leaveW hS hk (v := some (.int (nar t z))) (fun h => by rw [hret] at h; cases h) hlk
  exact ⟨_, _, RoadKit.retN X hx hret ht hd hr, hrun, hended, _, _, rfl, hQ, h1, h2, h3, hsame.mono hc hs⟩
theorem Goes.retI (X : Stand p l e R s m args below meth c T locs cells slots) (hx : p.tables.exec = Jvm.exec) (hlk : meth.locks = false) {pc : Nat} {Ls : Array Slot} {z : Int32} {rest : List Value} (hret : meth.sig.returnType = some .int) (hd : decode c.code pc = .ok (.ireturn, 1)) (hc : cells ≤ kc) (hs : slots ≤ ks) (hQ : Q (some (.int z)) T.heap locs) : Goes p e below s FrameEnd kc ks Q T (mkF m pc Ls (.int z :: rest)) := by
  obtain ⟨fs, hr, hrun, hended, hW, hsame⟩ := X.leave (v := some (.int z)) (fun h => by rw [hret] at h; cases h) hlk
  exact ⟨_, _, RoadKit.retI X hx hret hd hr, hrun, hended, _, _, rfl, hQ, ⟨_, rfl⟩, hW, hsame.mono hc hs⟩
theorem Goes.retIW {vm1 : Vm} {k0 : Nat} (X : Stand p l e R (s.setVm vm1) m args below meth c T locs cells slots) (hx : p.tables.exec = Jvm.exec) (hlk : meth.locks = false) (hS : s.Since vm1 k0) (hk : k0 ≤ T.heap.size) {pc : Nat} {Ls : Array Slot} {z : Int32} {rest : List Value} (hret : meth.sig.returnType = some .int) (hd : decode c.code pc = .ok (.ireturn, 1)) (hc : cells ≤ kc) (hs : slots ≤ ks) (hQ : Q (some (.int z)) T.heap locs) : Goes p e below s ReturnedEndW kc ks Q T (mkF m pc Ls (.int z :: rest)) := by
  obtain ⟨fs, hr, hrun, hended, h1, h2, h3, hsame⟩ := X.leaveW hS hk (v := some (.int z)) (fun h => by rw [hret] at h; cases h) hlk
  exact ⟨_, _, RoadKit.retI X hx hret hd hr, hrun, hended, _, _, rfl, hQ, h1, h2, h3, hsame.mono hc hs⟩
theorem Goes.retJ (X : Stand p l e R s m args below meth c T locs cells slots) (hx : p.tables.exec = Jvm.exec) (hlk : meth.locks = false) {pc : Nat} {Ls : Array Slot} {z : Int64} {rest : List Value} (hret : meth.sig.returnType = some .long) (hd : decode c.code pc = .ok (.lreturn, 1)) (hc : cells ≤ kc) (hs : slots ≤ ks) (hQ : Q (some (.long z)) T.heap locs) : Goes p e below s FrameEnd kc ks Q T (mkF m pc Ls (.long z :: rest)) := by
  obtain ⟨fs, hr, hrun, hended, hW, hsame⟩ := X.leave (v := some (.long z)) (fun h => by rw [hret] at h; cases h) hlk
  exact ⟨_, _, own_retJ X hx hret hd hr, hrun, hended, _, _, rfl, hQ, ⟨_, rfl⟩, hW, hsame.mono hc hs⟩
theorem Goes.retJW {vm1 : Vm} {k0 : Nat} (X : Stand p l e R (s.setVm vm1) m args below meth c T locs cells slots) (hx : p.tables.exec = Jvm.exec) (hlk : meth.locks = false) (hS : s.Since vm1 k0) (hk : k0 ≤ T.heap.size) {pc : Nat} {Ls : Array Slot} {z : Int64} {rest : List Value} (hret : meth.sig.returnType = some .long) (hd : decode c.code pc = .ok (.lreturn, 1)) (hc : cells ≤ kc) (hs : slots ≤ ks) (hQ : Q (some (.long z)) T.heap locs) : Goes p e below s ReturnedEndW kc ks Q T (mkF m pc Ls (.long z :: rest)) := by
  obtain ⟨fs, hr, hrun, hended, h1, h2, h3, hsame⟩ := X.leaveW hS hk (v := some (.long z)) (fun h => by rw [hret] at h; cases h) hlk
  exact ⟨_, _, own_retJ X hx hret hd hr, hrun, hended, _, _, rfl, hQ, h1, h2, h3, hsame.mono hc hs⟩
theorem Goes.retD (X : Stand p l e R s m args below meth c T locs cells slots) (hx : p.tables.exec = Jvm.exec) (hlk : meth.locks = false) {pc : Nat} {Ls : Array Slot} {z : UInt64} {rest : List Value} (hret : meth.sig.returnType = some .double) (hd : decode c.code pc = .ok (.dreturn, 1)) (hc : cells ≤ kc) (hs : slots ≤ ks) (hQ : Q (some (.double z)) T.heap locs) : Goes p e below s FrameEnd kc ks Q T (mkF m pc Ls (.double z :: rest)) := by
  obtain ⟨fs, hr, hrun, hended, hW, hsame⟩ := X.leave (v := some (.double z)) (fun h => by rw [hret] at h; cases h) hlk
  exact ⟨_, _, own_retD X hx hret hd hr, hrun, hended, _, _, rfl, hQ, ⟨_, rfl⟩, hW, hsame.mono hc hs⟩
theorem Goes.retDW {vm1 : Vm} {k0 : Nat} (X : Stand p l e R (s.setVm vm1) m args below meth c T locs cells slots) (hx : p.tables.exec = Jvm.exec) (hlk : meth.locks = false) (hS : s.Since vm1 k0) (hk : k0 ≤ T.heap.size) {pc : Nat} {Ls : Array Slot} {z : UInt64} {rest : List Value} (hret : meth.sig.returnType = some .double) (hd : decode c.code pc = .ok (.dreturn, 1)) (hc : cells ≤ kc) (hs : slots ≤ ks) (hQ : Q (some (.double z)) T.heap locs) : Goes p e below s ReturnedEndW kc ks Q T (mkF m pc Ls (.double z :: rest)) := by
  obtain ⟨fs, hr, hrun, hended, h1, h2, h3, hsame⟩ := X.leaveW hS hk (v := some (.double z)) (fun h => by rw [hret] at h; cases h) hlk
  exact ⟨_, _, own_retD X hx hret hd hr, hrun, hended, _, _, rfl, hQ, h1, h2, h3, hsame.mono hc hs⟩
theorem Goes.retA (X : Stand p l e R s m args below meth c T locs cells slots) (hx : p.tables.exec = Jvm.exec) (hlk : meth.locks = false) {pc : Nat} {Ls : Array Slot} {w : Value} {t : FieldType} (hw : w.isRef = true) (hret : meth.sig.returnType = some t) (ht : t.isReference = true) (hd : decode c.code pc = .ok (.areturn, 1)) (hc : cells ≤ kc) (hs : slots ≤ ks) (hQ : Q (some w) T.heap locs) : Goes p e below s FrameEnd kc ks Q T (mkF m pc Ls [w]) := by
  obtain ⟨fs, hr, hrun, hended, hW, hsame⟩ := X.leave (v := some w) (fun h => by rw [hret] at h; cases h) hlk
  exact ⟨_, _, X.areturnOut hx hw hret ht hd hr, hrun, hended, _, _, rfl, hQ, ⟨_, rfl⟩, hW, hsame.mono hc hs⟩
theorem Goes.retAW {vm1 : Vm} {k0 : Nat} (X : Stand p l e R (s.setVm vm1) m args below meth c T locs cells slots) (hx : p.tables.exec = Jvm.exec) (hlk : meth.locks = false) (hS : s.Since vm1 k0) (hk : k0 ≤ T.heap.size) {pc : Nat} {Ls : Array Slot} {w : Value} {t : FieldType} (hw : w.isRef = true) (hret : meth.sig.returnType = some t) (ht : t.isReference = true) (hd : decode c.code pc = .ok (.areturn, 1)) (hc : cells ≤ kc) (hs : slots ≤ ks) (hQ : Q (some w) T.heap locs) : Goes p e below s ReturnedEndW kc ks Q T (mkF m pc Ls [w]) := by
  obtain ⟨fs, hr, hrun, hended, h1, h2, h3, hsame⟩ := X.leaveW hS hk (v := some w) (fun h => by rw [hret] at h; cases h) hlk
  exact ⟨_, _, X.areturnOut hx hw hret ht hd hr, hrun, hended, _, _, rfl, hQ, h1, h2, h3, hsame.mono hc hs⟩
theorem Goes.retV (X : Stand p l e R s m args below meth c T locs cells slots) (hx : p.tables.exec = Jvm.exec) (hlk : meth.locks = false) {pc : Nat} {Ls : Array Slot} (hret : meth.sig.returnType = none) (hd : decode c.code pc = .ok (.return_, 1)) (hc : cells ≤ kc) (hs : slots ≤ ks) (hQ : Q (none) T.heap locs) : Goes p e below s FrameEnd kc ks Q T (mkF m pc Ls []) := by
  obtain ⟨fs, hr, hrun, hended, hW, hsame⟩ := X.leave (v := none) (fun _ => rfl) hlk
  exact ⟨_, _, X.returnOut hx hret hd hr, hrun, hended, _, _, rfl, hQ, ⟨_, rfl⟩, hW, hsame.mono hc hs⟩
theorem Goes.retVW {vm1 : Vm} {k0 : Nat} (X : Stand p l e R (s.setVm vm1) m args below meth c T locs cells slots) (hx : p.tables.exec = Jvm.exec) (hlk : meth.locks = false) (hS : s.Since vm1 k0) (hk : k0 ≤ T.heap.size) {pc : Nat} {Ls : Array Slot} (hret : meth.sig.returnType = none) (hd : decode c.code pc = .ok (.return_, 1)) (hc : cells ≤ kc) (hs : slots ≤ ks) (hQ : Q (none) T.heap locs) : Goes p e below s ReturnedEndW kc ks Q T (mkF m pc Ls []) := by
  obtain ⟨fs, hr, hrun, hended, h1, h2, h3, hsame⟩ := X.leaveW hS hk (v := none) (fun _ => rfl) hlk
  exact ⟨_, _, X.returnOut hx hret hd hr, hrun, hended, _, _, rfl, hQ, h1, h2, h3, hsame.mono hc hs⟩
theorem Goes.retNH {vm1 : Vm} {k0 : Nat} {Z : State} {a0 : Array Value} {EL : List (String × Nat)} (X : Stand p l e R (s.setVm vm1) m args below meth c T locs cells slots) (hx : p.tables.exec = Jvm.exec) (hlk : meth.locks = false) (hS : s.Since vm1 k0) (hk : k0 ≤ T.heap.size) (hZ : Z.Warmed39 vm1) (hEL : EW Z a0 EL) (C : CHr Z EL s.vm s.heap vm1 T.heap) {pc : Nat} {Ls : Array Slot} {z : Int32} {t : FieldType} {rest : List Value} (hret : meth.sig.returnType = some t) (ht : t = .boolean ∨ t = .byte ∨ t = .char ∨ t = .short) (hd : decode c.code pc = .ok (.ireturn, 1)) (hc : cells ≤ kc) (hs : slots ≤ ks) (hQ : Q (some (.int (nar t z))) T.heap locs) : Goes p e below s (HeldEnd Z EL) kc ks Q T (mkF m pc Ls (.int z :: rest)) := by
  obtain ⟨fs, hr, hrun, hended, h1, h2, h3, hsame⟩ := X.leaveW hS hk (v := some (.int (nar t z))) (fun h => by rw [hret] at h; cases h) hlk
  exact ⟨_, _, RoadKit.retN X hx hret ht hd hr, hrun, hended, _, _, rfl, hQ, C.trans (CHv.at (T := T) X hZ hEL C.1), h1, h2, h3, hsame.mono hc hs⟩
theorem Goes.retIH {vm1 : Vm} {k0 : Nat} {Z : State} {a0 : Array Value} {EL : List (String × Nat)} (X : Stand p l e R (s.setVm vm1) m args below meth c T locs cells slots) (hx : p.tables.exec = Jvm.exec) (hlk : meth.locks = false) (hS : s.Since vm1 k0) (hk : k0 ≤ T.heap.size) (hZ : Z.Warmed39 vm1) (hEL : EW Z a0 EL) (C : CHr Z EL s.vm s.heap vm1 T.heap) {pc : Nat} {Ls : Array Slot} {z : Int32} {rest : List Value} (hret : meth.sig.returnType = some .int) (hd : decode c.code pc = .ok (.ireturn, 1)) (hc : cells ≤ kc) (hs : slots ≤ ks) (hQ : Q (some (.int z)) T.heap locs) : Goes p e below s (HeldEnd Z EL) kc ks Q T (mkF m pc Ls (.int z :: rest)) := by
  obtain ⟨fs, hr, hrun, hended, h1, h2, h3, hsame⟩ := X.leaveW hS hk (v := some (.int z)) (fun h => by rw [hret] at h; cases h) hlk
  exact ⟨_, _, RoadKit.retI X hx hret hd hr, hrun, hended, _, _, rfl, hQ, C.trans (CHv.at (T := T) X hZ hEL C.1), h1, h2, h3, hsame.mono hc hs⟩
theorem Goes.retAH {vm1 : Vm} {k0 : Nat} {Z : State} {a0 : Array Value} {EL : List (String × Nat)} (X : Stand p l e R (s.setVm vm1) m args below meth c T locs cells slots) (hx : p.tables.exec = Jvm.exec) (hlk : meth.locks = false) (hS : s.Since vm1 k0) (hk : k0 ≤ T.heap.size) (hZ : Z.Warmed39 vm1) (hEL : EW Z a0 EL) (C : CHr Z EL s.vm s.heap vm1 T.heap) {pc : Nat} {Ls : Array Slot} {w : Value} {t : FieldType} (hw : w.isRef = true) (hret : meth.sig.returnType = some t) (ht : t.isReference = true) (hd : decode c.code pc = .ok (.areturn, 1)) (hc : cells ≤ kc) (hs : slots ≤ ks) (hQ : Q (some w) T.heap locs) : Goes p e below s (HeldEnd Z EL) kc ks Q T (mkF m pc Ls [w]) := by
  obtain ⟨fs, hr, hrun, hended, h1, h2, h3, hsame⟩ := X.leaveW hS hk (v := some w) (fun h => by rw [hret] at h; cases h) hlk
  exact ⟨_, _, X.areturnOut hx hw hret ht hd hr, hrun, hended, _, _, rfl, hQ, C.trans (CHv.at (T := T) X hZ hEL C.1), h1, h2, h3, hsame.mono hc hs⟩
theorem Goes.retVH {vm1 : Vm} {k0 : Nat} {Z : State} {a0 : Array Value} {EL : List (String × Nat)} (X : Stand p l e R (s.setVm vm1) m args below meth c T locs cells slots) (hx : p.tables.exec = Jvm.exec) (hlk : meth.locks = false) (hS : s.Since vm1 k0) (hk : k0 ≤ T.heap.size) (hZ : Z.Warmed39 vm1) (hEL : EW Z a0 EL) (C : CHr Z EL s.vm s.heap vm1 T.heap) {pc : Nat} {Ls : Array Slot} (hret : meth.sig.returnType = none) (hd : decode c.code pc = .ok (.return_, 1)) (hc : cells ≤ kc) (hs : slots ≤ ks) (hQ : Q (none) T.heap locs) : Goes p e below s (HeldEnd Z EL) kc ks Q T (mkF m pc Ls []) := by
  obtain ⟨fs, hr, hrun, hended, h1, h2, h3, hsame⟩ := X.leaveW hS hk (v := none) (fun _ => rfl) hlk
  exact ⟨_, _, X.returnOut hx hret hd hr, hrun, hended, _, _, rfl, hQ, C.trans (CHv.at (T := T) X hZ hEL C.1), h1, h2, h3, hsame.mono hc hs⟩
end New
/-- a boolean as the machine holds it -/
def bit (P : Prop) [Decidable P] : Int32 := if P then 1 else 0
theorem bit_t {P : Prop} [Decidable P] (h : P) : bit P = 1 := if_pos h
theorem bit_f {P : Prop} [Decidable P] (h : ¬ P) : bit P = 0 := if_neg h
theorem nar_bit (P : Prop) [Decidable P] : nar .boolean (bit P) = bit P := by unfold bit; split <;> rfl
theorem bit_ne {P : Prop} [Decidable P] : ¬ bit P = 0 ↔ P := by unfold bit; split <;> simp_all
theorem bit_eq {P R : Prop} [Decidable P] [Decidable R] : bit P = bit R ↔ (P ↔ R) := by unfold bit; split <;> split <;> simp_all
theorem own_selPriv {Z s : State} {a0 args : Array Value} {y : MethodName} {n : Nat} (hZ : Z.Warmed39 s.vm) (wi : (Cond.instantiable y.cls n).before a0 Z = true) (wp : (Cond.privateMethod y).before a0 Z = true) (wm : (Cond.instanceMethod y).before a0 Z = true) (hy : y.cls ≠ "java/lang/invoke/MethodHandle" ∧ y.cls ≠ "java/lang/invoke/VarHandle") : (Cond.selects y.cls y y).before args s = true := by
  obtain ⟨c, k, h1, h2, h3, h4, -⟩ := Cond.instantiable_spec (mv hZ wi : (Cond.instantiable y.cls n).before args s = true)
  exact selects_self_of_private h1 h2 (Bool.or_eq_false_iff.mp h4).1 (Cond.privateMethod_at (mvP hZ wp (args := args))) (mv hZ wm) hy
theorem own_fldI {s : State} {args : Array Value} {t : Term} {a : Addr} {C n d : String} {k : Int32} (ev : t.eval args s none [] s = some (.ref a)) (h : (Jvm.Cond.eq (Term.field t C n d) (Term.int k)).value args s none s [] = some true) : Fld s s.heap a C n d (.int k) := by
  obtain ⟨x, y, h1, h2, h3, h4⟩ := cmp_v (Or.inl h)
  obtain rfl : Value.int k = y := Option.some.inj h2
  obtain ⟨z, rfl⟩ := h4
  have q : z = k := by simpa [Cond.value, h1, h2] using h
  subst q
  exact Fld.start ((fld_at ev).symm.trans h1)
end Jvm.RoadKit
/- laws to paste: Road.backV, Road.eqW, Road.codOf (cut by pick.py; bodies as the Statement names them) -/
namespace Jvm.Pilot.@@N@@
namespace StrChars
open Jvm Sem ClassFile Op Lib Jvm.Stand Jvm.Free.XT Jvm.Free.ALB Jvm.Free.JM Jvm.Free
open Jvm.Lib.Cold (StaticIs)
/-- a char array whose places are chars -/
def Ch (a : Addr) (A : Cell) (U : State) : Prop := Arr .char a A U ∧ Typed .char A
theorem Ch.mv {a : Addr} {A : Cell} {U U' : State} (h : Ch a A U) (hal : U.vm.Alike U'.vm) (hh : U'.heap = U.heap) : Ch a A U' := ⟨h.1.mv hal hh, h.2⟩
theorem Ch.keep {a : Addr} {A : Cell} {U U' : State} (h : Ch a A U) (hal : U.vm.Alike U'.vm) (hk : U'.heap[a]? = some A) : Ch a A U' := ⟨h.1.keep hal hk, h.2⟩
/-- what place i of a char[]'s cell holds -/
def cv (A : Cell) (i : Nat) : Int32 := match A.slots[i]? with | some (.int x) => x | _ => 0
theorem Ch.get {a : Addr} {A : Cell} {U : State} (h : Ch a A U) {i : Nat} (hi : i < A.slots.size) : A.slots[i]? = some (.int (cv A i)) := by
  have e := Array.getElem?_eq_getElem hi
  have f := h.2 i _ e
  unfold cv; rw [e]
  generalize A.slots[i] = v at f
  cases v <;> simp [fits] at f ⊢
/-- the byte that i2b leaves of a char -/
def lo8 (x : Int32) : Int32 := x.toInt8.toInt32
theorem fits_lo8 (y : Int32) : fits .byte (.int (lo8 y)) = true := by
  have h1 := y.toInt8.le_toInt
  have h2 := y.toInt8.toInt_lt
  simp only [lo8, fits, Bool.and_eq_true, decide_eq_true_eq, Int32.le_iff_toInt_le, Int8.toInt_toInt32, show (-128 : Int32).toInt = -128 from by decide, show (127 : Int32).toInt = 127 from by decide]
  omega
/-- A' is A but that each place j of lo .. hi - 1 holds f j -/
def Laid (A A' : Cell) (lo hi : Nat) (f : Nat → Value) : Prop := A'.cls = A.cls ∧ A'.vm = A.vm ∧ A'.slots.size = A.slots.size ∧ ∀ i, A'.slots[i]? = if lo ≤ i ∧ i < hi then some (f i) else A.slots[i]?
theorem Laid.zero (A : Cell) (lo : Nat) (f : Nat → Value) : Laid A A lo (lo + 0) f := ⟨rfl, rfl, rfl, fun i => by rw [if_neg (by omega)]⟩
theorem Laid.step {A Ak : Cell} {lo k : Nat} {f : Nat → Value} {v : Value} (h : Laid A Ak lo k f) (hlo : lo ≤ k) (hk : k < Ak.slots.size) (hv : v = f k) : Laid A (Ak.setSlot k v) lo (k + 1) f := by
  refine ⟨h.1, h.2.1, by simpa [Cell.setSlot] using h.2.2.1, fun i => ?_⟩
  by_cases e : k = i
  · subst e; rw [Cell.slots_setSlot_self v hk, if_pos (by omega), hv]
  · rw [Cell.slots_setSlot_ne v e, h.2.2.2 i]
    by_cases q : lo ≤ i ∧ i < k
    · rw [if_pos q, if_pos (by omega)]
    · rw [if_neg q, if_neg (by omega)]
def U16 : String := "java/lang/StringUTF16"
namespace Cmp5
def yN : MethodName := ⟨"java/lang/StringUTF16", "compress", "([CI[BII)I"⟩
abbrev yB : ByteArray := jdk_52_method_21_code
theorem d0 : decode yB 0 = .ok (.iconst 0, 1) := by decide +kernel
theorem d1 : decode yB 1 = .ok (.istore 5, 2) := by decide +kernel
theorem d3 : decode yB 3 = .ok (.iload 5, 2) := by decide +kernel
theorem d5 : decode yB 5 = .ok (.iload 4, 2) := by decide +kernel
theorem d7 : decode yB 7 = .ok (.if_icmp (.ge) 37, 3) := by decide +kernel
theorem d10 : decode yB 10 = .ok (.aload_n 0, 1) := by decide +kernel
theorem d11 : decode yB 11 = .ok (.iload_n 1, 1) := by decide +kernel
theorem d12 : decode yB 12 = .ok (.caload, 1) := by decide +kernel
theorem d13 : decode yB 13 = .ok (.istore 6, 2) := by decide +kernel
theorem d15 : decode yB 15 = .ok (.iload 6, 2) := by decide +kernel
theorem d17 : decode yB 17 = .ok (.sipush 255, 3) := by decide +kernel
theorem d20 : decode yB 20 = .ok (.if_icmp (.le) 6, 3) := by decide +kernel
theorem d26 : decode yB 26 = .ok (.aload_n 2, 1) := by decide +kernel
theorem d27 : decode yB 27 = .ok (.iload_n 3, 1) := by decide +kernel
theorem d28 : decode yB 28 = .ok (.iload 6, 2) := by decide +kernel
theorem d30 : decode yB 30 = .ok (.i2b, 1) := by decide +kernel
theorem d31 : decode yB 31 = .ok (.bastore, 1) := by decide +kernel
theorem d32 : decode yB 32 = .ok (.iinc 1 1, 3) := by decide +kernel
theorem d35 : decode yB 35 = .ok (.iinc 3 1, 3) := by decide +kernel
theorem d38 : decode yB 38 = .ok (.iinc 5 1, 3) := by decide +kernel
theorem d41 : decode yB 41 = .ok (.goto (-38), 3) := by decide +kernel
theorem d44 : decode yB 44 = .ok (.iload 4, 2) := by decide +kernel
theorem d46 : decode yB 46 = .ok (.ireturn, 1) := by decide +kernel
def site : List Cond := []
def tab : Cond := tabOf yN yB 7 (some .int) site
def P (b : Addr) (A : Cell) (d : Addr) (B : Cell) (o q len : Nat) (args : Array Value) (s : State) : Prop := args = #[.ref b, .int (Int32.ofNat o), .ref d, .int (Int32.ofNat q), .int (Int32.ofNat len)] ∧ Ch b A s ∧ Arr .byte d B s ∧ b ≠ d ∧ o + len ≤ A.slots.size ∧ q + len ≤ B.slots.size ∧ ∀ i, i < len → ¬ 255 < cv A (o + i)
def E (b : Addr) (A : Cell) (d : Addr) (B : Cell) (o q len : Nat) (r : Option Value) (s u : State) : Prop := r = some (.int (Int32.ofNat len)) ∧ ∃ B', Put d B' s u ∧ Laid B B' q (q + len) (fun j => Value.int (lo8 (cv A (o + (j - q)))))
/-- no char of the range above 255: len; the places written hold each char's low byte -/
theorem law (l : Launch) (b : Addr) (A : Cell) (d : Addr) (B : Cell) (o q len : Nat) : Law l yN 5 5 0 0 yB 7 (some .int) site (P b A d B o q len) (E b A d B o q len) (copyLocs d q len) 0 0 := by
  refine Law.of_walk (plainFor_of_name (by decide +kernel)) (by decide +kernel) (by decide +kernel) (by decide) (fun _ _ h => by rw [h.1]; rfl) (fun _ U U' hal hh h => ⟨h.1, h.2.1.mv hal hh, h.2.2.1.mv hal hh, h.2.2.2⟩) (fun r U U' V V' h1 hal h2 h => ⟨h.1, h.2.elim fun B' q => ⟨B', q.1.mv h1 h2, q.2⟩⟩) ?_
  intro p e s m args below meth c s₁ X0 hexec hbytes hml hret hlk hnm hown hh0 W hP
  obtain ⟨rfl, hA, hB, hne, l1, l2, hp⟩ := hP
  have c1 : Steps p.tables e below (s₁.setTop (entryFrame m #[.ref b, .int (Int32.ofNat o), .ref d, .int (Int32.ofNat q), .int (Int32.ofNat len)] 7)) (s₁.setTop (mkF m 0 #[.val (.ref b), .val (.int (Int32.ofNat o)), .val (.ref d), .val (.int (Int32.ofNat q)), .val (.int (Int32.ofNat len)), .unset, .unset] [])) := entry rfl
  have hA0 := hA.1.mv X0.warmed.alike hh0
  have hB0 := hB.mv X0.warmed.alike hh0
  have a31 := hA.1.2.2.2
  have c2 : Steps p.tables e below (s₁.setTop (entryFrame m #[.ref b, .int (Int32.ofNat o), .ref d, .int (Int32.ofNat q), .int (Int32.ofNat len)] 7)) (s₁.setTop (mkF m 3 #[.val (.ref b), .val (.int (Int32.ofNat o)), .val (.ref d), .val (.int (Int32.ofNat q)), .val (.int (Int32.ofNat len)), .val (.int 0), .unset] [])) := c1.trans (by
    refine iconstV X0.here hexec rfl 0 (hb hbytes d0) (by decide) ?_
    refine XS.istore X0.here hexec rfl (hb hbytes d1) rfl rfl ?_
    exact Steps.refl _)
  have loop : ∀ (r i : Nat), i + r = len → ∀ (z : Slot), (z = .unset ∨ ∃ w, z = .val w ∧ w.category = 1) → ∀ (Tl : State) (Bk : Cell), Stand p l e { frames := 0, locals := 0, cells := 0, slots := 0 } s m #[.ref b, .int (Int32.ofNat o), .ref d, .int (Int32.ofNat q), .int (Int32.ofNat len)] below meth c Tl ([] ++ copyLocs d q i) 0 0 → Put d Bk s₁ Tl → Laid B Bk q (q + i) (fun j => Value.int (lo8 (cv A (o + (j - q))))) →
      Steps p.tables e below (s₁.setTop (entryFrame m #[.ref b, .int (Int32.ofNat o), .ref d, .int (Int32.ofNat q), .int (Int32.ofNat len)] 7)) (Tl.setTop (mkF m 3 #[.val (.ref b), .val (.int (Int32.ofNat (o + i))), .val (.ref d), .val (.int (Int32.ofNat (q + i))), .val (.int (Int32.ofNat len)), .val (.int (Int32.ofNat i)), z] [])) → ∃ (T' : State) (B' : Cell) (z' : Slot), Stand p l e { frames := 0, locals := 0, cells := 0, slots := 0 } s m #[.ref b, .int (Int32.ofNat o), .ref d, .int (Int32.ofNat q), .int (Int32.ofNat len)] below meth c T' ([] ++ copyLocs d q len) 0 0 ∧ Put d B' s₁ T' ∧ Laid B B' q (q + len) (fun j => Value.int (lo8 (cv A (o + (j - q))))) ∧
      Steps p.tables e below (s₁.setTop (entryFrame m #[.ref b, .int (Int32.ofNat o), .ref d, .int (Int32.ofNat q), .int (Int32.ofNat len)] 7)) (T'.setTop (mkF m 3 #[.val (.ref b), .val (.int (Int32.ofNat (o + len))), .val (.ref d), .val (.int (Int32.ofNat (q + len))), .val (.int (Int32.ofNat len)), .val (.int (Int32.ofNat len)), z'] [])) := by
    intro r
    induction r with
    | zero =>
      intro i hi z hz Tl Bk Xl pl fl cl
      have hil : i = len := by omega
      rw [hil] at Xl fl cl
      exact ⟨Tl, Bk, z, Xl, pl, fl, cl⟩
    | succ r ih =>
      intro i hi z hz Tl Bk Xl pl fl cl
      have all := X0.warmed.alike.symm.trans Xl.warmed.alike
      have hAl := hA0.keep all (pl.other hne hA0.1)
      have hBk := hB0.like all pl.1 fl.1 fl.2.1 fl.2.2.1
      have hlt : q + i < Bk.slots.size := by rw [fl.2.2.1]; omega
      have c3 : Steps p.tables e below (s₁.setTop (entryFrame m #[.ref b, .int (Int32.ofNat o), .ref d, .int (Int32.ofNat q), .int (Int32.ofNat len)] 7)) (Tl.setTop (mkF m 12 #[.val (.ref b), .val (.int (Int32.ofNat (o + i))), .val (.ref d), .val (.int (Int32.ofNat (q + i))), .val (.int (Int32.ofNat len)), .val (.int (Int32.ofNat i)), z] [.int (Int32.ofNat (o + i)), .ref b])) := cl.trans (by
        refine XS.iload Xl.here hexec rfl (hb hbytes d3) rfl ?_
        refine XS.iload Xl.here hexec rfl (hb hbytes d5) rfl ?_
        refine XS.icmpNo Xl.here hexec rfl (hb hbytes d7) rfl (ii_ge_f (lt32 (by omega) (by omega))) ?_
        refine XS.aloadN Xl.here hexec rfl (hb hbytes d10) rfl rfl ?_
        refine XS.iloadN Xl.here hexec rfl (hb hbytes d11) rfl ?_
        exact Steps.refl _)
      have c4 : Steps p.tables e below (s₁.setTop (entryFrame m #[.ref b, .int (Int32.ofNat o), .ref d, .int (Int32.ofNat q), .int (Int32.ofNat len)] 7)) (Tl.setTop (mkF m 13 #[.val (.ref b), .val (.int (Int32.ofNat (o + i))), .val (.ref d), .val (.int (Int32.ofNat (q + i))), .val (.int (Int32.ofNat len)), .val (.int (Int32.ofNat i)), z] [.int (cv A (o + i))])) := c3.trans (by
        refine Xl.aget hexec hAl rfl (hA.get (i := o + i) (by omega)) rfl rfl (hb hbytes d12) ?_
        exact Steps.refl _)
      have c5 : Steps p.tables e below (s₁.setTop (entryFrame m #[.ref b, .int (Int32.ofNat o), .ref d, .int (Int32.ofNat q), .int (Int32.ofNat len)] 7)) (Tl.setTop (mkF m 15 #[.val (.ref b), .val (.int (Int32.ofNat (o + i))), .val (.ref d), .val (.int (Int32.ofNat (q + i))), .val (.int (Int32.ofNat len)), .val (.int (Int32.ofNat i)), .val (.int (cv A (o + i)))] [])) := c4.trans (by
        refine XS.istoreS Xl.here hexec rfl (hb hbytes d13) rfl rfl hz ?_
        exact Steps.refl _)
      have c6 : Steps p.tables e below (s₁.setTop (entryFrame m #[.ref b, .int (Int32.ofNat o), .ref d, .int (Int32.ofNat q), .int (Int32.ofNat len)] 7)) (Tl.setTop (mkF m 31 #[.val (.ref b), .val (.int (Int32.ofNat (o + i))), .val (.ref d), .val (.int (Int32.ofNat (q + i))), .val (.int (Int32.ofNat len)), .val (.int (Int32.ofNat i)), .val (.int (cv A (o + i)))] [.int (lo8 (cv A (o + i))), .int (Int32.ofNat (q + i)), .ref d])) := c5.trans (by
        refine XS.iload Xl.here hexec rfl (hb hbytes d15) rfl ?_
        refine sipushV Xl.here hexec rfl 255 (hb hbytes d17) (by decide) ?_
        refine XS.icmpYes Xl.here hexec rfl (pc0 := 20) rfl (hb hbytes d20) rfl (ii_le_t (hp i (by omega))) (by decide) rfl ?_
        refine XS.aloadN Xl.here hexec rfl (hb hbytes d26) rfl rfl ?_
        refine XS.iloadN Xl.here hexec rfl (hb hbytes d27) rfl ?_
        refine XS.iload Xl.here hexec rfl (hb hbytes d28) rfl ?_
        refine i2b Xl.here hexec rfl (hb hbytes d30) rfl ?_
        exact Steps.refl _)
      obtain ⟨T7, X7, p7, st7⟩ := Xl.aput hexec hBk rfl hlt rfl (fits_lo8 (cv A (o + i))) (g := (mkF m 31 #[.val (.ref b), .val (.int (Int32.ofNat (o + i))), .val (.ref d), .val (.int (Int32.ofNat (q + i))), .val (.int (Int32.ofNat len)), .val (.int (Int32.ofNat i)), .val (.int (cv A (o + i)))] [.int (lo8 (cv A (o + i))), .int (Int32.ofNat (q + i)), .ref d])) rfl (rest := []) rfl (hb hbytes d31)
      have c8 : Steps p.tables e below (s₁.setTop (entryFrame m #[.ref b, .int (Int32.ofNat o), .ref d, .int (Int32.ofNat q), .int (Int32.ofNat len)] 7)) (T7.setTop (mkF m 32 #[.val (.ref b), .val (.int (Int32.ofNat (o + i))), .val (.ref d), .val (.int (Int32.ofNat (q + i))), .val (.int (Int32.ofNat len)), .val (.int (Int32.ofNat i)), .val (.int (cv A (o + i)))] [])) := c6.trans (st7 _ (Steps.refl _))
      have c9 : Steps p.tables e below (s₁.setTop (entryFrame m #[.ref b, .int (Int32.ofNat o), .ref d, .int (Int32.ofNat q), .int (Int32.ofNat len)] 7)) (T7.setTop (mkF m 3 #[.val (.ref b), .val (.int (Int32.ofNat (o + i) + 1)), .val (.ref d), .val (.int (Int32.ofNat (q + i) + 1)), .val (.int (Int32.ofNat len)), .val (.int (Int32.ofNat i + 1)), .val (.int (cv A (o + i)))] [])) := c8.trans (by
        refine iincV X7.here hexec rfl 1 (hb hbytes d32) (by decide) rfl rfl ?_
        refine iincV X7.here hexec rfl 1 (hb hbytes d35) (by decide) rfl rfl ?_
        refine iincV X7.here hexec rfl 1 (hb hbytes d38) (by decide) rfl rfl ?_
        refine XS.goto X7.here hexec rfl (pc0 := 41) rfl (hb hbytes d41) (by decide) rfl ?_
        exact Steps.refl _)
      have c10 : Steps p.tables e below (s₁.setTop (entryFrame m #[.ref b, .int (Int32.ofNat o), .ref d, .int (Int32.ofNat q), .int (Int32.ofNat len)] 7)) (T7.setTop (mkF m 3 #[.val (.ref b), .val (.int (Int32.ofNat (o + (i + 1)))), .val (.ref d), .val (.int (Int32.ofNat (q + (i + 1)))), .val (.int (Int32.ofNat len)), .val (.int (Int32.ofNat (i + 1))), .val (.int (cv A (o + i)))] [])) := by
        have := c9
        rw [succ32, succ32, succ32] at this
        exact this
      exact ih (i + 1) (by omega) _ (Or.inr ⟨_, rfl, rfl⟩) T7 _ (by rw [copyLocs_step, ← List.append_assoc]; exact X7) (pl.trans p7) (fl.step (by omega) hlt (by simp)) c10
  obtain ⟨T9, B9, z9, X9, p9, f9, g9⟩ := loop len 0 (by omega) .unset (Or.inl rfl) s₁ B (by simpa [copyLocs] using X0) ⟨hB0.1, fun _ _ => rfl, rfl⟩ (Laid.zero _ _ _) c2
  have c11 : Steps p.tables e below (s₁.setTop (entryFrame m #[.ref b, .int (Int32.ofNat o), .ref d, .int (Int32.ofNat q), .int (Int32.ofNat len)] 7)) (T9.setTop (mkF m 46 #[.val (.ref b), .val (.int (Int32.ofNat (o + len))), .val (.ref d), .val (.int (Int32.ofNat (q + len))), .val (.int (Int32.ofNat len)), .val (.int (Int32.ofNat len)), z9] [.int (Int32.ofNat len)])) := g9.trans (by
    refine XS.iload X9.here hexec rfl (hb hbytes d3) rfl ?_
    refine XS.iload X9.here hexec rfl (hb hbytes d5) rfl ?_
    refine XS.icmpYes X9.here hexec rfl (pc0 := 7) rfl (hb hbytes d7) rfl (ii_ge_t (nlt32 (by omega) (Nat.le_refl _))) (by decide) rfl ?_
    refine XS.iload X9.here hexec rfl (hb hbytes d44) rfl ?_
    exact Steps.refl _)
  exact ⟨T9, some (.int (Int32.ofNat len)), _, _, _, X9, by simp, rfl, rfl, (fun h => by cases h), ⟨rfl, B9, p9.from hh0, f9⟩, fun fs hl => c11.trans (X9.ireturnOut hexec hret rfl (Or.inl rfl) (hb hbytes d46) hl)⟩
end Cmp5
namespace Cmp3
def yN : MethodName := ⟨"java/lang/StringUTF16", "compress", "([CII)[B"⟩
abbrev yB : ByteArray := jdk_52_method_16_code
theorem d0 : decode yB 0 = .ok (.iload_n 2, 1) := by decide +kernel
theorem d1 : decode yB 1 = .ok (.newarray .byte, 2) := by decide +kernel
theorem d3 : decode yB 3 = .ok (.astore_n 3, 1) := by decide +kernel
theorem d4 : decode yB 4 = .ok (.aload_n 0, 1) := by decide +kernel
theorem d5 : decode yB 5 = .ok (.iload_n 1, 1) := by decide +kernel
theorem d6 : decode yB 6 = .ok (.aload_n 3, 1) := by decide +kernel
theorem d7 : decode yB 7 = .ok (.iconst 0, 1) := by decide +kernel
theorem d8 : decode yB 8 = .ok (.iload_n 2, 1) := by decide +kernel
theorem d9 : decode yB 9 = .ok (.invokestatic 115, 3) := by decide +kernel
theorem d12 : decode yB 12 = .ok (.istore 4, 2) := by decide +kernel
theorem d14 : decode yB 14 = .ok (.iload 4, 2) := by decide +kernel
theorem d16 : decode yB 16 = .ok (.iload_n 2, 1) := by decide +kernel
theorem d17 : decode yB 17 = .ok (.if_icmp (.eq) 40, 3) := by decide +kernel
theorem d57 : decode yB 57 = .ok (.aload_n 3, 1) := by decide +kernel
theorem d58 : decode yB 58 = .ok (.areturn, 1) := by decide +kernel
def site : List Cond := [.arrayClass .byte, Cmp5.tab] ++ staticW U16 115 Cmp5.yN
def tab : Cond := tabOf yN yB 6 (some (.array .byte)) site
def P (b : Addr) (A : Cell) (o len : Nat) (args : Array Value) (s : State) : Prop := args = #[.ref b, .int (Int32.ofNat o), .int (Int32.ofNat len)] ∧ Ch b A s ∧ o + len ≤ A.slots.size ∧ len ≤ 536870912 ∧ ∀ i, i < len → ¬ 255 < cv A (o + i)
def E (b : Addr) (A : Cell) (o len : Nat) (r : Option Value) (s u : State) : Prop := NewArr .byte "[B" len (fun j => .int (lo8 (cv A (o + j)))) r s u ∧ u.heap.size = s.heap.size + 1
/-- no char of the range above 255: a new byte[] of their low bytes -/
theorem law (l : Launch) (b : Addr) (A : Cell) (o len : Nat) : Law l yN 3 3 1 18 yB 6 (some (.array .byte)) site (P b A o len) (E b A o len) [] 1 len := by
  refine Law.of_walk (plainFor_of_name (by decide +kernel)) (by decide +kernel) (by decide +kernel) (by decide) (fun _ _ h => by rw [h.1]; rfl) (fun _ U U' hal hh h => ⟨h.1, h.2.1.mv hal hh, h.2.2⟩) (fun r U U' V V' h1 hal h2 h => ⟨NewArr.mv r U U' V V' h1 hal h2 h.1, by rw [h1, h2]; exact h.2⟩) ?_
  intro p e s m args below meth c s₁ X0 hexec hbytes hml hret hlk hnm hown hh0 W hP
  obtain ⟨rfl, hA, l1, l2, hp⟩ := hP
  have a31 := hA.1.2.2.2
  have c1 : Steps p.tables e below (s₁.setTop (entryFrame m #[.ref b, .int (Int32.ofNat o), .int (Int32.ofNat len)] 6)) (s₁.setTop (mkF m 0 #[.val (.ref b), .val (.int (Int32.ofNat o)), .val (.int (Int32.ofNat len)), .unset, .unset, .unset] [])) := entry rfl
  have c2 : Steps p.tables e below (s₁.setTop (entryFrame m #[.ref b, .int (Int32.ofNat o), .int (Int32.ofNat len)] 6)) (s₁.setTop (mkF m 1 #[.val (.ref b), .val (.int (Int32.ofNat o)), .val (.int (Int32.ofNat len)), .unset, .unset, .unset] [.int (Int32.ofNat len)])) := c1.trans (by
    refine XS.iloadN X0.here hexec rfl (hb hbytes d0) rfl ?_
    exact Steps.refl _)
  obtain ⟨T3, B3, X3, ba3, bs3, bv3, bh3, bf3, st3⟩ := X0.anew hexec (atype := .byte) (wk W (.arrayClass .byte)) rfl (by show len * 1 ≤ _; omega) (by omega) (g := (mkF m 1 #[.val (.ref b), .val (.int (Int32.ofNat o)), .val (.int (Int32.ofNat len)), .unset, .unset, .unset] [.int (Int32.ofNat len)])) rfl (hb hbytes d1) (rest := []) rfl (Nat.le_refl _) (by show 0 + len ≤ len; omega)
  rw [hh0] at ba3 st3
  have kp3 : XT.Kept s T3 := (XT.Kept.of_eq hh0).push bh3
  have hA3 := hA.keep X3.warmed.alike (kp3 _ _ hA.1.1)
  have hne : b ≠ s.heap.size := hA.1.ne
  have c4 : Steps p.tables e below (s₁.setTop (entryFrame m #[.ref b, .int (Int32.ofNat o), .int (Int32.ofNat len)] 6)) (T3.setTop (mkF m 3 #[.val (.ref b), .val (.int (Int32.ofNat o)), .val (.int (Int32.ofNat len)), .unset, .unset, .unset] [.ref s.heap.size])) := c2.trans (st3 _ (Steps.refl _))
  have c5 : Steps p.tables e below (s₁.setTop (entryFrame m #[.ref b, .int (Int32.ofNat o), .int (Int32.ofNat len)] 6)) (T3.setTop (mkF m 9 #[.val (.ref b), .val (.int (Int32.ofNat o)), .val (.int (Int32.ofNat len)), .val (.ref s.heap.size), .unset, .unset] [.int (Int32.ofNat len), .int 0, .ref s.heap.size, .int (Int32.ofNat o), .ref b])) := c4.trans (by
    refine XS.astoreN X3.here hexec rfl (hb hbytes d3) rfl rfl rfl ?_
    refine XS.aloadN X3.here hexec rfl (hb hbytes d4) rfl rfl ?_
    refine XS.iloadN X3.here hexec rfl (hb hbytes d5) rfl ?_
    refine XS.aloadN X3.here hexec rfl (hb hbytes d6) rfl rfl ?_
    refine iconstV X3.here hexec rfl 0 (hb hbytes d7) (by decide) ?_
    refine XS.iloadN X3.here hexec rfl (hb hbytes d8) rfl ?_
    exact Steps.refl _)
  obtain ⟨v6, T6, X6, E6, g6⟩ := X3.callS hexec (Cmp5.law l b A s.heap.size B3 o 0 len) hown (wks W (staticW U16 115 Cmp5.yN)) (wk W Cmp5.tab) (W := 0) (Nat.le_of_ble_eq_true rfl) (Nat.le_of_ble_eq_true rfl) (Nat.le_refl _) (by show 0 + len + 0 ≤ len; omega) (g := (mkF m 9 #[.val (.ref b), .val (.int (Int32.ofNat o)), .val (.int (Int32.ofNat len)), .val (.ref s.heap.size), .unset, .unset] [.int (Int32.ofNat len), .int (Int32.ofNat 0), .ref s.heap.size, .int (Int32.ofNat o), .ref b])) rfl (by rw [hml]; rfl) c5 (argsL := [.ref b, .int (Int32.ofNat o), .ref s.heap.size, .int (Int32.ofNat 0), .int (Int32.ofNat len)]) (rest := []) rfl rfl (by show 2 * 0 + 0 ≤ _; decide) (hb hbytes d9) (⟨rfl, hA3, ba3, hne, l1, by rw [bs3]; simp, hp⟩)
  obtain ⟨rfl, B6, p6, f6⟩ := E6
  have c7 : Steps p.tables e below (s₁.setTop (entryFrame m #[.ref b, .int (Int32.ofNat o), .int (Int32.ofNat len)] 6)) (T6.setTop (mkF m 12 #[.val (.ref b), .val (.int (Int32.ofNat o)), .val (.int (Int32.ofNat len)), .val (.ref s.heap.size), .unset, .unset] [.int (Int32.ofNat len)])) := g6
  have c8 : Steps p.tables e below (s₁.setTop (entryFrame m #[.ref b, .int (Int32.ofNat o), .int (Int32.ofNat len)] 6)) (T6.setTop (mkF m 58 #[.val (.ref b), .val (.int (Int32.ofNat o)), .val (.int (Int32.ofNat len)), .val (.ref s.heap.size), .val (.int (Int32.ofNat len)), .unset] [.ref s.heap.size])) := c7.trans (by
    refine XS.istore X6.here hexec rfl (hb hbytes d12) rfl rfl ?_
    refine XS.iload X6.here hexec rfl (hb hbytes d14) rfl ?_
    refine XS.iloadN X6.here hexec rfl (hb hbytes d16) rfl ?_
    refine XS.icmpYes X6.here hexec rfl (pc0 := 17) rfl (hb hbytes d17) rfl (ii_eq_t rfl) (by decide) rfl ?_
    refine XS.aloadN X6.here hexec rfl (hb hbytes d57) rfl rfl ?_
    exact Steps.refl _)
  have X8 := X6.wide (L' := []) (cells' := 1) (slots' := len) (fun x hx hlt => by
    simp only [List.nil_append, copyLocs, List.mem_map, List.mem_range] at hx
    obtain ⟨i, -, rfl⟩ := hx
    exact absurd hlt (Nat.lt_irrefl _)) (Nat.le_refl _) (by omega)
  exact ⟨T6, some (.ref s.heap.size), _, _, _, X8, rfl, rfl, rfl, (fun h => by cases h), ⟨⟨rfl, B6, ba3.like (X3.warmed.alike.symm.trans X6.warmed.alike) p6.1 f6.1 f6.2.1 f6.2.2.1, f6.2.1.trans bv3, by rw [X6.warmed.alike.findClass, f6.1]; exact bf3, by rw [f6.2.2.1, bs3]; simp, fun j hj => by rw [f6.2.2.2 j, if_pos (by omega)]; rfl, kp3.put p6 (Nat.le_refl _)⟩, by rw [p6.2.2, bh3, hh0]; simp⟩, fun fs hl => c8.trans (X8.areturnOut hexec rfl hret rfl (hb hbytes d58) hl)⟩
end Cmp3
namespace CodL
def yN : MethodName := ⟨"java/lang/StringUTF16", "coderFromArrayLen", "([BI)B"⟩
abbrev yB : ByteArray := jdk_52_method_15_code
theorem d0 : decode yB 0 = .ok (.iload_n 1, 1) := by decide +kernel
theorem d1 : decode yB 1 = .ok (.aload_n 0, 1) := by decide +kernel
theorem d2 : decode yB 2 = .ok (.arraylength, 1) := by decide +kernel
theorem d3 : decode yB 3 = .ok (.isub, 1) := by decide +kernel
theorem d4 : decode yB 4 = .ok (.bipush 31, 2) := by decide +kernel
theorem d6 : decode yB 6 = .ok (.iushr, 1) := by decide +kernel
theorem d7 : decode yB 7 = .ok (.i2b, 1) := by decide +kernel
theorem d8 : decode yB 8 = .ok (.ireturn, 1) := by decide +kernel
def site : List Cond := []
def tab : Cond := tabOf yN yB 2 (some .byte) site
def P (d : Addr) (B : Cell) (args : Array Value) (s : State) : Prop := args = #[.ref d, .int (Int32.ofNat B.slots.size)] ∧ Arr .byte d B s
def E (r : Option Value) (s u : State) : Prop := XT.PureE (some (.int 0)) r s u
/-- an array as long as the number of chars: LATIN1 -/
theorem law (l : Launch) (d : Addr) (B : Cell) : Law l yN 2 2 0 0 yB 2 (some .byte) site (P d B) E [] 0 0 := by
  refine Law.of_walk (plainFor_of_name (by decide +kernel)) (by decide +kernel) (by decide +kernel) (by decide) (fun _ _ h => by rw [h.1]; rfl) (fun _ U U' hal hh h => ⟨h.1, h.2.mv hal hh⟩) (fun r U U' V V' h1 hal h2 h => XT.PureE.mv r U U' V V' h1 hal h2 h) ?_
  intro p e s m args below meth c s₁ X0 hexec hbytes hml hret hlk hnm hown hh0 W hP
  obtain ⟨rfl, hB⟩ := hP
  have hB0 := hB.mv X0.warmed.alike hh0
  have c1 : Steps p.tables e below (s₁.setTop (entryFrame m #[.ref d, .int (Int32.ofNat B.slots.size)] 2)) (s₁.setTop (mkF m 0 #[.val (.ref d), .val (.int (Int32.ofNat B.slots.size))] [])) := entry rfl
  have c2 : Steps p.tables e below (s₁.setTop (entryFrame m #[.ref d, .int (Int32.ofNat B.slots.size)] 2)) (s₁.setTop (mkF m 2 #[.val (.ref d), .val (.int (Int32.ofNat B.slots.size))] [.ref d, .int (Int32.ofNat B.slots.size)])) := c1.trans (by
    refine XS.iloadN X0.here hexec rfl (hb hbytes d0) rfl ?_
    refine XS.aloadN X0.here hexec rfl (hb hbytes d1) rfl rfl ?_
    exact Steps.refl _)
  have c3 : Steps p.tables e below (s₁.setTop (entryFrame m #[.ref d, .int (Int32.ofNat B.slots.size)] 2)) (s₁.setTop (mkF m 8 #[.val (.ref d), .val (.int (Int32.ofNat B.slots.size))] [.int (lo8 (ushr (Int32.ofNat B.slots.size - Int32.ofNat B.slots.size) 31))])) := c2.trans (by
    refine X0.alen hexec hB0 rfl rfl (hb hbytes d2) ?_
    refine XS.isub X0.here hexec rfl (hb hbytes d3) rfl ?_
    refine bipushV X0.here hexec rfl 31 (hb hbytes d4) (by decide) ?_
    refine iushr X0.here hexec rfl (hb hbytes d6) rfl ?_
    refine i2b X0.here hexec rfl (hb hbytes d7) rfl ?_
    exact Steps.refl _)
  have e0 : lo8 (ushr (Int32.ofNat B.slots.size - Int32.ofNat B.slots.size) 31) = 0 := by rw [Int32.sub_self]; decide
  rw [e0] at c3
  exact ⟨s₁, some (.int 0), _, _, _, X0, rfl, rfl, rfl, (fun h => by cases h), ⟨rfl, hh0⟩, fun fs hl => c3.trans (X0.ireturnOut hexec hret rfl (Or.inr (Or.inr (Or.inl rfl))) (hb hbytes d8) hl)⟩
end CodL
/-- the String at a is Latin-1 over a new byte[] (the heap's one new cell): the low bytes of the len chars of A from o on; every cell but a is kept -/
def Got (a : Addr) (D : Cell) (fV fC : Field) (A : Cell) (o len : Nat) (r : Option Value) (s u : State) : Prop := r = none ∧ ∃ D' V : Cell, Blank "java/lang/String" a D' u ∧ Same D D' [fV.slot, fC.slot] ∧ D'.slots[fV.slot]? = some (.ref s.heap.size) ∧ D'.slots[fC.slot]? = some (.int 0) ∧ Arr .byte s.heap.size V u ∧ V.vm = .none ∧ u.vm.findClass "[B" = some V.cls ∧ V.slots.size = len ∧ (∀ j, j < len → V.slots[j]? = some (.int (lo8 (cv A (o + j))))) ∧ (∀ (y : Addr) (c : Cell), y ≠ a → s.heap[y]? = some c → u.heap[y]? = some c) ∧ u.heap.size = s.heap.size + 1
theorem Got.mv {a : Addr} {D A : Cell} {fV fC : Field} {o len : Nat} : ∀ r (U U' V V' : State), U'.heap = U.heap → V.vm.Alike V'.vm → V'.heap = V.heap → Got a D fV fC A o len r U V → Got a D fV fC A o len r U' V' :=
  fun r U U' V V' h1 hal h2 ⟨e0, D', X, a1, a2, a3, a4, a5, a6, a7, a8, a9, a10, a11⟩ => ⟨e0, D', X, a1.mv hal h2, a2, by rw [h1]; exact a3, a4, by rw [h1]; exact a5.mv hal h2, a6, by rw [hal.findClass]; exact a7, a8, a9, by rw [h1, h2]; exact a10, by rw [h1, h2]; exact a11⟩
namespace New4
def yN : MethodName := ⟨"java/lang/String", "<init>", "([CIILjava/lang/Void;)V"⟩
abbrev yB : ByteArray := jdk_42_method_149_code
theorem d0 : decode yB 0 = .ok (.aload_n 0, 1) := by decide +kernel
theorem d1 : decode yB 1 = .ok (.invokespecial 1, 3) := by decide +kernel
theorem d4 : decode yB 4 = .ok (.iload_n 3, 1) := by decide +kernel
theorem d5 : decode yB 5 = .ok (.ifCond (.ne) 22, 3) := by decide +kernel
theorem d27 : decode yB 27 = .ok (.getstatic 38, 3) := by decide +kernel
theorem d30 : decode yB 30 = .ok (.ifCond (.eq) 28, 3) := by decide +kernel
theorem d33 : decode yB 33 = .ok (.aload_n 1, 1) := by decide +kernel
theorem d34 : decode yB 34 = .ok (.iload_n 2, 1) := by decide +kernel
theorem d35 : decode yB 35 = .ok (.iload_n 3, 1) := by decide +kernel
theorem d36 : decode yB 36 = .ok (.invokestatic 177, 3) := by decide +kernel
theorem d39 : decode yB 39 = .ok (.astore 5, 2) := by decide +kernel
theorem d41 : decode yB 41 = .ok (.aload_n 0, 1) := by decide +kernel
theorem d42 : decode yB 42 = .ok (.aload 5, 2) := by decide +kernel
theorem d44 : decode yB 44 = .ok (.iload_n 3, 1) := by decide +kernel
theorem d45 : decode yB 45 = .ok (.invokestatic 47, 3) := by decide +kernel
theorem d48 : decode yB 48 = .ok (.putfield 15, 3) := by decide +kernel
theorem d51 : decode yB 51 = .ok (.aload_n 0, 1) := by decide +kernel
theorem d52 : decode yB 52 = .ok (.aload 5, 2) := by decide +kernel
theorem d54 : decode yB 54 = .ok (.putfield 9, 3) := by decide +kernel
theorem d57 : decode yB 57 = .ok (.return_, 1) := by decide +kernel
def site : List Cond := [.fieldLink "java/lang/String" 38 "java/lang/String" "COMPACT_STRINGS" "Z", Cmp3.tab, CodL.tab, .laysFinal "java/lang/String" "java/lang/String" "value" "[B", .fieldLink "java/lang/String" 9 "java/lang/String" "value" "[B", .laysFinal "java/lang/String" "java/lang/String" "coder" "B", .fieldLink "java/lang/String" 15 "java/lang/String" "coder" "B"] ++ objW "java/lang/String" 1 ++ staticW "java/lang/String" 177 Cmp3.yN ++ staticW "java/lang/String" 47 CodL.yN
def tab : Cond := tabOf yN yB 6 none site
def P (a : Addr) (D : Cell) (fV fC : Field) (b : Addr) (A : Cell) (z : Int32) (o len : Nat) (args : Array Value) (s : State) : Prop := args = #[.ref a, .ref b, .int (Int32.ofNat o), .int (Int32.ofNat len), .null] ∧ Blank "java/lang/String" a D s ∧ Found "java/lang/String" "value" "[B" fV s ∧ Found "java/lang/String" "coder" "B" fC s ∧ Ch b A s ∧ StaticIs s "java/lang/String" "COMPACT_STRINGS" "Z" (.int z) ∧ ¬ z = 0 ∧ 0 < len ∧ o + len ≤ A.slots.size ∧ len ≤ 536870912 ∧ ∀ i, i < len → ¬ 255 < cv A (o + i)
def E (a : Addr) (D : Cell) (fV fC : Field) (A : Cell) (o len : Nat) (r : Option Value) (s u : State) : Prop := Got a D fV fC A o len r s u
/-- len > 0, no char of the range above 255: a Latin-1 String of their low bytes -/
theorem law (l : Launch) (a : Addr) (D : Cell) (fV fC : Field) (b : Addr) (A : Cell) (z : Int32) (o len : Nat) : Law l yN 5 4 2 35 yB 6 none site (P a D fV fC b A z o len) (E a D fV fC A o len) [⟨a, fC.slot⟩, ⟨a, fV.slot⟩] 1 len := by
  refine Law.of_walk (plainFor_of_name (by decide +kernel)) (by decide +kernel) (by decide +kernel) (by decide) (fun _ _ h => by rw [h.1]; rfl) (fun _ U U' hal hh h => ⟨h.1, h.2.1.mv hal hh, h.2.2.1.al hal, h.2.2.2.1.al hal, h.2.2.2.2.1.mv hal hh, h.2.2.2.2.2.1.there hal hh, h.2.2.2.2.2.2⟩) (fun r U U' V V' h1 hal h2 h => Got.mv r U U' V V' h1 hal h2 h) ?_
  intro p e s m args below meth c s₁ X0 hexec hbytes hml hret hlk hnm hown hh0 W hP
  obtain ⟨rfl, hB, f1, f2, hA, s1, hz, l0, l1, l2, hp⟩ := hP
  have a31 := hA.1.2.2.2
  have c1 : Steps p.tables e below (s₁.setTop (entryFrame m #[.ref a, .ref b, .int (Int32.ofNat o), .int (Int32.ofNat len), .null] 6)) (s₁.setTop (mkF m 0 #[.val (.ref a), .val (.ref b), .val (.int (Int32.ofNat o)), .val (.int (Int32.ofNat len)), .val .null, .unset] [])) := entry rfl
  have c2 : Steps p.tables e below (s₁.setTop (entryFrame m #[.ref a, .ref b, .int (Int32.ofNat o), .int (Int32.ofNat len), .null] 6)) (s₁.setTop (mkF m 1 #[.val (.ref a), .val (.ref b), .val (.int (Int32.ofNat o)), .val (.int (Int32.ofNat len)), .val .null, .unset] [.ref a])) := c1.trans (by
    refine XS.aloadN X0.here hexec rfl (hb hbytes d0) rfl rfl ?_
    exact Steps.refl _)
  obtain ⟨T3, X3, q3, st3⟩ := X0.oinit hexec hown (wks W (objW "java/lang/String" 1)) (g := (mkF m 1 #[.val (.ref a), .val (.ref b), .val (.int (Int32.ofNat o)), .val (.int (Int32.ofNat len)), .val .null, .unset] [.ref a])) rfl (by rw [hml]; rfl) (rest := []) rfl (hb hbytes d1) (W := 0) (by show 2 * 0 + 0 ≤ _; decide) (Nat.le_of_ble_eq_true rfl) (Nat.le_of_ble_eq_true rfl)
  have hh3 := q3.trans hh0
  have c4 : Steps p.tables e below (s₁.setTop (entryFrame m #[.ref a, .ref b, .int (Int32.ofNat o), .int (Int32.ofNat len), .null] 6)) (T3.setTop (mkF m 27 #[.val (.ref a), .val (.ref b), .val (.int (Int32.ofNat o)), .val (.int (Int32.ofNat len)), .val .null, .unset] [])) := (c2.trans (st3 _ (Steps.refl _))).trans (by
    refine XS.iloadN X3.here hexec rfl (hb hbytes d4) rfl ?_
    refine XS.ifYes X3.here hexec rfl (pc0 := 5) rfl (hb hbytes d5) rfl (i0_ne_t (nz32 (by omega) l0)) (by decide) rfl ?_
    exact Steps.refl _)
  obtain ⟨T5, X5, q5, st5⟩ := X3.sget hexec hown (wk W (.fieldLink "java/lang/String" 38 "java/lang/String" "COMPACT_STRINGS" "Z")) s1 (fun _ _ h => by rw [hh3]; exact h) (g := (mkF m 27 #[.val (.ref a), .val (.ref b), .val (.int (Int32.ofNat o)), .val (.int (Int32.ofNat len)), .val .null, .unset] [])) rfl (hb hbytes d27)
  have hh5 := q5.trans hh3
  have c6 : Steps p.tables e below (s₁.setTop (entryFrame m #[.ref a, .ref b, .int (Int32.ofNat o), .int (Int32.ofNat len), .null] 6)) (T5.setTop (mkF m 30 #[.val (.ref a), .val (.ref b), .val (.int (Int32.ofNat o)), .val (.int (Int32.ofNat len)), .val .null, .unset] [.int z])) := c4.trans (st5 _ (Steps.refl _))
  have c7 : Steps p.tables e below (s₁.setTop (entryFrame m #[.ref a, .ref b, .int (Int32.ofNat o), .int (Int32.ofNat len), .null] 6)) (T5.setTop (mkF m 36 #[.val (.ref a), .val (.ref b), .val (.int (Int32.ofNat o)), .val (.int (Int32.ofNat len)), .val .null, .unset] [.int (Int32.ofNat len), .int (Int32.ofNat o), .ref b])) := c6.trans (by
    refine XS.ifNo X5.here hexec rfl (hb hbytes d30) rfl (i0_eq_f hz) ?_
    refine XS.aloadN X5.here hexec rfl (hb hbytes d33) rfl rfl ?_
    refine XS.iloadN X5.here hexec rfl (hb hbytes d34) rfl ?_
    refine XS.iloadN X5.here hexec rfl (hb hbytes d35) rfl ?_
    exact Steps.refl _)
  obtain ⟨v8, T8, X8, E8, g8⟩ := X5.callS hexec (Cmp3.law l b A o len) hown (wks W (staticW "java/lang/String" 177 Cmp3.yN)) (wk W Cmp3.tab) (W := 0) (Nat.le_of_ble_eq_true rfl) (Nat.le_of_ble_eq_true rfl) (Nat.le_refl _) (by show 0 + len ≤ len; omega) (g := (mkF m 36 #[.val (.ref a), .val (.ref b), .val (.int (Int32.ofNat o)), .val (.int (Int32.ofNat len)), .val .null, .unset] [.int (Int32.ofNat len), .int (Int32.ofNat o), .ref b])) rfl (by rw [hml]; rfl) c7 (argsL := [.ref b, .int (Int32.ofNat o), .int (Int32.ofNat len)]) (rest := []) rfl rfl (by show 2 * 0 + 0 ≤ _; decide) (hb hbytes d36) (⟨rfl, hA.mv X5.warmed.alike hh5, l1, l2, hp⟩)
  obtain ⟨e8, z8⟩ := E8
  obtain ⟨rfl, N, n1, n2, n3, n4, n5, n6⟩ := NewArr.mv _ T5 s _ _ hh5.symm (Vm.Alike.refl _) rfl e8
  rw [hh5] at z8
  have hB1 := hB.keep X8.warmed.alike (n6 _ _ hB.1)
  have hne : s.heap.size ≠ a := (Nat.ne_of_lt (Array.getElem?_eq_some_iff.mp hB.1).1).symm
  have c9 : Steps p.tables e below (s₁.setTop (entryFrame m #[.ref a, .ref b, .int (Int32.ofNat o), .int (Int32.ofNat len), .null] 6)) (T8.setTop (mkF m 39 #[.val (.ref a), .val (.ref b), .val (.int (Int32.ofNat o)), .val (.int (Int32.ofNat len)), .val .null, .unset] [.ref s.heap.size])) := g8
  have c10 : Steps p.tables e below (s₁.setTop (entryFrame m #[.ref a, .ref b, .int (Int32.ofNat o), .int (Int32.ofNat len), .null] 6)) (T8.setTop (mkF m 45 #[.val (.ref a), .val (.ref b), .val (.int (Int32.ofNat o)), .val (.int (Int32.ofNat len)), .val .null, .val (.ref s.heap.size)] [.int (Int32.ofNat N.slots.size), .ref s.heap.size, .ref a])) := by
    have hc : Steps p.tables e below (s₁.setTop (entryFrame m #[.ref a, .ref b, .int (Int32.ofNat o), .int (Int32.ofNat len), .null] 6)) (T8.setTop (mkF m 45 #[.val (.ref a), .val (.ref b), .val (.int (Int32.ofNat o)), .val (.int (Int32.ofNat len)), .val .null, .val (.ref s.heap.size)] [.int (Int32.ofNat len), .ref s.heap.size, .ref a])) := c9.trans (by
      refine XS.astore X8.here hexec rfl (hb hbytes d39) rfl rfl rfl ?_
      refine XS.aloadN X8.here hexec rfl (hb hbytes d41) rfl rfl ?_
      refine XS.aload X8.here hexec rfl (hb hbytes d42) rfl rfl ?_
      refine XS.iloadN X8.here hexec rfl (hb hbytes d44) rfl ?_
      exact Steps.refl _)
    rw [n4]; exact hc
  obtain ⟨v11, T11, X11, E11, g11⟩ := X8.callS hexec (CodL.law l s.heap.size N) hown (wks W (staticW "java/lang/String" 47 CodL.yN)) (wk W CodL.tab) (W := 1) (Nat.le_of_ble_eq_true rfl) (Nat.le_of_ble_eq_true rfl) (Nat.le_refl _) (by show 0 + len + 0 ≤ len; omega) (g := (mkF m 45 #[.val (.ref a), .val (.ref b), .val (.int (Int32.ofNat o)), .val (.int (Int32.ofNat len)), .val .null, .val (.ref s.heap.size)] [.int (Int32.ofNat N.slots.size), .ref s.heap.size, .ref a])) rfl (by rw [hml]; rfl) c10 (argsL := [.ref s.heap.size, .int (Int32.ofNat N.slots.size)]) (rest := [.ref a]) rfl rfl (by show 2 * 0 + (1 + 0) ≤ _; decide) (hb hbytes d45) (⟨rfl, n1⟩)
  obtain ⟨rfl, q11⟩ := E11
  have hB11 := hB1.mv (X8.warmed.alike.symm.trans X11.warmed.alike) q11
  have c12 : Steps p.tables e below (s₁.setTop (entryFrame m #[.ref a, .ref b, .int (Int32.ofNat o), .int (Int32.ofNat len), .null] 6)) (T11.setTop (mkF m 48 #[.val (.ref a), .val (.ref b), .val (.int (Int32.ofNat o)), .val (.int (Int32.ofNat len)), .val .null, .val (.ref s.heap.size)] [.int 0, .ref a])) := g11
  obtain ⟨T13, X13, p13, bl13, sl13, st13⟩ := X11.finit hexec hown (wk W (.fieldLink "java/lang/String" 15 "java/lang/String" "coder" "B")) (Or.inr ⟨_, (wk W (.laysFinal "java/lang/String" "java/lang/String" "coder" "B"))⟩) (Or.inl ⟨rfl, hnm⟩) f2 (Or.inl rfl) hB11 (t := .byte) (by decide +kernel) rfl (g := (mkF m 48 #[.val (.ref a), .val (.ref b), .val (.int (Int32.ofNat o)), .val (.int (Int32.ofNat len)), .val .null, .val (.ref s.heap.size)] [.int 0, .ref a])) rfl (rest := []) rfl (hb hbytes d48)
  have c14 : Steps p.tables e below (s₁.setTop (entryFrame m #[.ref a, .ref b, .int (Int32.ofNat o), .int (Int32.ofNat len), .null] 6)) (T13.setTop (mkF m 54 #[.val (.ref a), .val (.ref b), .val (.int (Int32.ofNat o)), .val (.int (Int32.ofNat len)), .val .null, .val (.ref s.heap.size)] [.ref s.heap.size, .ref a])) := (c12.trans (st13 _ (Steps.refl _))).trans (by
    refine XS.aloadN X13.here hexec rfl (hb hbytes d51) rfl rfl ?_
    refine XS.aload X13.here hexec rfl (hb hbytes d52) rfl rfl ?_
    exact Steps.refl _)
  obtain ⟨T15, X15, p15, bl15, sl15, st15⟩ := X13.finit hexec hown (wk W (.fieldLink "java/lang/String" 9 "java/lang/String" "value" "[B")) (Or.inr ⟨_, (wk W (.laysFinal "java/lang/String" "java/lang/String" "value" "[B"))⟩) (Or.inl ⟨rfl, hnm⟩) f1 (Or.inl rfl) bl13 (t := (.array .byte)) (by decide +kernel) rfl (g := (mkF m 54 #[.val (.ref a), .val (.ref b), .val (.int (Int32.ofNat o)), .val (.int (Int32.ofNat len)), .val .null, .val (.ref s.heap.size)] [.ref s.heap.size, .ref a])) rfl (rest := []) rfl (hb hbytes d54)
  have c16 : Steps p.tables e below (s₁.setTop (entryFrame m #[.ref a, .ref b, .int (Int32.ofNat o), .int (Int32.ofNat len), .null] 6)) (T15.setTop (mkF m 57 #[.val (.ref a), .val (.ref b), .val (.int (Int32.ofNat o)), .val (.int (Int32.ofNat len)), .val .null, .val (.ref s.heap.size)] [])) := c14.trans (st15 _ (Steps.refl _))
  have ap := apart (Or.inr ⟨_, (wk W (.laysFinal "java/lang/String" "java/lang/String" "value" "[B"))⟩) (Or.inr ⟨_, (wk W (.laysFinal "java/lang/String" "java/lang/String" "coder" "B"))⟩) f1 f2 (t₁ := .array .byte) (t₂ := .byte) (by decide +kernel) (by decide +kernel) (by decide)
  have al := X8.warmed.alike.symm.trans X15.warmed.alike
  have n7 : T11.heap[s.heap.size]? = some N := by rw [q11]; exact n1.1
  exact ⟨T15, none, _, _, _, X15, by simp, rfl, by omega, (fun _ => rfl), ⟨rfl, _, N, bl15, ((Same.refl D _).set _ (by simp)).set _ (by simp), sl15, (Cell.slots_setSlot_ne _ ap).trans sl13, n1.keep al (p15.other hne (p13.other hne n7)), n2, by rw [al.findClass]; exact n3, n4, n5, fun y c h1 h2 => p15.other h1 (p13.other h1 (by rw [q11]; exact n6 y c h2)), by rw [p15.2.2, p13.2.2, q11]; exact z8⟩, fun fs hl => c16.trans (X15.returnOut hexec hret (hb hbytes d57) hl)⟩
end New4
namespace New1
def yN : MethodName := ⟨"java/lang/String", "<init>", "([C)V"⟩
abbrev yB : ByteArray := jdk_42_method_3_code
theorem d0 : decode yB 0 = .ok (.aload_n 0, 1) := by decide +kernel
theorem d1 : decode yB 1 = .ok (.aload_n 1, 1) := by decide +kernel
theorem d2 : decode yB 2 = .ok (.iconst 0, 1) := by decide +kernel
theorem d3 : decode yB 3 = .ok (.aload_n 1, 1) := by decide +kernel
theorem d4 : decode yB 4 = .ok (.arraylength, 1) := by decide +kernel
theorem d5 : decode yB 5 = .ok (.aconst_null, 1) := by decide +kernel
theorem d6 : decode yB 6 = .ok (.invokespecial 27, 3) := by decide +kernel
theorem d9 : decode yB 9 = .ok (.return_, 1) := by decide +kernel
def site : List Cond := [New4.tab] ++ initW "java/lang/String" 27 New4.yN
def tab : Cond := tabOf yN yB 2 none site
def P (a : Addr) (D : Cell) (fV fC : Field) (b : Addr) (A : Cell) (z : Int32) (args : Array Value) (s : State) : Prop := args = #[.ref a, .ref b] ∧ Blank "java/lang/String" a D s ∧ Found "java/lang/String" "value" "[B" fV s ∧ Found "java/lang/String" "coder" "B" fC s ∧ Ch b A s ∧ StaticIs s "java/lang/String" "COMPACT_STRINGS" "Z" (.int z) ∧ ¬ z = 0 ∧ 0 < A.slots.size ∧ A.slots.size ≤ 536870912 ∧ ∀ i, i < A.slots.size → ¬ 255 < cv A i
def E (a : Addr) (D : Cell) (fV fC : Field) (A : Cell) (r : Option Value) (s u : State) : Prop := Got a D fV fC A 0 A.slots.size r s u
/-- new String(chars), not empty, no char above 255: a Latin-1 String of their low bytes -/
theorem law (l : Launch) (a : Addr) (D : Cell) (fV fC : Field) (b : Addr) (A : Cell) (z : Int32) : Law l yN 2 1 3 52 yB 2 none site (P a D fV fC b A z) (E a D fV fC A) [⟨a, fC.slot⟩, ⟨a, fV.slot⟩] 1 A.slots.size := by
  refine Law.of_walk (plainFor_of_name (by decide +kernel)) (by decide +kernel) (by decide +kernel) (by decide) (fun _ _ h => by rw [h.1]; rfl) (fun _ U U' hal hh h => ⟨h.1, h.2.1.mv hal hh, h.2.2.1.al hal, h.2.2.2.1.al hal, h.2.2.2.2.1.mv hal hh, h.2.2.2.2.2.1.there hal hh, h.2.2.2.2.2.2⟩) (fun r U U' V V' h1 hal h2 h => Got.mv r U U' V V' h1 hal h2 h) ?_
  intro p e s m args below meth c s₁ X0 hexec hbytes hml hret hlk hnm hown hh0 W hP
  obtain ⟨rfl, hB, f1, f2, hA, s1, hz, l0, l2, hp⟩ := hP
  have c1 : Steps p.tables e below (s₁.setTop (entryFrame m #[.ref a, .ref b] 2)) (s₁.setTop (mkF m 0 #[.val (.ref a), .val (.ref b)] [])) := entry rfl
  have c2 : Steps p.tables e below (s₁.setTop (entryFrame m #[.ref a, .ref b] 2)) (s₁.setTop (mkF m 6 #[.val (.ref a), .val (.ref b)] [.null, .int (Int32.ofNat A.slots.size), .int 0, .ref b, .ref a])) := c1.trans (by
    refine XS.aloadN X0.here hexec rfl (hb hbytes d0) rfl rfl ?_
    refine XS.aloadN X0.here hexec rfl (hb hbytes d1) rfl rfl ?_
    refine iconstV X0.here hexec rfl 0 (hb hbytes d2) (by decide) ?_
    refine XS.aloadN X0.here hexec rfl (hb hbytes d3) rfl rfl ?_
    refine X0.alen hexec (hA.1.mv X0.warmed.alike hh0) rfl rfl (hb hbytes d4) ?_
    refine XS.aconstNull X0.here hexec rfl (hb hbytes d5) ?_
    exact Steps.refl _)
  obtain ⟨v3, T3, X3, E3, g3⟩ := X0.callN hexec (New4.law l a D fV fC b A z 0 A.slots.size) rfl hown (wks W (initW "java/lang/String" 27 New4.yN)) (W New4.tab (by simp only [site, List.mem_cons, List.mem_append, true_or, or_true])) (W := 0) (Nat.le_of_ble_eq_true rfl) (Nat.le_of_ble_eq_true rfl) (Nat.le_refl _) (by show 0 + A.slots.size ≤ A.slots.size; omega) (g := (mkF m 6 #[.val (.ref a), .val (.ref b)] [.null, .int (Int32.ofNat A.slots.size), .int (Int32.ofNat 0), .ref b, .ref a])) rfl (by rw [hml]; rfl) c2 (argsL := [.ref b, .int (Int32.ofNat 0), .int (Int32.ofNat A.slots.size), .null]) (rest := []) rfl rfl (by show 2 * 0 + 0 ≤ _; decide) (hb hbytes d6) (⟨rfl, hB.mv X0.warmed.alike hh0, f1.al X0.warmed.alike, f2.al X0.warmed.alike, hA.mv X0.warmed.alike hh0, s1.there X0.warmed.alike hh0, hz, l0, by omega, l2, fun i hi => by rw [Nat.zero_add]; exact hp i hi⟩)
  have e0 := Got.mv _ s₁ s _ _ hh0.symm (Vm.Alike.refl _) rfl E3
  obtain rfl := e0.1
  have c4 : Steps p.tables e below (s₁.setTop (entryFrame m #[.ref a, .ref b] 2)) (T3.setTop (mkF m 9 #[.val (.ref a), .val (.ref b)] [])) := g3
  exact ⟨T3, none, _, _, _, X3, by simp, rfl, by omega, (fun _ => rfl), e0, fun fs hl => c4.trans (X3.returnOut hexec hret (hb hbytes d9) hl)⟩
theorem pays {l : Launch} {R : Room} {p : Program} {e : Env} {below : List Frame} {s : State} {sargs : Array Value} {len W : Nat} (a : Addr) (D : Cell) (fV fC : Field) (b : Addr) (A : Cell) (z : Int32) (htab : tab.before sargs s = true) (hfr : 4 ≤ R.frames) (hlo : W + 65 ≤ R.locals) :
    Back l R p e below s sargs yN len W (fun A₁ a₁ => A₁.cells + 1 ≤ R.cells ∧ A₁.slots + A.slots.size ≤ R.slots ∧ P a D fV fC b A z a₁ A₁.U) (fun A₁ _ v₁ B₁ => E a D fV fC A v₁ A₁.U B₁.U ∧ B₁.locs = A₁.locs ++ [⟨a, fC.slot⟩, ⟨a, fV.slot⟩] ∧ B₁.cells = A₁.cells + 1 ∧ B₁.slots = A₁.slots + A.slots.size) :=
  (law l a D fV fC b A z).pays htab hfr (by omega)
end New1
/-- the byte, read back as charAt reads it, is the char -/
theorem lo8_mask {x : Int32} (h0 : ¬ x < 0) (h1 : ¬ 255 < x) : lo8 x &&& 255 = x := by
  have t : ∀ k : Fin 256, lo8 (Int32.ofNat k.val) &&& 255 = Int32.ofNat k.val := by decide +kernel
  rw [Int32.lt_iff_toInt_lt] at h0 h1
  have e0 : (0 : Int32).toInt = 0 := rfl
  have e1 : (255 : Int32).toInt = 255 := rfl
  obtain ⟨k, hk⟩ : ∃ k : Nat, x.toInt = k := ⟨x.toInt.toNat, by omega⟩
  have hx : x = Int32.ofNat k := Int32.toInt_inj.mp (by rw [hk, Int32.toInt_ofNat_small (by omega)])
  rw [hx]
  exact t ⟨k, by omega⟩
end StrChars
namespace StrChars.Road
open Jvm Sem ClassFile Op Lib Jvm.Stand Jvm.Free Jvm.Free.XT
open Jvm.Lib.Cold (StaticIs)
abbrev ST : String := "java/lang/String"
/-- every table word that New1's law asks, flat -/
abbrev words : List Jvm.Cond := [.code New1.yN New1.yB 2 none, .initialized ST, .methodLink ST 27 New4.yN, .instanceMethod New4.yN,
  .code New4.yN New4.yB 6 none, .fieldLink ST 38 ST "COMPACT_STRINGS" "Z", .laysFinal ST ST "value" "[B", .fieldLink ST 9 ST "value" "[B", .laysFinal ST ST "coder" "B", .fieldLink ST 15 ST "coder" "B",
  .methodLink ST 1 Lib.objectInit, .instanceMethod Lib.objectInit, .code Lib.objectInit ⟨#[0xb1]⟩ 1 none, .methodLink ST 177 Cmp3.yN, .static Cmp3.yN, .methodLink ST 47 CodL.yN, .static CodL.yN,
  .code Cmp3.yN Cmp3.yB 6 (some (.array .byte)), .initialized U16, .arrayClass .byte, .methodLink U16 115 Cmp5.yN, .static Cmp5.yN, .code Cmp5.yN Cmp5.yB 7 (some .int), .code CodL.yN CodL.yB 2 (some .byte)]
theorem tab_of {a : Array Value} {s : State} (h : ∀ w ∈ words, w.before a s = true) : New1.tab.before a s = true := by
  have h5 : Cmp5.tab.before a s = true := unparts (wk h (.code Cmp5.yN Cmp5.yB 7 (some .int))) (wks h (.initialized Cmp5.yN.cls :: Cmp5.site))
  have hc : CodL.tab.before a s = true := unparts (wk h (.code CodL.yN CodL.yB 2 (some .byte))) (wks h (.initialized CodL.yN.cls :: CodL.site))
  have q5 : ∀ w ∈ Cmp5.tab :: words, w.before a s = true := fun w hw => (List.mem_cons.mp hw).elim (fun e => e ▸ h5) (h w)
  have h3 : Cmp3.tab.before a s = true := unparts (wk q5 (.code Cmp3.yN Cmp3.yB 6 (some (.array .byte)))) (wks q5 (.initialized Cmp3.yN.cls :: Cmp3.site))
  have q3 : ∀ w ∈ Cmp3.tab :: CodL.tab :: words, w.before a s = true := fun w hw => (List.mem_cons.mp hw).elim (fun e => e ▸ h3) fun hw => (List.mem_cons.mp hw).elim (fun e => e ▸ hc) (h w)
  have h4 : New4.tab.before a s = true := unparts (wk q3 (.code New4.yN New4.yB 6 none)) (wks q3 (.initialized New4.yN.cls :: New4.site))
  have q4 : ∀ w ∈ New4.tab :: words, w.before a s = true := fun w hw => (List.mem_cons.mp hw).elim (fun e => e ▸ h4) (h w)
  exact unparts (wk q4 (.code New1.yN New1.yB 2 none)) (wks q4 (.initialized New1.yN.cls :: New1.site))
/-- the words ride from the start Z to the walk's own state -/
theorem moved {Z s : State} {a0 args : Array Value} (hZ : Z.Warmed39 s.vm) (hw : ∀ d ∈ words, d.before a0 Z = true) : ∀ d ∈ words, d.before args s = true := fun d hd => by
  have q := hw d hd
  have t : ∀ d ∈ words, d = .arrayClass .byte ∨ (d.onTables && d.keepsFace) = true := by decide +kernel
  rcases t d hd with rfl | t
  · exact RoadKit.mvA hZ q
  · exact RoadKit.mv hZ q t
/-- WHAT COMES BACK, over the tables of the start Z: h the heap at the call, h' behind it -/
def Q (Z : State) (x : Addr) (A : Cell) (h : Heap) (v : Option Value) (h' : Heap) (L : List Loc) : Prop := v = none ∧ (∀ y ∈ L, y.base = x) ∧ RoadKit.Keep h h' [x] ∧ h'.size = h.size + 1 ∧ RoadKit.Exa Z h' x ST ∧ RoadKit.Fld Z h' x ST "value" "[B" (.ref h.size) ∧ RoadKit.Fld Z h' x ST "coder" "B" (.int 0) ∧
  (∃ V : Cell, RoadKit.Arr Z h' h.size V .byte ∧ V.vm = .none ∧ Z.vm.findClass "[B" = some V.cls ∧ V.slots.size = A.slots.size ∧ ∀ j, j < A.slots.size → V.slots[j]? = some (.int (lo8 (cv A j)))) ∧
  ∀ (O n d : String) (w : Value), RoadKit.Fld Z h x O n d w → RoadKit.slotOf Z O n d ≠ RoadKit.slotOf Z ST "value" "[B" → RoadKit.slotOf Z O n d ≠ RoadKit.slotOf Z ST "coder" "B" → RoadKit.Fld Z h' x O n d w
/-- **new String(chars) AT A CALL, IN THE ROAD'S FORM**: for specialBack behind newO: x the fresh String, b the char[] with the cell A -/
theorem back {p : Program} {l : Launch} {e : Env} {R : Room} {s : State} {args : Array Value} {below : List Frame} {len W : Nat} {Z : State} {a0 : Array Value} {h : Heap} (hZ : Z.Warmed39 s.vm) (hw : ∀ d ∈ words, d.before a0 Z = true) {kI : Nat} (wi : (Jvm.Cond.instantiable ST kI).before a0 Z = true)
    {x b : Addr} {A : Cell} {z : Int32} {v0 c0 : Value} (E : RoadKit.Exa Z h x ST) (V : RoadKit.Fld Z h x ST "value" "[B" v0) (C : RoadKit.Fld Z h x ST "coder" "B" c0) (K : RoadKit.Arr Z h b A .char) (hty : Typed .char A) (S : RoadKit.Sta Z h ST "COMPACT_STRINGS" "Z" (.int z)) (hz : ¬ z = 0)
    (l0 : 0 < A.slots.size) (l2 : A.slots.size ≤ 536870912) (hp : ∀ i, i < A.slots.size → ¬ 255 < cv A i) (hfr : 4 ≤ R.frames) (hlo : W + 65 ≤ R.locals) :
    Back l R p e below s args New1.yN len W (fun P a => a = #[.ref x, .ref b] ∧ P.U.heap = h ∧ P.cells + 1 ≤ R.cells ∧ P.slots + A.slots.size ≤ R.slots)
      (fun P _ v B => ∃ L, Q Z x A h v B.U.heap L ∧ B.locs = P.locs ++ L ∧ B.cells = P.cells + 1 ∧ B.slots = P.slots + A.slots.size) := by
  intro m meth c P g ig mk a X hg hsize hdg hW hn hp'
  obtain ⟨rfl, rfl, r1, r2⟩ := hp'
  have al : Z.vm.Alike P.U.vm := hZ.alike.trans X.warmed.alike
  obtain ⟨D, cfV, kV, iV, fV, hD, gV, stV, knV, obV, asV, slV⟩ := id V
  obtain ⟨D', cfC, kC, iC, fC, hD', gC, stC, -, -, asC, slC⟩ := id C
  cases hD.symm.trans hD'
  obtain ⟨D2, kD, e1, e2, e3, e4, e5⟩ := id E
  cases hD.symm.trans e1
  obtain ⟨c2, k2, i1, i2, i3, -⟩ := Cond.instantiable_spec wi
  cases e2.symm.trans i1
  cases e3.symm.trans i2
  obtain ⟨kU, u1, u2⟩ := al.2.2 _ _ e3
  have hB : Blank ST x D P.U := ⟨hD, ⟨knV, fun q hq => by rw [hq] at obV; cases obV⟩, by rw [al.findClass]; exact e2, kU, u1, by rw [u2]; exact i3, by rw [u2]; exact e5 i3⟩
  have F1 : Found ST "value" "[B" fV P.U := ⟨SBG.found_only al ⟨cfV, kV, iV, gV⟩, stV⟩
  have F2 : Found ST "coder" "B" fC P.U := ⟨SBG.found_only al ⟨cfC, kC, iC, gC⟩, stC⟩
  have hA : Ch b A P.U := ⟨⟨K.1, State.isArrayOf_alike al K.2.1, K.2.2, by omega⟩, hty⟩
  have hS : StaticIs P.U ST "COMPACT_STRINGS" "Z" (.int z) := by
    obtain ⟨cfS, iS, kS, fS, st, cS, t1, t2, t3, t4, t5, t6, t7⟩ := S
    exact StaticIs.there (s := { Z with heap := P.U.heap }) ⟨cfS, iS, kS, fS, st, cS, t1, t2, t3, t4, t5, (fun q => by rw [q] at t6; cases t6), t7⟩ al rfl
  obtain ⟨v, B, X', ⟨⟨hv, E', V', q1, q2, q3, q4, q5, q6, q7, q8, q9, q10, q11⟩, hl, hc, hs⟩, st⟩ := New1.pays x D fV fC b A z (tab_of (moved hZ hw)) hfr hlo m meth c P g ig mk _ X hg hsize hdg hW hn ⟨r1, r2, rfl, hB, F1, F2, hA, hS, hz, l0, l2, hp⟩
  have al' : Z.vm.Alike B.U.vm := hZ.alike.trans X'.warmed.alike
  have hsz : E'.slots.size = D.slots.size := by
    obtain ⟨-, -, -, kB, w1, w2, w3⟩ := q1
    obtain ⟨kB', y1, y2⟩ := al'.2.2 _ _ e3
    rw [q2.2.1] at w1
    cases w1.symm.trans y1
    rw [w3, e5 i3, y2]
  refine ⟨v, B, X', ⟨_, ⟨hv, ?_, ⟨by omega, fun y cy hy hn' => q10 y cy (by simpa using hn') hy, fun y cy hy => ?_⟩, q11, ⟨E', _, q1.1, by rw [q2.2.1]; exact e2, by rw [q2.2.1]; exact e3, by rw [q2.1]; exact obV, fun _ => by rw [hsz]; exact e5 i3⟩,
    ⟨E', cfV, kV, iV, fV, q1.1, gV, stV, by rw [q2.1]; exact knV, by rw [q2.1]; exact obV, by rw [q2.2.1]; exact asV, q3⟩, ⟨E', cfC, kC, iC, fC, q1.1, gC, stC, by rw [q2.1]; exact knV, by rw [q2.1]; exact obV, by rw [q2.2.1]; exact asC, q4⟩,
    ⟨V', ⟨q5.1, State.isArrayOf_alike al'.symm q5.2.1, q5.2.2.1⟩, q6, by rw [← al'.findClass]; exact q7, q8, fun j hj => by have := q9 j hj; rwa [Nat.zero_add] at this⟩, fun O n d w F n1 n2 => ?_⟩, hl, hc, hs⟩, st⟩
  · intro y hy
    simp only [List.mem_cons, List.not_mem_nil, or_false] at hy
    rcases hy with rfl | rfl <;> rfl
  · by_cases q : y = x
    · subst q
      cases hD.symm.trans hy
      exact ⟨E', q1.1, q2.2.1, q2.1, hsz⟩
    · exact ⟨cy, q10 y cy q hy, rfl, rfl, rfl⟩
  · obtain ⟨D3, cf, k, i, f, g1, g2, g3, g4, g5, g6, g7⟩ := F
    cases hD.symm.trans g1
    simp only [RoadKit.slotOf, g2, gV, gC, Option.map_some, Option.getD_some] at n1 n2
    exact ⟨E', cf, k, i, f, q1.1, g2, g3, by rw [q2.1]; exact g4, by rw [q2.1]; exact g5, by rw [q2.2.1]; exact g6, by rw [q2.2.2 f.slot (by simp [n1, n2])]; exact g7⟩
end StrChars.Road
namespace StrChars.Road
open Jvm Sem ClassFile Op Lib Jvm.Stand Jvm.Free Jvm.Free.XT
/-- WHAT COMES BACK, the byte[] as a list of values -/
def QA (Z : State) (x : Addr) (zn : Int32) (cs : List Int32) (h : Heap) (v : Option Value) (h' : Heap) (L : List Loc) : Prop := v = none ∧ (∀ y ∈ L, y.base = x) ∧ RoadKit.Keep h h' [x] ∧ h'.size = h.size + 1 ∧ RoadKit.Exa Z h' x ST ∧ RoadKit.Fld Z h' x ST "value" "[B" (.ref h.size) ∧ RoadKit.Fld Z h' x ST "coder" "B" (.int 0) ∧
  (∃ kb, Z.vm.findClass "[B" = some kb ∧ RoadKit.Arv Z h' h.size kb .byte zn (cs.map fun c => .int (lo8 c)) (.int 0)) ∧
  ∀ (O n d : String) (w : Value), RoadKit.Fld Z h x O n d w → RoadKit.slotOf Z O n d ≠ RoadKit.slotOf Z ST "value" "[B" → RoadKit.slotOf Z O n d ≠ RoadKit.slotOf Z ST "coder" "B" → RoadKit.Fld Z h' x O n d w
/-- **new String(chars) AT A CALL, THE ARRAYS AS LISTS**: the char[] at b holds cs, not empty, no char above 255 -/
theorem backArv {p : Program} {l : Launch} {e : Env} {R : Room} {s : State} {args : Array Value} {below : List Frame} {len W : Nat} {Z : State} {a0 : Array Value} {h : Heap} (hZ : Z.Warmed39 s.vm) (hw : ∀ d ∈ words, d.before a0 Z = true) {kI : Nat} (wi : (Jvm.Cond.instantiable ST kI).before a0 Z = true)
    {x b : Addr} {k : ClassId} {zn z : Int32} {cs : List Int32} {dv v0 c0 : Value} (E : RoadKit.Exa Z h x ST) (V : RoadKit.Fld Z h x ST "value" "[B" v0) (C : RoadKit.Fld Z h x ST "coder" "B" c0) (K : RoadKit.Arv Z h b k .char zn (cs.map Value.int) dv) (S : RoadKit.Sta Z h ST "COMPACT_STRINGS" "Z" (.int z)) (hz : ¬ z = 0)
    (hlen : zn.toNatClampNeg = cs.length) (h0 : 0 < cs.length) (hbig : cs.length ≤ 536870912) (hall : ∀ c ∈ cs, ¬ 255 < c) (hfr : 4 ≤ R.frames) (hlo : W + 65 ≤ R.locals) :
    Back l R p e below s args New1.yN len W (fun P a => a = #[.ref x, .ref b] ∧ P.U.heap = h ∧ P.cells + 1 ≤ R.cells ∧ P.slots + cs.length ≤ R.slots)
      (fun P _ v B => ∃ L, QA Z x zn cs h v B.U.heap L ∧ B.locs = P.locs ++ L ∧ B.cells = P.cells + 1 ∧ B.slots = P.slots + cs.length) := by
  obtain ⟨A, K1, K2, K3, K4, K5, K6⟩ := K
  have e : A.slots.size = cs.length := K3.trans hlen
  have hat : ∀ (i : Nat) (hi : i < cs.length), A.slots[i]? = some (.int cs[i]) := fun i hi => by rw [K5 i (by omega)]; simp [List.getD_eq_getElem?_getD, hi]
  have hcv : ∀ (i : Nat) (hi : i < cs.length), cv A i = cs[i] := fun i hi => by unfold cv; rw [hat i hi]
  have hty : Typed .char A := fun i v hv => by
    have hi : i < A.slots.size := (Array.getElem?_eq_some_iff.mp hv).1
    have q := K5 i hi
    rw [hv] at q
    rw [Option.some.inj q]
    exact K6 i hi
  refine Back.mono (back hZ hw wi E V C K1 hty S hz (by omega) (by omega) (fun i hi => by rw [hcv i (by omega)]; exact hall _ (List.getElem_mem _)) hfr hlo) (fun P a hp => ⟨hp.1, hp.2.1, hp.2.2.1, by rw [e]; exact hp.2.2.2⟩) (fun P a v B hp hq => ?_)
  obtain ⟨L, ⟨q1, q2, q3, q4, q5, q6, q7, ⟨V', v1, v2, v3, v4, v5⟩, q9⟩, hl, hc, hs⟩ := hq
  refine ⟨L, ⟨q1, q2, q3, q4, q5, q6, q7, ⟨V'.cls, v3, V', v1, rfl, by rw [v4, e, hlen], K4, fun i hi => ?_, fun i hi => ?_⟩, q9⟩, hl, hc, by rw [hs, e]⟩
  · have hi' : i < cs.length := by omega
    rw [v5 i (by omega), hcv i hi']; simp [List.getD_eq_getElem?_getD, hi']
  · have hi' : i < cs.length := by omega
    simp only [List.getD_eq_getElem?_getD, List.getElem?_map, List.getElem?_eq_getElem hi', Option.map_some, Option.getD_some]
    exact fits_lo8 _
end StrChars.Road
namespace StrChars.Road
open Jvm Sem ClassFile Op Lib Jvm.Stand Jvm.Free Jvm.Free.XT
/-- WHAT COMES BACK, in the writer's own shape -/
def QV (Z : State) (x : Addr) (N : Int32) (bs : List Int32) (h : Heap) (n0 : Nat) (v : Option Value) (h' : Heap) (L : List Loc) : Prop := v = none ∧ RoadKit.Fr n0 L ∧ RoadKit.Keep h h' [x] ∧ RoadKit.Exa Z h' x ST ∧ RoadKit.Fld Z h' x ST "coder" "B" (.int 0) ∧
  ∃ (t : Addr) (kb : ClassId), n0 ≤ t ∧ h.size ≤ t ∧ ¬ t = x ∧ RoadKit.Fld Z h' x ST "value" "[B" (.ref t) ∧ RoadKit.Arv Z h' t kb .byte N (bs.map Value.int) (.int 0)
/-- **new String(chars) AT A CALL, FOR THE WRITER**: a char[] of n known ints, each 0 to 255 -/
theorem backV {p : Program} {l : Launch} {e : Env} {R : Room} {s : State} {args : Array Value} {below : List Frame} {len W : Nat} {Z : State} {a0 : Array Value} {h : Heap} (hZ : Z.Warmed39 s.vm) (hw : ∀ d ∈ words, d.before a0 Z = true) {kI : Nat} (wi : (Jvm.Cond.instantiable ST kI).before a0 Z = true)
    {x b : Addr} {kC : ClassId} {cs bs : List Int32} {d v0 c0 : Value} {z N : Int32} {n n0 : Nat} (hx0 : n0 ≤ x) (hh0 : n0 ≤ h.size) (E : RoadKit.Exa Z h x ST) (V : RoadKit.Fld Z h x ST "value" "[B" v0) (C : RoadKit.Fld Z h x ST "coder" "B" c0) (K : RoadKit.Arv Z h b kC .char N (cs.map Value.int) d) (S : RoadKit.Sta Z h ST "COMPACT_STRINGS" "Z" (.int z)) (hz : ¬ z = 0)
    (hn : cs.length = n) (hN : N = Int32.ofNat n) (l0 : 0 < n) (l2 : n ≤ 4000) (hp : ∀ c ∈ cs, ¬ c < 0 ∧ ¬ (255 : Int32) < c) (hb : bs = cs.map (fun c => c.toInt8.toInt32)) (hfr : 4 ≤ R.frames) (hlo : W + 65 ≤ R.locals) :
    Back l R p e below s args (⟨"java/lang/String", "<init>", "([C)V"⟩ : MethodName) len W (fun P a => a = #[.ref x, .ref b] ∧ P.U.heap = h ∧ P.cells + 1 ≤ R.cells ∧ P.slots + n ≤ R.slots)
      (fun P _ v B => ∃ L, QV Z x N bs h n0 v B.U.heap L ∧ B.locs = P.locs ++ L ∧ B.cells = P.cells + 1 ∧ B.slots = P.slots + n) := by
  subst hn hN hb
  refine Back.mono (backArv hZ hw wi E V C K S hz (n32 (by omega)) l0 (by omega) (fun c hc => (hp c hc).2) hfr hlo) (fun P a hp => hp) (fun P a v B hp hq => ?_)
  obtain ⟨L, ⟨q1, q2, q3, q4, q5, q6, q7, ⟨kb, v1, v2⟩, q9⟩, hl, hc, hs⟩ := hq
  exact ⟨L, ⟨q1, fun y hy => by rw [q2 y hy]; exact hx0, q3, q5, q7, h.size, kb, hh0, Nat.le_refl _, Nat.ne_of_gt E.lt, q6, by rw [List.map_map]; exact v2⟩, hl, hc, hs⟩
end StrChars.Road
namespace StrChars
open Jvm Sem ClassFile Op Lib Jvm.Stand Jvm.Free.XT Jvm.Free.ALB Jvm.Free.JM Jvm.Free
open Jvm.Lib.Cold (StaticIs)
def hi8 (x : Int32) : Int32 := lo8 (x >>> ((8 : Int32) &&& 31))
/-- what StringUTF16.getChar makes of two bytes -/
def pairCh (u v : Int32) : Int32 := (((u &&& 255) <<< ((0 : Int32) &&& 31)) ||| ((v &&& 255) <<< ((8 : Int32) &&& 31))).toUInt32.toUInt16.toUInt32.toInt32
theorem lo8_and (x : Int32) : (lo8 x &&& 255).toBitVec.toNat = x.toBitVec.toNat % 256 := by
  have h : (lo8 x).toBitVec = (x.toBitVec.signExtend 8).signExtend 32 := by rw [lo8, Int8.toBitVec_toInt32, Int32.toBitVec_toInt8]
  rw [Int32.toBitVec_and, BitVec.toNat_and, h]
  have e : ((x.toBitVec.signExtend 8).signExtend 32).toNat % 256 = x.toBitVec.toNat % 256 := by
    rw [BitVec.toNat_signExtend]
    have hlt := x.toBitVec.isLt
    simp only [BitVec.toNat_setWidth, BitVec.toNat_signExtend]
    split <;> split <;> omega
  rw [← e]
  exact Nat.and_two_pow_sub_one_eq_mod _ 8
theorem pair_says {c : Int32} (h0 : ¬ c < 0) (h1 : ¬ 65535 < c) : pairCh (lo8 c) (hi8 c) = c := by
  rw [Int32.lt_iff_toInt_lt] at h0 h1
  have e0 : (0 : Int32).toInt = 0 := rfl
  have e1 : (65535 : Int32).toInt = 65535 := rfl
  have hc : c.toInt = c.toBitVec.toNat := by
    have := c.toBitVec.isLt
    have e : c.toInt = c.toBitVec.toInt := rfl
    rw [e] at h0 h1
    rw [e]
    rw [BitVec.toInt_eq_toNat_cond] at h0 h1 ⊢
    split at h0 <;> split <;> omega
  have hn : c.toBitVec.toNat < 65536 := by omega
  have a1 := lo8_and c
  have a2 : (hi8 c &&& 255).toBitVec.toNat = c.toBitVec.toNat / 256 := by
    rw [hi8, lo8_and]
    have e : ((8 : Int32) &&& 31) = 8 := by decide
    rw [e, Int32.toBitVec_shiftRight]
    have e2 : ((8 : Int32).toBitVec.smod 32) = 8#32 := by decide
    rw [e2, BitVec.sshiftRight_eq', BitVec.toNat_sshiftRight_of_msb_false (by rw [BitVec.msb_eq_false_iff_two_mul_lt]; omega)]
    show c.toBitVec.toNat >>> 8 % 256 = _
    rw [Nat.shiftRight_eq_div_pow]
    omega
  unfold pairCh
  apply Int32.toBitVec_inj.mp
  apply BitVec.eq_of_toNat_eq
  have f0 : ((0 : Int32) &&& 31) = 0 := by decide
  have f8 : ((8 : Int32) &&& 31) = 8 := by decide
  rw [f0, f8]
  have g : (((lo8 c &&& 255) <<< (0 : Int32)) ||| ((hi8 c &&& 255) <<< (8 : Int32))).toBitVec.toNat = c.toBitVec.toNat := by
    rw [Int32.toBitVec_or, Int32.toBitVec_shiftLeft, Int32.toBitVec_shiftLeft]
    have s0 : ((0 : Int32).toBitVec.smod 32) = 0#32 := by decide
    have s8 : ((8 : Int32).toBitVec.smod 32) = 8#32 := by decide
    rw [s0, s8, BitVec.toNat_or]
    simp only [BitVec.shiftLeft_eq', BitVec.toNat_shiftLeft, a1, a2]
    show (c.toBitVec.toNat % 256) <<< 0 % 2 ^ 32 ||| (c.toBitVec.toNat / 256) <<< 8 % 2 ^ 32 = _
    rw [Nat.shiftLeft_zero, Nat.mod_eq_of_lt (show c.toBitVec.toNat % 256 < 2 ^ 32 by omega), Nat.mod_eq_of_lt (show (c.toBitVec.toNat / 256) <<< 8 < 2 ^ 32 by rw [Nat.shiftLeft_eq]; omega), Nat.or_comm, ← Nat.shiftLeft_add_eq_or_of_lt (by omega), Nat.shiftLeft_eq]
    omega
  show BitVec.toNat (((((lo8 c &&& 255) <<< (0 : Int32)) ||| ((hi8 c &&& 255) <<< (8 : Int32))).toBitVec.setWidth 16).setWidth 32) = _
  rw [BitVec.toNat_setWidth, BitVec.toNat_setWidth, g]
  omega
end StrChars
namespace StrChars
open Jvm Sem ClassFile Op Lib Jvm.Stand Jvm.Free.XT Jvm.Free.ALB Jvm.Free.JM Jvm.Free
open Jvm.Lib.Cold (StaticIs)
/-- the array's cell V codes the n chars f 0 .. f (n - 1) by the coder cd, as the JDK does: coder 1 just where some char is above 255 -/
def Cod (cd : Int32) (n : Nat) (f : Nat → Int32) (V : Cell) : Prop := (cd = 0 ∧ V.slots.size = n ∧ ∀ j, j < n → V.slots[j]? = some (.int (lo8 (f j))) ∧ ¬ 255 < f j) ∨ (cd = 1 ∧ V.slots.size = 2 * n ∧ (∀ j, j < n → V.slots[2 * j]? = some (.int (lo8 (f j))) ∧ V.slots[2 * j + 1]? = some (.int (hi8 (f j)))) ∧ ∃ j, j < n ∧ 255 < f j)
/-- **x is a String of the n chars f 0 .. f (n - 1)**, Latin-1 or UTF-16; its array at t has the cell V -/
def Txt (x t : Addr) (V : Cell) (cd : Int32) (n : Nat) (f : Nat → Int32) (U : State) : Prop := Exact "java/lang/String" x U ∧ Has x "java/lang/String" "value" "[B" (.ref t) U ∧ Has x "java/lang/String" "coder" "B" (.int cd) U ∧ XT.Arr .byte t V U ∧ Cod cd n f V ∧ ∀ j, j < n → ¬ f j < 0 ∧ ¬ 65535 < f j
theorem Txt.mv {x t : Addr} {V : Cell} {cd : Int32} {n : Nat} {f : Nat → Int32} {U U' : State} (h : Txt x t V cd n f U) (hal : U.vm.Alike U'.vm) (hh : U'.heap = U.heap) : Txt x t V cd n f U' := ⟨h.1.mv hal hh, h.2.1.mv hal hh, h.2.2.1.mv hal hh, h.2.2.2.1.mv hal hh, h.2.2.2.2⟩
end StrChars
namespace StrChars.Road
open Jvm Sem ClassFile Op Lib Jvm.Stand Jvm.Free Jvm.Free.XT
open Jvm.Lib.Cold (StaticIs)
theorem consq {a : Array Value} {s : State} {c : Jvm.Cond} {L : List Jvm.Cond} (h0 : c.before a s = true) (h : ∀ w ∈ L, w.before a s = true) : ∀ w ∈ c :: L, w.before a s = true := fun w hw => (List.mem_cons.mp hw).elim (fun e => e ▸ h0) (h w)
/-- the bytes of the chars cs, low before high -/
def wideBytes : List Int32 → List Value
  | [] => []
  | c :: cs => .int (lo8 c) :: .int (hi8 c) :: wideBytes cs
theorem wide_lo (d : Value) : ∀ (cs : List Int32) (j : Nat), j < cs.length → (wideBytes cs).getD (2 * j) d = .int (lo8 (cs.getD j 0))
  | [], j, h => absurd h (Nat.not_lt_zero j)
  | c :: cs, 0, _ => rfl
  | c :: cs, j + 1, h => by
    have q := wide_lo d cs j (by simpa using h)
    rw [show 2 * (j + 1) = 2 * j + 1 + 1 from by omega]
    simpa [wideBytes] using q
theorem wide_hi (d : Value) : ∀ (cs : List Int32) (j : Nat), j < cs.length → (wideBytes cs).getD (2 * j + 1) d = .int (hi8 (cs.getD j 0))
  | [], j, h => absurd h (Nat.not_lt_zero j)
  | c :: cs, 0, _ => rfl
  | c :: cs, j + 1, h => by
    have q := wide_hi d cs j (by simpa using h)
    rw [show 2 * (j + 1) + 1 = 2 * j + 1 + 1 + 1 from by omega]
    simpa [wideBytes] using q
theorem low_at (d : Value) (cs : List Int32) (j : Nat) (h : j < cs.length) : (cs.map fun c => Value.int (lo8 c)).getD j d = .int (lo8 (cs.getD j 0)) := by
  simp [List.getD_eq_getElem?_getD, h]
/-- an array of N2 bytes vs codes the chars cs by the coder cd -/
def CodA (cs : List Int32) (cd N2 : Int32) (vs : List Value) : Prop := (cd = 0 ∧ N2 = Int32.ofNat cs.length ∧ vs = (cs.map fun c => Value.int (lo8 c)) ∧ ∀ c ∈ cs, ¬ 255 < c) ∨ (cd = 1 ∧ N2 = Int32.ofNat (2 * cs.length) ∧ vs = wideBytes cs ∧ ∃ c ∈ cs, 255 < c)
theorem CodA.cod {cs : List Int32} {cd N2 : Int32} {vs : List Value} {V : Cell} (h : CodA cs cd N2 vs) (hn : 2 * cs.length < 2 ^ 31) (hs : V.slots.size = N2.toNatClampNeg) (hv : RoadKit.Has V vs (.int 0)) : Cod cd cs.length (fun j => cs.getD j 0) V := by
  rcases h with ⟨rfl, rfl, rfl, h⟩ | ⟨rfl, rfl, rfl, c, hc, hw⟩
  · rw [n32 (by omega)] at hs
    exact Or.inl ⟨rfl, hs, fun j hj => ⟨by rw [hv j (by omega), low_at _ _ _ hj], by
      have e : cs.getD j 0 = cs[j] := by simp [List.getD_eq_getElem?_getD, hj]
      show ¬ 255 < cs.getD j 0
      rw [e]; exact h _ (List.getElem_mem _)⟩⟩
  · rw [n32 (by omega)] at hs
    obtain ⟨j, hj, rfl⟩ := List.getElem_of_mem hc
    exact Or.inr ⟨rfl, hs, fun j hj => ⟨by rw [hv _ (by omega), wide_lo _ _ _ hj], by rw [hv _ (by omega), wide_hi _ _ _ hj]⟩, j, hj, by
      have e : cs.getD j 0 = cs[j] := by simp [List.getD_eq_getElem?_getD, hj]
      show 255 < cs.getD j 0
      rw [e]; exact hw⟩
/-- an object of exactly java/lang/String, its two fields found: as the laws ask it -/
theorem strObj {Z U : State} {a0 : Array Value} {kI : Nat} (wi : (Jvm.Cond.instantiable ST kI).before a0 Z = true) (al : Z.vm.Alike U.vm) {x : Addr} {v0 c0 : Value} (E : RoadKit.Exa Z U.heap x ST) (V : RoadKit.Fld Z U.heap x ST "value" "[B" v0) (C : RoadKit.Fld Z U.heap x ST "coder" "B" c0) :
    ∃ (D : Cell) (fV fC : Field), Blank ST x D U ∧ Found ST "value" "[B" fV U ∧ Found ST "coder" "B" fC U ∧ D.slots[fV.slot]? = some v0 ∧ D.slots[fC.slot]? = some c0 ∧ RoadKit.slotOf Z ST "value" "[B" = fV.slot ∧ RoadKit.slotOf Z ST "coder" "B" = fC.slot := by
  obtain ⟨D, cfV, kV, iV, fV, hD, gV, stV, knV, obV, asV, slV⟩ := V
  obtain ⟨D', cfC, kC, iC, fC, hD', gC, stC, -, -, asC, slC⟩ := C
  cases hD.symm.trans hD'
  obtain ⟨D2, kD, e1, e2, e3, e4, e5⟩ := E
  cases hD.symm.trans e1
  obtain ⟨c2, k2, i1, i2, i3, -⟩ := Cond.instantiable_spec wi
  cases e2.symm.trans i1
  cases e3.symm.trans i2
  obtain ⟨kU, u1, u2⟩ := al.2.2 _ _ e3
  exact ⟨D, fV, fC, ⟨hD, ⟨knV, fun q hq => by rw [hq] at obV; cases obV⟩, by rw [al.findClass]; exact e2, kU, u1, by rw [u2]; exact i3, by rw [u2]; exact e5 i3⟩, ⟨SBG.found_only al ⟨cfV, kV, iV, gV⟩, stV⟩, ⟨SBG.found_only al ⟨cfC, kC, iC, gC⟩, stC⟩, slV, slC, by simp [RoadKit.slotOf, gV], by simp [RoadKit.slotOf, gC]⟩
theorem sta_is {Z U : State} (al : Z.vm.Alike U.vm) {C n d : String} {v : Value} (S : RoadKit.Sta Z U.heap C n d v) : StaticIs U C n d v := by
  obtain ⟨cfS, iS, kS, fS, st, cS, t1, t2, t3, t4, t5, t6, t7⟩ := S
  exact StaticIs.there (s := { Z with heap := U.heap }) ⟨cfS, iS, kS, fS, st, cS, t1, t2, t3, t4, t5, (fun q => by rw [q] at t6; cases t6), t7⟩ al rfl
end StrChars.Road
namespace StrChars
open Jvm Sem ClassFile Op Lib Jvm.Stand Jvm.Free.XT Jvm.Free.ALB Jvm.Free.JM Jvm.Free
open Jvm.Lib.Cold (StaticIs)
/-- what place i of a byte[]'s cell holds -/
def yv (A : Cell) (i : Nat) : Int32 := match A.slots[i]? with | some (.int x) => x | _ => 0
theorem yv_get {a : Addr} {A : Cell} {U : State} (h : XT.Arr .byte a A U) (ht : Typed .byte A) {i : Nat} (hi : i < A.slots.size) : A.slots[i]? = some (.int (yv A i)) := by
  have e := Array.getElem?_eq_getElem hi
  have f := ht i _ e
  unfold yv; rw [e]
  generalize A.slots[i] = v at f
  cases v <;> simp [fits] at f ⊢
/-- the two arrays are equal, place for place -/
def EqC (A B : Cell) : Prop := A.slots.size = B.slots.size ∧ ∀ i, i < A.slots.size → yv A i = yv B i
/-- a boolean that says whether p -/
def Says01 (q : Prop) (r : Option Value) (s u : State) : Prop := ∃ v : Int32, r = some (.int v) ∧ u.heap = s.heap ∧ ((v = 1 ∧ q) ∨ (v = 0 ∧ ¬ q))
theorem Says01.mv {q : Prop} : ∀ r (U U' V V' : State), U'.heap = U.heap → V.vm.Alike V'.vm → V'.heap = V.heap → Says01 q r U V → Says01 q r U' V' :=
  fun r U U' V V' h1 _ h2 ⟨v, a, b, c⟩ => ⟨v, a, by rw [h1, h2]; exact b, c⟩
namespace LEq
def yN : MethodName := ⟨"java/lang/StringLatin1", "equals", "([B[B)Z"⟩
abbrev yB : ByteArray := jdk_43_method_13_code
theorem d0 : decode yB 0 = .ok (.aload_n 0, 1) := by decide +kernel
theorem d1 : decode yB 1 = .ok (.arraylength, 1) := by decide +kernel
theorem d2 : decode yB 2 = .ok (.aload_n 1, 1) := by decide +kernel
theorem d3 : decode yB 3 = .ok (.arraylength, 1) := by decide +kernel
theorem d4 : decode yB 4 = .ok (.if_icmp (.ne) 30, 3) := by decide +kernel
theorem d7 : decode yB 7 = .ok (.iconst 0, 1) := by decide +kernel
theorem d8 : decode yB 8 = .ok (.istore_n 2, 1) := by decide +kernel
theorem d9 : decode yB 9 = .ok (.iload_n 2, 1) := by decide +kernel
theorem d10 : decode yB 10 = .ok (.aload_n 0, 1) := by decide +kernel
theorem d11 : decode yB 11 = .ok (.arraylength, 1) := by decide +kernel
theorem d12 : decode yB 12 = .ok (.if_icmp (.ge) 20, 3) := by decide +kernel
theorem d15 : decode yB 15 = .ok (.aload_n 0, 1) := by decide +kernel
theorem d16 : decode yB 16 = .ok (.iload_n 2, 1) := by decide +kernel
theorem d17 : decode yB 17 = .ok (.baload, 1) := by decide +kernel
theorem d18 : decode yB 18 = .ok (.aload_n 1, 1) := by decide +kernel
theorem d19 : decode yB 19 = .ok (.iload_n 2, 1) := by decide +kernel
theorem d20 : decode yB 20 = .ok (.baload, 1) := by decide +kernel
theorem d21 : decode yB 21 = .ok (.if_icmp (.eq) 5, 3) := by decide +kernel
theorem d24 : decode yB 24 = .ok (.iconst 0, 1) := by decide +kernel
theorem d25 : decode yB 25 = .ok (.ireturn, 1) := by decide +kernel
theorem d26 : decode yB 26 = .ok (.iinc 2 1, 3) := by decide +kernel
theorem d29 : decode yB 29 = .ok (.goto (-20), 3) := by decide +kernel
theorem d32 : decode yB 32 = .ok (.iconst 1, 1) := by decide +kernel
theorem d33 : decode yB 33 = .ok (.ireturn, 1) := by decide +kernel
theorem d34 : decode yB 34 = .ok (.iconst 0, 1) := by decide +kernel
theorem d35 : decode yB 35 = .ok (.ireturn, 1) := by decide +kernel
def site : List Cond := []
def tab : Cond := tabOf yN yB 3 (some .boolean) site
def P (a : Addr) (A : Cell) (b : Addr) (B : Cell) (args : Array Value) (s : State) : Prop := args = #[.ref a, .ref b] ∧ XT.Arr .byte a A s ∧ Typed .byte A ∧ XT.Arr .byte b B s ∧ Typed .byte B
/-- whether two byte[] are equal, place for place -/
theorem law (l : Launch) (a : Addr) (A : Cell) (b : Addr) (B : Cell) : Law l yN 2 2 0 0 yB 3 (some .boolean) site (P a A b B) (Says01 (EqC A B)) [] 0 0 := by
  refine Law.of_walk (plainFor_of_name (by decide +kernel)) (by decide +kernel) (by decide +kernel) (by decide) (fun _ _ h => by rw [h.1]; rfl) (fun _ U U' hal hh h => ⟨h.1, h.2.1.mv hal hh, h.2.2.1, h.2.2.2.1.mv hal hh, h.2.2.2.2⟩) (fun r U U' V V' h1 hal h2 h => Says01.mv r U U' V V' h1 hal h2 h) ?_
  intro p e s m args below meth c s₁ X0 hexec hbytes hml hret hlk hnm hown hh0 W hP
  obtain ⟨rfl, hA, tA, hB, tB⟩ := hP
  have a31 := hA.2.2.2
  have b31 := hB.2.2.2
  have hA0 := hA.mv X0.warmed.alike hh0
  have hB0 := hB.mv X0.warmed.alike hh0
  have c1 : Steps p.tables e below (s₁.setTop (entryFrame m #[.ref a, .ref b] 3)) (s₁.setTop (mkF m 0 #[.val (.ref a), .val (.ref b), .unset] [])) := entry rfl
  have c2 : Steps p.tables e below (s₁.setTop (entryFrame m #[.ref a, .ref b] 3)) (s₁.setTop (mkF m 4 #[.val (.ref a), .val (.ref b), .unset] [.int (Int32.ofNat B.slots.size), .int (Int32.ofNat A.slots.size)])) := c1.trans (by
    refine XS.aloadN X0.here hexec rfl (hb hbytes d0) rfl rfl ?_
    refine X0.alen hexec hA0 rfl rfl (hb hbytes d1) ?_
    refine XS.aloadN X0.here hexec rfl (hb hbytes d2) rfl rfl ?_
    refine X0.alen hexec hB0 rfl rfl (hb hbytes d3) ?_
    exact Steps.refl _)
  by_cases hs : A.slots.size = B.slots.size
  · have c3 : Steps p.tables e below (s₁.setTop (entryFrame m #[.ref a, .ref b] 3)) (s₁.setTop (mkF m 9 #[.val (.ref a), .val (.ref b), .val (.int 0)] [])) := c2.trans (by
      refine XS.icmpNo X0.here hexec rfl (hb hbytes d4) rfl (ii_ne_f (by rw [hs])) ?_
      refine iconstV X0.here hexec rfl 0 (hb hbytes d7) (by decide) ?_
      refine XS.istoreN X0.here hexec rfl (hb hbytes d8) rfl rfl ?_
      exact Steps.refl _)
    have loop : ∀ (r i : Nat), i + r = A.slots.size → (∀ j, j < i → yv A j = yv B j) → Steps p.tables e below (s₁.setTop (entryFrame m #[.ref a, .ref b] 3)) (s₁.setTop (mkF m 9 #[.val (.ref a), .val (.ref b), .val (.int (Int32.ofNat i))] [])) → ∃ (pc : Nat) (Ls : Array Slot) (v : Int32), (pc = 25 ∨ pc = 33) ∧ ((v = 1 ∧ EqC A B) ∨ (v = 0 ∧ ¬ EqC A B)) ∧ Steps p.tables e below (s₁.setTop (entryFrame m #[.ref a, .ref b] 3)) (s₁.setTop (mkF m pc Ls [.int v])) := by
      intro r
      induction r with
      | zero =>
        intro i hi he cl
        exact ⟨33, _, 1, Or.inr rfl, Or.inl ⟨rfl, hs, fun j hj => he j (by omega)⟩, cl.trans (by
          refine XS.iloadN X0.here hexec rfl (hb hbytes d9) rfl ?_
          refine XS.aloadN X0.here hexec rfl (hb hbytes d10) rfl rfl ?_
          refine X0.alen hexec hA0 rfl rfl (hb hbytes d11) ?_
          refine XS.icmpYes X0.here hexec rfl (pc0 := 12) rfl (hb hbytes d12) rfl (ii_ge_t (nlt32 (by omega) (by omega))) (by decide) rfl ?_
          refine iconstV X0.here hexec rfl 1 (hb hbytes d32) (by decide) ?_
          exact Steps.refl _)⟩
      | succ r ih =>
        intro i hi he cl
        have c4 : Steps p.tables e below (s₁.setTop (entryFrame m #[.ref a, .ref b] 3)) (s₁.setTop (mkF m 21 #[.val (.ref a), .val (.ref b), .val (.int (Int32.ofNat i))] [.int (yv B i), .int (yv A i)])) := cl.trans (by
          refine XS.iloadN X0.here hexec rfl (hb hbytes d9) rfl ?_
          refine XS.aloadN X0.here hexec rfl (hb hbytes d10) rfl rfl ?_
          refine X0.alen hexec hA0 rfl rfl (hb hbytes d11) ?_
          refine XS.icmpNo X0.here hexec rfl (hb hbytes d12) rfl (ii_ge_f (lt32 (by omega) (by omega))) ?_
          refine XS.aloadN X0.here hexec rfl (hb hbytes d15) rfl rfl ?_
          refine XS.iloadN X0.here hexec rfl (hb hbytes d16) rfl ?_
          refine X0.aget hexec hA0 rfl (yv_get hA tA (i := i) (by omega)) rfl rfl (hb hbytes d17) ?_
          refine XS.aloadN X0.here hexec rfl (hb hbytes d18) rfl rfl ?_
          refine XS.iloadN X0.here hexec rfl (hb hbytes d19) rfl ?_
          refine X0.aget hexec hB0 rfl (yv_get hB tB (i := i) (by omega)) rfl rfl (hb hbytes d20) ?_
          exact Steps.refl _)
        by_cases hv : yv A i = yv B i
        · have c5 : Steps p.tables e below (s₁.setTop (entryFrame m #[.ref a, .ref b] 3)) (s₁.setTop (mkF m 9 #[.val (.ref a), .val (.ref b), .val (.int (Int32.ofNat i + 1))] [])) := c4.trans (by
            refine XS.icmpYes X0.here hexec rfl (pc0 := 21) rfl (hb hbytes d21) rfl (ii_eq_t hv) (by decide) rfl ?_
            refine iincV X0.here hexec rfl 1 (hb hbytes d26) (by decide) rfl rfl ?_
            refine XS.goto X0.here hexec rfl (pc0 := 29) rfl (hb hbytes d29) (by decide) rfl ?_
            exact Steps.refl _)
          rw [succ32] at c5
          exact ih (i + 1) (by omega) (fun j hj => by
            by_cases e : j = i
            · rw [e]; exact hv
            · exact he j (by omega)) c5
        · exact ⟨25, _, 0, Or.inl rfl, Or.inr ⟨rfl, fun q => hv (q.2 i (by omega))⟩, c4.trans (by
            refine XS.icmpNo X0.here hexec rfl (hb hbytes d21) rfl (ii_eq_f hv) ?_
            refine iconstV X0.here hexec rfl 0 (hb hbytes d24) (by decide) ?_
            exact Steps.refl _)⟩
    obtain ⟨pc, Ls, v, hpc, hv, cz⟩ := loop A.slots.size 0 (by omega) (fun j hj => absurd hj (Nat.not_lt_zero j)) c3
    have nv : narrow .boolean (.int v) = .int v := by rcases hv with ⟨rfl, -⟩ | ⟨rfl, -⟩ <;> rfl
    rcases hpc with rfl | rfl
    · exact ⟨s₁, some (.int v), _, _, _, X0, rfl, rfl, rfl, (fun h => by cases h), ⟨v, rfl, hh0, hv⟩, fun fs hl => cz.trans (X0.ireturnOut hexec hret nv (Or.inr (Or.inl rfl)) (hb hbytes d25) hl)⟩
    · exact ⟨s₁, some (.int v), _, _, _, X0, rfl, rfl, rfl, (fun h => by cases h), ⟨v, rfl, hh0, hv⟩, fun fs hl => cz.trans (X0.ireturnOut hexec hret nv (Or.inr (Or.inl rfl)) (hb hbytes d33) hl)⟩
  · have c3 : Steps p.tables e below (s₁.setTop (entryFrame m #[.ref a, .ref b] 3)) (s₁.setTop (mkF m 35 #[.val (.ref a), .val (.ref b), .unset] [.int 0])) := c2.trans (by
      refine XS.icmpYes X0.here hexec rfl (pc0 := 4) rfl (hb hbytes d4) rfl (ii_ne_t (ne32 a31 b31 hs)) (by decide) rfl ?_
      refine iconstV X0.here hexec rfl 0 (hb hbytes d34) (by decide) ?_
      exact Steps.refl _)
    exact ⟨s₁, some (.int 0), _, _, _, X0, rfl, rfl, rfl, (fun h => by cases h), ⟨0, rfl, hh0, Or.inr ⟨rfl, fun q => hs q.1⟩⟩, fun fs hl => c3.trans (X0.ireturnOut hexec hret rfl (Or.inr (Or.inl rfl)) (hb hbytes d35) hl)⟩
end LEq
theorem Cod.ty {cd : Int32} {n : Nat} {f : Nat → Int32} {V : Cell} (h : Cod cd n f V) : Typed .byte V := fun i v hv => by
  have hi : i < V.slots.size := (Array.getElem?_eq_some_iff.mp hv).1
  rcases h with ⟨-, k1, k2⟩ | ⟨-, k1, k2, -⟩
  · rw [(k2 i (by omega)).1] at hv; cases hv; exact fits_lo8 _
  · rcases Nat.mod_two_eq_zero_or_one i with e | e
    · obtain ⟨j, rfl⟩ : ∃ j, i = 2 * j := ⟨i / 2, by omega⟩
      rw [(k2 j (by omega)).1] at hv; cases hv; exact fits_lo8 _
    · obtain ⟨j, rfl⟩ : ∃ j, i = 2 * j + 1 := ⟨i / 2, by omega⟩
      rw [(k2 j (by omega)).2] at hv; cases hv; exact fits_lo8 _
/-- the same text -/
def SameT (n : Nat) (f : Nat → Int32) (k : Nat) (g : Nat → Int32) : Prop := n = k ∧ ∀ j, j < n → f j = g j
theorem lo8_inj {x y : Int32} (h0 : ¬ x < 0) (h1 : ¬ 255 < x) (k0 : ¬ y < 0) (k1 : ¬ 255 < y) (h : lo8 x = lo8 y) : x = y := by
  rw [← lo8_mask h0 h1, ← lo8_mask k0 k1, h]
/-- arrays coded by one coder are equal just where the texts are -/
theorem Cod.eqv {cd : Int32} {n k : Nat} {f g : Nat → Int32} {V V' : Cell} (h : Cod cd n f V) (h' : Cod cd k g V') (hf : ∀ j, j < n → ¬ f j < 0 ∧ ¬ 65535 < f j) (hg : ∀ j, j < k → ¬ g j < 0 ∧ ¬ 65535 < g j) : EqC V V' ↔ SameT n f k g := by
  have yvv : ∀ {W : Cell} {i : Nat} {x : Int32}, W.slots[i]? = some (.int x) → yv W i = x := fun q => by unfold yv; rw [q]
  rcases h with ⟨rfl, k1, k2⟩ | ⟨rfl, k1, k2, -⟩
  · rcases h' with ⟨-, m1, m2⟩ | ⟨e, -⟩
    · constructor
      · rintro ⟨e1, e2⟩
        refine ⟨by omega, fun j hj => ?_⟩
        have q := e2 j (by omega)
        rw [yvv (k2 j hj).1, yvv (m2 j (by omega)).1] at q
        exact lo8_inj (hf j hj).1 (k2 j hj).2 (hg j (by omega)).1 (m2 j (by omega)).2 q
      · rintro ⟨rfl, e2⟩
        refine ⟨by omega, fun j hj => ?_⟩
        rw [yvv (k2 j (by omega)).1, yvv (m2 j (by omega)).1, e2 j (by omega)]
    · exact absurd e (by decide)
  · rcases h' with ⟨e, -⟩ | ⟨-, m1, m2, -⟩
    · exact absurd e (by decide)
    · constructor
      · rintro ⟨e1, e2⟩
        refine ⟨by omega, fun j hj => ?_⟩
        have q1 := e2 (2 * j) (by omega)
        have q2 := e2 (2 * j + 1) (by omega)
        rw [yvv (k2 j hj).1, yvv (m2 j (by omega)).1] at q1
        rw [yvv (k2 j hj).2, yvv (m2 j (by omega)).2] at q2
        rw [← pair_says (hf j hj).1 (hf j hj).2, ← pair_says (hg j (by omega)).1 (hg j (by omega)).2, q1, q2]
      · rintro ⟨rfl, e2⟩
        refine ⟨by omega, fun i hi => ?_⟩
        rcases Nat.mod_two_eq_zero_or_one i with e | e
        · obtain ⟨j, rfl⟩ : ∃ j, i = 2 * j := ⟨i / 2, by omega⟩
          rw [yvv (k2 j (by omega)).1, yvv (m2 j (by omega)).1, e2 j (by omega)]
        · obtain ⟨j, rfl⟩ : ∃ j, i = 2 * j + 1 := ⟨i / 2, by omega⟩
          rw [yvv (k2 j (by omega)).2, yvv (m2 j (by omega)).2, e2 j (by omega)]
/-- two codings differ: so do the texts -/
theorem Cod.dif {cd cd' : Int32} {n k : Nat} {f g : Nat → Int32} {V V' : Cell} (h : Cod cd n f V) (h' : Cod cd' k g V') (hne : ¬ cd = cd') : ¬ SameT n f k g := by
  rintro ⟨rfl, e⟩
  rcases h with ⟨rfl, -, k2⟩ | ⟨rfl, -, -, j, hj, hw⟩
  · rcases h' with ⟨rfl, -⟩ | ⟨-, -, -, j, hj, hw⟩
    · exact hne rfl
    · exact (k2 j hj).2 (by rw [e j hj]; exact hw)
  · rcases h' with ⟨-, -, m2⟩ | ⟨rfl, -⟩
    · exact (m2 j hj).2 (by rw [← e j hj]; exact hw)
    · exact hne rfl
/-- an object of exactly C is an instance of C -/
theorem cinst {p : Program} {l : Launch} {e : Env} {R : Room} {s : State} {m : MethodId} {args : Array Value} {below : List Frame} {meth : Method} {c : Code} {T : State} {locs : List Loc} {cells slots : Nat} (X : Stand p l e R s m args below meth c T locs cells slots) (hexec : p.tables.exec = Jvm.exec) {own C : String} {index : Nat} (hown : s.vm.findClass own = some m.cls) (hlink : (Cond.classLink own index C).before args s = true) {a : Addr} (hE : Exact C a T)
    {g : JFrame} (hg : g.method = m) {rest : List Value} (hstack : g.stack = .ref a :: rest) (hdg : decode c.code g.pc = .ok (.instanceof index, 3)) :
    ∃ T', Stand p l e R s m args below meth c T' locs cells slots ∧ T'.heap = T.heap ∧ ∀ target, Steps p.tables e below (T'.setTop { g with pc := g.pc + 3, stack := .int 1 :: rest }) target → Steps p.tables e below (T.setTop g) target := by
  obtain ⟨cB, h1, D, h2, h3, h4⟩ := hE
  have h1' : s.vm.findClass C = some cB := by rw [← X.warmed.alike.findClass]; exact h1
  obtain ⟨vm', X', st⟩ := X.instanceofYes hexec hown hlink h2 h4 h1' (by rw [h3]; exact Jvm.Free.SB.assignable_self _ _) hg hstack hdg
  exact ⟨_, X', rfl, st⟩
theorem cself {p : Program} {l : Launch} {e : Env} {R : Room} {s : State} {m : MethodId} {args : Array Value} {below : List Frame} {meth : Method} {c : Code} {T : State} {locs : List Loc} {cells slots : Nat} (X : Stand p l e R s m args below meth c T locs cells slots) (hexec : p.tables.exec = Jvm.exec) {own C : String} {index : Nat} (hown : s.vm.findClass own = some m.cls) (hlink : (Cond.classLink own index C).before args s = true) {a : Addr} (hE : Exact C a T)
    {g : JFrame} (hg : g.method = m) {rest : List Value} (hstack : g.stack = .ref a :: rest) (hdg : decode c.code g.pc = .ok (.checkcast index, 3)) :
    ∃ T', Stand p l e R s m args below meth c T' locs cells slots ∧ T'.heap = T.heap ∧ ∀ target, Steps p.tables e below (T'.setTop { g with pc := g.pc + 3, stack := .ref a :: rest }) target → Steps p.tables e below (T.setTop g) target := by
  obtain ⟨cB, h1, D, h2, h3, h4⟩ := hE
  have h1' : s.vm.findClass C = some cB := by rw [← X.warmed.alike.findClass]; exact h1
  obtain ⟨vm', X', st⟩ := X.checkcastYes hexec hown hlink h2 h4 h1' (by rw [h3]; exact Jvm.Free.SB.assignable_self _ _) hg hstack hdg
  exact ⟨_, X', rfl, fun t h => st t (by rw [← hstack] at h; exact h)⟩
namespace SEq
def yN : MethodName := ⟨"java/lang/String", "equals", "(Ljava/lang/Object;)Z"⟩
abbrev yB : ByteArray := jdk_42_method_66_code
theorem d0 : decode yB 0 = .ok (.aload_n 0, 1) := by decide +kernel
theorem d1 : decode yB 1 = .ok (.aload_n 1, 1) := by decide +kernel
theorem d2 : decode yB 2 = .ok (.if_acmp (.ne) 5, 3) := by decide +kernel
theorem d5 : decode yB 5 = .ok (.iconst 1, 1) := by decide +kernel
theorem d6 : decode yB 6 = .ok (.ireturn, 1) := by decide +kernel
theorem d7 : decode yB 7 = .ok (.aload_n 1, 1) := by decide +kernel
theorem d8 : decode yB 8 = .ok (.instanceof 10, 3) := by decide +kernel
theorem d11 : decode yB 11 = .ok (.ifCond (.eq) 43, 3) := by decide +kernel
theorem d14 : decode yB 14 = .ok (.aload_n 1, 1) := by decide +kernel
theorem d15 : decode yB 15 = .ok (.checkcast 10, 3) := by decide +kernel
theorem d18 : decode yB 18 = .ok (.astore_n 2, 1) := by decide +kernel
theorem d19 : decode yB 19 = .ok (.getstatic 38, 3) := by decide +kernel
theorem d22 : decode yB 22 = .ok (.ifCond (.eq) 14, 3) := by decide +kernel
theorem d25 : decode yB 25 = .ok (.aload_n 0, 1) := by decide +kernel
theorem d26 : decode yB 26 = .ok (.getfield 15, 3) := by decide +kernel
theorem d29 : decode yB 29 = .ok (.aload_n 2, 1) := by decide +kernel
theorem d30 : decode yB 30 = .ok (.getfield 15, 3) := by decide +kernel
theorem d33 : decode yB 33 = .ok (.if_icmp (.ne) 21, 3) := by decide +kernel
theorem d36 : decode yB 36 = .ok (.aload_n 0, 1) := by decide +kernel
theorem d37 : decode yB 37 = .ok (.getfield 9, 3) := by decide +kernel
theorem d40 : decode yB 40 = .ok (.aload_n 2, 1) := by decide +kernel
theorem d41 : decode yB 41 = .ok (.getfield 9, 3) := by decide +kernel
theorem d44 : decode yB 44 = .ok (.invokestatic 541, 3) := by decide +kernel
theorem d47 : decode yB 47 = .ok (.ifCond (.eq) 7, 3) := by decide +kernel
theorem d50 : decode yB 50 = .ok (.iconst 1, 1) := by decide +kernel
theorem d51 : decode yB 51 = .ok (.goto 4, 3) := by decide +kernel
theorem d54 : decode yB 54 = .ok (.iconst 0, 1) := by decide +kernel
theorem d55 : decode yB 55 = .ok (.ireturn, 1) := by decide +kernel
def site : List Cond := [.classLink "java/lang/String" 10 "java/lang/String", .fieldLink "java/lang/String" 38 "java/lang/String" "COMPACT_STRINGS" "Z", .fieldLink "java/lang/String" 15 "java/lang/String" "coder" "B", .fieldLink "java/lang/String" 9 "java/lang/String" "value" "[B", LEq.tab] ++ staticW "java/lang/String" 541 LEq.yN
def tab : Cond := tabOf yN yB 3 (some .boolean) site
def P (x t : Addr) (V : Cell) (cd : Int32) (n : Nat) (f : Nat → Int32) (y t' : Addr) (V' : Cell) (cd' : Int32) (k : Nat) (g : Nat → Int32) (z : Int32) (args : Array Value) (s : State) : Prop := args = #[.ref x, .ref y] ∧ Txt x t V cd n f s ∧ Txt y t' V' cd' k g s ∧ StaticIs s "java/lang/String" "COMPACT_STRINGS" "Z" (.int z) ∧ ¬ z = 0
/-- equals(Object) of two Strings: whether the texts are the same -/
theorem law (l : Launch) (x t : Addr) (V : Cell) (cd : Int32) (n : Nat) (f : Nat → Int32) (y t' : Addr) (V' : Cell) (cd' : Int32) (k : Nat) (g : Nat → Int32) (z : Int32) : Law l yN 2 1 1 14 yB 3 (some .boolean) site (P x t V cd n f y t' V' cd' k g z) (Says01 (SameT n f k g)) [] 0 0 := by
  refine Law.of_walk (plainFor_of_name (by decide +kernel)) (by decide +kernel) (by decide +kernel) (by decide) (fun _ _ h => by rw [h.1]; rfl) (fun _ U U' hal hh h => ⟨h.1, h.2.1.mv hal hh, h.2.2.1.mv hal hh, h.2.2.2.1.there hal hh, h.2.2.2.2⟩) (fun r U U' V V' h1 hal h2 h => Says01.mv r U U' V V' h1 hal h2 h) ?_
  intro p e s m args below meth c s₁ X0 hexec hbytes hml hret hlk hnm hown hh0 W hP
  obtain ⟨rfl, hx, hy, s1, hz⟩ := hP
  have c1 : Steps p.tables e below (s₁.setTop (entryFrame m #[.ref x, .ref y] 3)) (s₁.setTop (mkF m 2 #[.val (.ref x), .val (.ref y), .unset] [.ref y, .ref x])) := Steps.trans (entry rfl) (by
    show Steps p.tables e below (s₁.setTop (mkF m 0 #[.val (.ref x), .val (.ref y), .unset] [])) _
    refine XS.aloadN X0.here hexec rfl (hb hbytes d0) rfl rfl ?_
    refine XS.aloadN X0.here hexec rfl (hb hbytes d1) rfl rfl ?_
    exact Steps.refl _)
  by_cases hxy : x = y
  · have c2 : Steps p.tables e below (s₁.setTop (entryFrame m #[.ref x, .ref y] 3)) (s₁.setTop (mkF m 6 #[.val (.ref x), .val (.ref y), .unset] [.int 1])) := c1.trans (by
      refine acmpNo X0.here hexec rfl (hb hbytes d2) rfl rfl rfl (by simp [acmp, hxy]) ?_
      refine iconstV X0.here hexec rfl 1 (hb hbytes d5) (by decide) ?_
      exact Steps.refl _)
    subst hxy
    have ec : cd = cd' := by
      obtain ⟨D, fd, a1, a2, a3⟩ := hx.2.2.1
      obtain ⟨D', fd', b1, b2, b3⟩ := hy.2.2.1
      cases a1.symm.trans b1
      obtain ⟨q1, q2, q3, q4⟩ := a2.1
      obtain ⟨r1, r2, r3, r4⟩ := b2.1
      cases q4.symm.trans r4
      cases a3.symm.trans b3; rfl
    have et : t = t' := by
      obtain ⟨D, fd, a1, a2, a3⟩ := hx.2.1
      obtain ⟨D', fd', b1, b2, b3⟩ := hy.2.1
      cases a1.symm.trans b1
      obtain ⟨q1, q2, q3, q4⟩ := a2.1
      obtain ⟨r1, r2, r3, r4⟩ := b2.1
      cases q4.symm.trans r4
      cases a3.symm.trans b3; rfl
    subst ec et
    have ev : V = V' := by cases hx.2.2.2.1.1.symm.trans hy.2.2.2.1.1; rfl
    subst ev
    have hs : SameT n f k g := (Cod.eqv hx.2.2.2.2.1 hy.2.2.2.2.1 hx.2.2.2.2.2 hy.2.2.2.2.2).mp ⟨rfl, fun _ _ => rfl⟩
    exact ⟨s₁, some (.int 1), _, _, _, X0, rfl, rfl, rfl, (fun h => by cases h), ⟨1, rfl, hh0, Or.inl ⟨rfl, hs⟩⟩, fun fs hl => c2.trans (X0.ireturnOut hexec hret rfl (Or.inr (Or.inl rfl)) (hb hbytes d6) hl)⟩
  · have c2 : Steps p.tables e below (s₁.setTop (entryFrame m #[.ref x, .ref y] 3)) (s₁.setTop (mkF m 8 #[.val (.ref x), .val (.ref y), .unset] [.ref y])) := c1.trans (by
      refine acmpYes X0.here hexec rfl (pc0 := 2) rfl (hb hbytes d2) rfl rfl rfl (by simp [acmp, hxy]) (by decide) rfl ?_
      refine XS.aloadN X0.here hexec rfl (hb hbytes d7) rfl rfl ?_
      exact Steps.refl _)
    obtain ⟨T3, X3, q3, st3⟩ := cinst X0 hexec hown (wk W (.classLink "java/lang/String" 10 "java/lang/String")) (hy.mv X0.warmed.alike hh0).1 (g := (mkF m 8 #[.val (.ref x), .val (.ref y), .unset] [.ref y])) rfl (rest := []) rfl (hb hbytes d8)
    have hh3 := q3.trans hh0
    have c4 : Steps p.tables e below (s₁.setTop (entryFrame m #[.ref x, .ref y] 3)) (T3.setTop (mkF m 15 #[.val (.ref x), .val (.ref y), .unset] [.ref y])) := (c2.trans (st3 _ (Steps.refl _))).trans (by
      refine XS.ifNo X3.here hexec rfl (hb hbytes d11) rfl (i0_eq_f (by decide)) ?_
      refine XS.aloadN X3.here hexec rfl (hb hbytes d14) rfl rfl ?_
      exact Steps.refl _)
    obtain ⟨T5, X5, q5, st5⟩ := cself X3 hexec hown (wk W (.classLink "java/lang/String" 10 "java/lang/String")) (hy.mv X3.warmed.alike hh3).1 (g := (mkF m 15 #[.val (.ref x), .val (.ref y), .unset] [.ref y])) rfl (rest := []) rfl (hb hbytes d15)
    have hh5 := q5.trans hh3
    have c6 : Steps p.tables e below (s₁.setTop (entryFrame m #[.ref x, .ref y] 3)) (T5.setTop (mkF m 19 #[.val (.ref x), .val (.ref y), .val (.ref y)] [])) := (c4.trans (st5 _ (Steps.refl _))).trans (by
      refine XS.astoreN X5.here hexec rfl (hb hbytes d18) rfl rfl rfl ?_
      exact Steps.refl _)
    obtain ⟨T7, X7, q7, st7⟩ := X5.sget hexec hown (wk W (.fieldLink "java/lang/String" 38 "java/lang/String" "COMPACT_STRINGS" "Z")) s1 (fun _ _ h => by rw [hh5]; exact h) (g := (mkF m 19 #[.val (.ref x), .val (.ref y), .val (.ref y)] [])) rfl (hb hbytes d19)
    have hh7 := q7.trans hh5
    have c8 : Steps p.tables e below (s₁.setTop (entryFrame m #[.ref x, .ref y] 3)) (T7.setTop (mkF m 26 #[.val (.ref x), .val (.ref y), .val (.ref y)] [.ref x])) := (c6.trans (st7 _ (Steps.refl _))).trans (by
      refine XS.ifNo X7.here hexec rfl (hb hbytes d22) rfl (i0_eq_f hz) ?_
      refine XS.aloadN X7.here hexec rfl (hb hbytes d25) rfl rfl ?_
      exact Steps.refl _)
    obtain ⟨T9, X9, q9, st9⟩ := X7.hget hexec hown (wk W (.fieldLink "java/lang/String" 15 "java/lang/String" "coder" "B")) (hx.mv X7.warmed.alike hh7).2.2.1 (g := (mkF m 26 #[.val (.ref x), .val (.ref y), .val (.ref y)] [.ref x])) rfl (rest := []) rfl (hb hbytes d26)
    have hh9 := q9.trans hh7
    have c10 : Steps p.tables e below (s₁.setTop (entryFrame m #[.ref x, .ref y] 3)) (T9.setTop (mkF m 30 #[.val (.ref x), .val (.ref y), .val (.ref y)] [.ref y, .int cd])) := (c8.trans (st9 _ (Steps.refl _))).trans (by
      refine XS.aloadN X9.here hexec rfl (hb hbytes d29) rfl rfl ?_
      exact Steps.refl _)
    obtain ⟨T11, X11, q11, st11⟩ := X9.hget hexec hown (wk W (.fieldLink "java/lang/String" 15 "java/lang/String" "coder" "B")) (hy.mv X9.warmed.alike hh9).2.2.1 (g := (mkF m 30 #[.val (.ref x), .val (.ref y), .val (.ref y)] [.ref y, .int cd])) rfl (rest := [.int cd]) rfl (hb hbytes d30)
    have hh11 := q11.trans hh9
    have c12 : Steps p.tables e below (s₁.setTop (entryFrame m #[.ref x, .ref y] 3)) (T11.setTop (mkF m 33 #[.val (.ref x), .val (.ref y), .val (.ref y)] [.int cd', .int cd])) := c10.trans (st11 _ (Steps.refl _))
    by_cases hcd : cd = cd'
    · subst hcd
      have c13 : Steps p.tables e below (s₁.setTop (entryFrame m #[.ref x, .ref y] 3)) (T11.setTop (mkF m 37 #[.val (.ref x), .val (.ref y), .val (.ref y)] [.ref x])) := c12.trans (by
        refine XS.icmpNo X11.here hexec rfl (hb hbytes d33) rfl (ii_ne_f rfl) ?_
        refine XS.aloadN X11.here hexec rfl (hb hbytes d36) rfl rfl ?_
        exact Steps.refl _)
      obtain ⟨T14, X14, q14, st14⟩ := X11.hget hexec hown (wk W (.fieldLink "java/lang/String" 9 "java/lang/String" "value" "[B")) (hx.mv X11.warmed.alike hh11).2.1 (g := (mkF m 37 #[.val (.ref x), .val (.ref y), .val (.ref y)] [.ref x])) rfl (rest := []) rfl (hb hbytes d37)
      have hh14 := q14.trans hh11
      have c15 : Steps p.tables e below (s₁.setTop (entryFrame m #[.ref x, .ref y] 3)) (T14.setTop (mkF m 41 #[.val (.ref x), .val (.ref y), .val (.ref y)] [.ref y, .ref t])) := (c13.trans (st14 _ (Steps.refl _))).trans (by
        refine XS.aloadN X14.here hexec rfl (hb hbytes d40) rfl rfl ?_
        exact Steps.refl _)
      obtain ⟨T16, X16, q16, st16⟩ := X14.hget hexec hown (wk W (.fieldLink "java/lang/String" 9 "java/lang/String" "value" "[B")) (hy.mv X14.warmed.alike hh14).2.1 (g := (mkF m 41 #[.val (.ref x), .val (.ref y), .val (.ref y)] [.ref y, .ref t])) rfl (rest := [.ref t]) rfl (hb hbytes d41)
      have hh16 := q16.trans hh14
      have c17 : Steps p.tables e below (s₁.setTop (entryFrame m #[.ref x, .ref y] 3)) (T16.setTop (mkF m 44 #[.val (.ref x), .val (.ref y), .val (.ref y)] [.ref t', .ref t])) := c15.trans (st16 _ (Steps.refl _))
      obtain ⟨v18, T18, X18, E18, g18⟩ := X16.callS hexec (LEq.law l t V t' V') hown (wks W (staticW "java/lang/String" 541 LEq.yN)) (wk W LEq.tab) (W := 0) (Nat.le_of_ble_eq_true rfl) (Nat.le_of_ble_eq_true rfl) (Nat.le_refl _) (Nat.le_refl _) (g := (mkF m 44 #[.val (.ref x), .val (.ref y), .val (.ref y)] [.ref t', .ref t])) rfl (by rw [hml]; rfl) c17 (argsL := [.ref t, .ref t']) (rest := []) rfl rfl (by show 2 * 0 + 0 ≤ _; decide) (hb hbytes d44) (⟨rfl, hx.2.2.2.1.mv X16.warmed.alike hh16, hx.2.2.2.2.1.ty, hy.2.2.2.1.mv X16.warmed.alike hh16, hy.2.2.2.2.1.ty⟩)
      obtain ⟨v, rfl, q18, hv⟩ := E18
      have iff := Cod.eqv hx.2.2.2.2.1 hy.2.2.2.2.1 hx.2.2.2.2.2 hy.2.2.2.2.2
      rcases hv with ⟨rfl, he⟩ | ⟨rfl, he⟩
      · have c19 : Steps p.tables e below (s₁.setTop (entryFrame m #[.ref x, .ref y] 3)) (T18.setTop (mkF m 55 #[.val (.ref x), .val (.ref y), .val (.ref y)] [.int 1])) := Steps.trans g18 (by
          refine XS.ifNo X18.here hexec rfl (hb hbytes d47) rfl (i0_eq_f (by decide)) ?_
          refine iconstV X18.here hexec rfl 1 (hb hbytes d50) (by decide) ?_
          refine XS.goto X18.here hexec rfl (pc0 := 51) rfl (hb hbytes d51) (by decide) rfl ?_
          exact Steps.refl _)
        exact ⟨T18, some (.int 1), _, _, _, X18, rfl, rfl, rfl, (fun h => by cases h), ⟨1, rfl, q18.trans hh16, Or.inl ⟨rfl, iff.mp he⟩⟩, fun fs hl => c19.trans (X18.ireturnOut hexec hret rfl (Or.inr (Or.inl rfl)) (hb hbytes d55) hl)⟩
      · have c19 : Steps p.tables e below (s₁.setTop (entryFrame m #[.ref x, .ref y] 3)) (T18.setTop (mkF m 55 #[.val (.ref x), .val (.ref y), .val (.ref y)] [.int 0])) := Steps.trans g18 (by
          refine XS.ifYes X18.here hexec rfl (pc0 := 47) rfl (hb hbytes d47) rfl (i0_eq_t rfl) (by decide) rfl ?_
          refine iconstV X18.here hexec rfl 0 (hb hbytes d54) (by decide) ?_
          exact Steps.refl _)
        exact ⟨T18, some (.int 0), _, _, _, X18, rfl, rfl, rfl, (fun h => by cases h), ⟨0, rfl, q18.trans hh16, Or.inr ⟨rfl, fun q => he (iff.mpr q)⟩⟩, fun fs hl => c19.trans (X18.ireturnOut hexec hret rfl (Or.inr (Or.inl rfl)) (hb hbytes d55) hl)⟩
    · have c13 : Steps p.tables e below (s₁.setTop (entryFrame m #[.ref x, .ref y] 3)) (T11.setTop (mkF m 55 #[.val (.ref x), .val (.ref y), .val (.ref y)] [.int 0])) := c12.trans (by
        refine XS.icmpYes X11.here hexec rfl (pc0 := 33) rfl (hb hbytes d33) rfl (ii_ne_t hcd) (by decide) rfl ?_
        refine iconstV X11.here hexec rfl 0 (hb hbytes d54) (by decide) ?_
        exact Steps.refl _)
      exact ⟨T11, some (.int 0), _, _, _, X11, rfl, rfl, rfl, (fun h => by cases h), ⟨0, rfl, hh11, Or.inr ⟨rfl, Cod.dif hx.2.2.2.2.1 hy.2.2.2.2.1 hcd⟩⟩, fun fs hl => c13.trans (X11.ireturnOut hexec hret rfl (Or.inr (Or.inl rfl)) (hb hbytes d55) hl)⟩
theorem pays {l : Launch} {R : Room} {p : Program} {e : Env} {below : List Frame} {s : State} {sargs : Array Value} {len W : Nat} (x t : Addr) (V : Cell) (cd : Int32) (n : Nat) (f : Nat → Int32) (y t' : Addr) (V' : Cell) (cd' : Int32) (k : Nat) (g : Nat → Int32) (z : Int32) (htab : tab.before sargs s = true) (hfr : 2 ≤ R.frames) (hlo : W + 28 ≤ R.locals) :
    Back l R p e below s sargs yN len W (fun A₁ a₁ => A₁.cells + 0 ≤ R.cells ∧ A₁.slots + 0 ≤ R.slots ∧ P x t V cd n f y t' V' cd' k g z a₁ A₁.U) (fun A₁ _ v₁ B₁ => Says01 (SameT n f k g) v₁ A₁.U B₁.U ∧ B₁.locs = A₁.locs ++ [] ∧ B₁.cells = A₁.cells + 0 ∧ B₁.slots = A₁.slots + 0) :=
  (law l x t V cd n f y t' V' cd' k g z).pays htab hfr (by omega)
end SEq
end StrChars
namespace StrChars.Road
open Jvm Sem ClassFile Op Lib Jvm.Stand Jvm.Free Jvm.Free.XT
open Jvm.Lib.Cold (StaticIs)
/-- the words of String.equals(Object) -/
abbrev wordsEq : List Jvm.Cond := [.code SEq.yN SEq.yB 3 (some .boolean), .initialized ST, .classLink ST 10 ST, .fieldLink ST 38 ST "COMPACT_STRINGS" "Z", .fieldLink ST 15 ST "coder" "B", .fieldLink ST 9 ST "value" "[B", .methodLink ST 541 LEq.yN, .static LEq.yN, .code LEq.yN LEq.yB 3 (some .boolean), .initialized "java/lang/StringLatin1"]
theorem tabEq_of {a : Array Value} {s : State} (h : ∀ w ∈ wordsEq, w.before a s = true) : SEq.tab.before a s = true := by
  have hl : LEq.tab.before a s = true := unparts (wk h (.code LEq.yN LEq.yB 3 (some .boolean))) (wks h (.initialized LEq.yN.cls :: LEq.site))
  have q := consq hl h
  exact unparts (wk q (.code SEq.yN SEq.yB 3 (some .boolean))) (wks q (.initialized SEq.yN.cls :: SEq.site))
theorem movedEq {Z s : State} {a0 args : Array Value} (hZ : Z.Warmed39 s.vm) (hw : ∀ d ∈ wordsEq, d.before a0 Z = true) : ∀ d ∈ wordsEq, d.before args s = true := fun d hd => by
  have t : ∀ d ∈ wordsEq, (d.onTables && d.keepsFace) = true := by decide +kernel
  exact RoadKit.mv hZ (hw d hd) (t d hd)
/-- the road's facts of a String, as the laws ask it -/
theorem txt_of {Z U : State} {a0 : Array Value} {kI : Nat} (wi : (Jvm.Cond.instantiable ST kI).before a0 Z = true) (al : Z.vm.Alike U.vm) {x t : Addr} {kb : ClassId} {cs : List Int32} {cd N2 : Int32} {vs : List Value} (E : RoadKit.Exa Z U.heap x ST) (V : RoadKit.Fld Z U.heap x ST "value" "[B" (.ref t)) (C : RoadKit.Fld Z U.heap x ST "coder" "B" (.int cd)) (K : RoadKit.Arv Z U.heap t kb .byte N2 vs (.int 0)) (hc : CodA cs cd N2 vs) (hb : ∀ c ∈ cs, ¬ c < 0 ∧ ¬ (65535 : Int32) < c) (l2 : cs.length ≤ 4000) :
    ∃ A, Txt x t A cd cs.length (fun j => cs.getD j 0) U := by
  obtain ⟨A, K1, K2, K3, K4, K5, K6⟩ := K
  have hcod := hc.cod (by omega) K3 K5
  obtain ⟨D, fV, fC, hB, F1, F2, g1, g2, -, -⟩ := strObj wi al E V C
  exact ⟨A, ⟨_, hB.2.2.1, D, hB.1, rfl, by cases q : D.vm <;> first | rfl | exact absurd q (hB.2.1.2 _)⟩, Has.of hB F1 g1, Has.of hB F2 g2, ⟨K1.1, State.isArrayOf_alike al K1.2.1, K1.2.2, by rcases hcod with ⟨-, q, -⟩ | ⟨-, q, -⟩ <;> omega⟩, hcod, fun j hj => by
    have e : cs.getD j 0 = cs[j] := by simp [List.getD_eq_getElem?_getD, hj]
    show ¬ cs.getD j 0 < 0 ∧ ¬ 65535 < cs.getD j 0
    rw [e]; exact hb _ (List.getElem_mem _)⟩
theorem same_list (cs ds : List Int32) : SameT cs.length (fun j => cs.getD j 0) ds.length (fun j => ds.getD j 0) ↔ cs = ds := by
  constructor
  · rintro ⟨e, q⟩
    refine List.ext_getElem e fun j h1 h2 => ?_
    have := q j h1
    simpa [List.getD_eq_getElem?_getD, h1, h2] using this
  · rintro rfl
    exact ⟨rfl, fun _ _ => rfl⟩
/-- **equals(Object) OF TWO SUCH STRINGS**: 1 just where the chars are the same -/
theorem eqW {p : Program} {l : Launch} {e : Env} {R : Room} {s : State} {args : Array Value} {below : List Frame} {len W : Nat} {Z : State} {a0 : Array Value} {h : Heap} (hZ : Z.Warmed39 s.vm) (hw : ∀ d ∈ wordsEq, d.before a0 Z = true) {kI : Nat} (wi : (Jvm.Cond.instantiable ST kI).before a0 Z = true)
    {x t : Addr} {kb : ClassId} {cs : List Int32} {cd N2 : Int32} {vs : List Value} (E : RoadKit.Exa Z h x ST) (V : RoadKit.Fld Z h x ST "value" "[B" (.ref t)) (C : RoadKit.Fld Z h x ST "coder" "B" (.int cd)) (K : RoadKit.Arv Z h t kb .byte N2 vs (.int 0)) (hc : CodA cs cd N2 vs) (hb : ∀ c ∈ cs, ¬ c < 0 ∧ ¬ (65535 : Int32) < c) (l2 : cs.length ≤ 4000)
    {y t' : Addr} {kb' : ClassId} {ds : List Int32} {cd' N2' : Int32} {vs' : List Value} (E' : RoadKit.Exa Z h y ST) (V' : RoadKit.Fld Z h y ST "value" "[B" (.ref t')) (C' : RoadKit.Fld Z h y ST "coder" "B" (.int cd')) (K' : RoadKit.Arv Z h t' kb' .byte N2' vs' (.int 0)) (hc' : CodA ds cd' N2' vs') (hb' : ∀ c ∈ ds, ¬ c < 0 ∧ ¬ (65535 : Int32) < c) (l2' : ds.length ≤ 4000)
    {z : Int32} (S : RoadKit.Sta Z h ST "COMPACT_STRINGS" "Z" (.int z)) (hz : ¬ z = 0) (hfr : 2 ≤ R.frames) (hlo : W + 28 ≤ R.locals) :
    Back l R p e below s args (⟨"java/lang/String", "equals", "(Ljava/lang/Object;)Z"⟩ : MethodName) len W (fun P a => a = #[.ref x, .ref y] ∧ P.U.heap = h ∧ P.cells + 0 ≤ R.cells ∧ P.slots + 0 ≤ R.slots)
      (fun P _ v B => ∃ L, (((v = some (.int 1) ∧ cs = ds) ∨ (v = some (.int 0) ∧ ¬ cs = ds)) ∧ L = [] ∧ B.U.heap = h) ∧ B.locs = P.locs ++ L ∧ B.cells = P.cells + 0 ∧ B.slots = P.slots + 0) := by
  intro m meth c P g ig mk a X hg hsize hdg hW hn hp'
  obtain ⟨rfl, rfl, r1, r2⟩ := hp'
  have al : Z.vm.Alike P.U.vm := hZ.alike.trans X.warmed.alike
  obtain ⟨A, hx⟩ := txt_of wi al E V C K hc hb l2
  obtain ⟨A', hy⟩ := txt_of wi al E' V' C' K' hc' hb' l2'
  obtain ⟨v, B, X', ⟨⟨w, hv, hh, hq⟩, hl, hk, hs⟩, st⟩ := SEq.pays x t A cd cs.length (fun j => cs.getD j 0) y t' A' cd' ds.length (fun j => ds.getD j 0) z (tabEq_of (movedEq hZ hw)) hfr hlo m meth c P g ig mk _ X hg hsize hdg hW hn ⟨r1, r2, rfl, hx, hy, sta_is al S, hz⟩
  refine ⟨v, B, X', ⟨[], ⟨?_, rfl, hh⟩, hl, hk, hs⟩, st⟩
  rcases hq with ⟨rfl, q⟩ | ⟨rfl, q⟩
  · exact Or.inl ⟨hv, (same_list cs ds).mp q⟩
  · exact Or.inr ⟨hv, fun e => q ((same_list cs ds).mpr e)⟩
end StrChars.Road
namespace StrChars.Road
open Jvm Sem ClassFile Op Lib Jvm.Stand Jvm.Free Jvm.Free.XT
open Jvm.Lib.Cold (StaticIs)
/-- what backV says of its String, as the contracts of this text ask it: cs's low bytes, coder 0 -/
theorem codOf {cs : List Int32} {n : Nat} (hn : cs.length = n) (hb : ∀ c ∈ cs, ¬ 255 < c) : CodA cs 0 (Int32.ofNat n) ((cs.map lo8).map Value.int) := Or.inl ⟨rfl, by rw [hn], by simp [List.map_map, Function.comp_def], hb⟩
end StrChars.Road
end Jvm.Pilot.@@N@@
namespace Jvm.Pilot.@@N@@
open Jvm Jvm.ClassFile Sem Op Lib Jvm.Free Jvm.Stand Jvm.LawKit Jvm.RoadKit Bundle Jvm.Pilot.@@N@@.Jvm.D
theorem own_safe_null {Z : State} {EL : List (String × Nat)} {vm : Vm} {h : Heap} {a : Addr} (hal : Z.vm.Alike vm) (E : Exa Z h a "java/lang/String") (F : Fld Z h a "java/lang/String" "value" "[B" .null) : Safe Z EL vm h a := fun B => by
  obtain ⟨cell, k, e1, e2, e3, -, -⟩ := E
  obtain ⟨cell', cf, k', i, f, f1, f2, f3, f4, f5, f6, f7⟩ := F
  cases e1.symm.trans f1
  obtain ⟨p, -, u, a', -, q, -, G, rfl | rfl⟩ := B
  · cases (show h[q.sa]? = some q.sC from G.ha).symm.trans e1
    obtain ⟨cS, ⟨⟨s1, s2, s3, ⟨cv, kv, iv, s4, s4'⟩, ⟨cc, kc, ic, s5, s5'⟩, s6, s7, s8, -⟩, -, -⟩, -⟩ := G
    obtain ⟨kv', z4⟩ := ff_back (U := Wst Z vm h) hal s4
    cases f2.symm.trans z4
    cases f7.symm.trans s8
  · cases (show h[q.sd]? = some q.SA from G.hd).symm.trans e1
    obtain ⟨cS, -, -, g, -⟩ := G
    have g' : Z.vm.findClass "[B" = some q.SA.cls := by rw [← hal.findClass]; exact g
    exact ids_ne e2 g' (by decide) rfl
theorem own_eqv {l : Launch} {R : Room} {p : Program} {e : Env} {below : List Frame} {s : State} {args : Array Value} {y : MethodName} {len W n0 : Nat} {Pre : Pt → Array Value → Prop} {cs ds : List Int32} {h : Heap}
    (hB : Back l R p e below s args y len W Pre (fun P _ v B => ∃ L, (((v = some (.int 1) ∧ cs = ds) ∨ (v = some (.int 0) ∧ ¬ cs = ds)) ∧ L = [] ∧ B.U.heap = h) ∧ B.locs = P.locs ++ L ∧ B.cells = P.cells + 0 ∧ B.slots = P.slots + 0)) :
    Back l R p e below s args y len W Pre (fun P _ v B => ∃ L, (v = some (.int (bit (cs = ds))) ∧ Fr n0 L ∧ B.U.heap = h) ∧ B.locs = P.locs ++ L ∧ B.cells = P.cells + 0 ∧ B.slots = P.slots + 0) :=
  Back.mono hB (fun _ _ q => q) (fun P a v B _ hq => by
    obtain ⟨L, ⟨hv, rfl, hh⟩, r⟩ := hq
    refine ⟨[], ⟨?_, Fr.nil _, hh⟩, r⟩
    rcases hv with ⟨rfl, q⟩ | ⟨rfl, q⟩
    · rw [bit_t q]
    · rw [bit_f q])
theorem own_bit1 {P : Prop} [Decidable P] (h : ¬ bit P = 0) : P := by
  by_cases q : P
  · exact q
  · exact absurd (bit_f q) h
theorem own_bit0 {P : Prop} [Decidable P] (h : bit P = 0) : ¬ P := fun q => by rw [bit_t q] at h; exact absurd h (by decide)
theorem own_up {c : Int32} (h : ¬ c < 0 ∧ ¬ (255 : Int32) < c) : ¬ c < 0 ∧ ¬ (65535 : Int32) < c := ⟨h.1, fun q => h.2 (Int32.lt_trans (by decide) q)⟩
theorem own_arv {Z : State} {args : Array Value} {t : Term} {a : Addr} {ty : FieldType} {z : Int32} {vs : List Value} {dv : Value} (hf : Fit Z) (ev : t.eval args Z none [] Z = some (.ref a)) (h1 : (Jvm.Cond.arrayOf t ty).value args Z none Z [] = some true)
    (h2 : (Jvm.Cond.eq (Term.length t) (Term.int z)).value args Z none Z [] = some true) (hz : ¬ z < 0) (hl : z.toNatClampNeg = vs.length) (H : ∀ c, Z.heap[a]? = some c → HasL c 0 vs) : ∃ k, Arv Z Z.heap a k ty z vs dv := by
  obtain ⟨c, A⟩ := Arr.start ev h1
  obtain ⟨x, y, g1, g2, -, g4⟩ := cmp_v (Or.inl h2)
  obtain rfl : Value.int z = y := Option.some.inj g2
  obtain ⟨w, rfl⟩ := g4
  have q : w = z := by simpa [Cond.value, g1, g2] using h2
  subst q
  obtain ⟨a', cell, e1, e2, e3⟩ := Term.length_spec g1
  cases ev.symm.trans e1
  cases A.1.symm.trans (State.arrayAt?_spec e2).1
  have hs : c.slots.size < 2 ^ 31 := by
    by_cases q : c.slots.size < 2 ^ 31
    · exact q
    · simp [Term.eval, ev, e2, q] at g1
  exact ⟨_, Arv.start hf A hs (Value.int.inj e3).symm hz hl (H c A.1)⟩
theorem own_elI {Z : State} {args : Array Value} {t : Term} {a : Addr} {j k : Int32} {c : Cell} (ev : t.eval args Z none [] Z = some (.ref a)) (hc : Z.heap[a]? = some c) (h : (Jvm.Cond.eq (Term.elem t (Term.int j)) (Term.int k)).value args Z none Z [] = some true) : c.slots[j.toNatClampNeg]? = some (.int k) := by
  obtain ⟨x, y, g1, g2, -, g4⟩ := cmp_v (Or.inl h)
  obtain rfl : Value.int k = y := Option.some.inj g2
  obtain ⟨w, rfl⟩ := g4
  have q : w = k := by simpa [Cond.value, g1, g2] using h
  subst q
  exact (elem_in g1 ev (Term.int_eval j) hc).2
theorem own_elR {Z : State} {args : Array Value} {t u : Term} {a b : Addr} {j : Int32} {c : Cell} (ev : t.eval args Z none [] Z = some (.ref a)) (eu : u.eval args Z none [] Z = some (.ref b)) (hc : Z.heap[a]? = some c) (h : (Jvm.Cond.eq (Term.elem t (Term.int j)) u).value args Z none Z [] = some true) : c.slots[j.toNatClampNeg]? = some (.ref b) := by
  obtain ⟨x, y, g1, g2, g3, g4⟩ := cmp_v (Or.inl h)
  cases eu.symm.trans g2
  have q : x = .ref b := by
    cases x <;> simp [Cond.value, g1, eu, Kin, Value.isRef] at h g3 g4 ⊢ <;> first | exact h | exact absurd g3 (by simp)
  subst q
  exact (elem_in g1 ev (Term.int_eval j) hc).2
theorem own_small (x : Int32) (h : ¬ x < 0 ∧ ¬ (255 : Int32) < x) : ∃ k : Fin 256, x = Int32.ofNat k.val := by
  have h1 : 0 ≤ x.toInt := by have := h.1; rw [Int32.lt_iff_toInt_lt] at this; simpa using this
  have h2 : x.toInt ≤ 255 := by have := h.2; rw [Int32.lt_iff_toInt_lt] at this; simpa using this
  refine ⟨⟨x.toInt.toNat, by omega⟩, ?_⟩
  apply Int32.toInt_inj.mp
  show x.toInt = _
  rw [Int32.toInt_ofNat_small (show x.toInt.toNat < 2 ^ 31 by omega)]
  show x.toInt = ((x.toInt.toNat : Nat) : Int)
  omega
theorem own_ncq {x : Int32} (h : ¬ x < 0 ∧ ¬ (255 : Int32) < x) : nar .char x = x := by
  obtain ⟨k, rfl⟩ := own_small x h
  exact (by decide +kernel : ∀ k : Fin 256, nar .char (Int32.ofNat k.val) = Int32.ofNat k.val) k
theorem own_nc {x : Int32} (h : ¬ x < 0 ∧ ¬ (255 : Int32) < x) : ¬ nar .char x < 0 ∧ ¬ (255 : Int32) < nar .char x := by rw [own_ncq h]; exact h
theorem own_nb {x : Int32} : nar .byte x.toInt8.toInt32 = StrChars.lo8 x := by
  show x.toInt8.toInt32.toInt8.toInt32 = x.toInt8.toInt32
  rw [Int8.toInt8_toInt32]
theorem own_chb (x : Int32) : ¬ (x &&& (255 : Int32)).toUInt32.toUInt16.toUInt32.toInt32 < 0 ∧ ¬ (255 : Int32) < (x &&& (255 : Int32)).toUInt32.toUInt16.toUInt32.toInt32 := by
  have t : ∀ k : Fin 256, ¬ (Int32.ofNat k.val).toUInt32.toUInt16.toUInt32.toInt32 < 0 ∧ ¬ (255 : Int32) < (Int32.ofNat k.val).toUInt32.toUInt16.toUInt32.toInt32 := by decide +kernel
  have h : (x &&& 255).toBitVec.toNat < 256 := by
    simp only [Int32.toBitVec_and, BitVec.toNat_and]
    exact Nat.lt_succ_of_le Nat.and_le_right
  have e : (x &&& 255) = Int32.ofNat (x &&& 255).toBitVec.toNat := by
    apply Int32.toBitVec_inj.mp
    show _ = BitVec.ofNat 32 _
    rw [BitVec.ofNat_toNat]; simp
  rw [e]
  exact t ⟨_, h⟩
theorem own_st0 {s : Int32} {P : Prop} (h : (s = 0 ∧ ¬ P) ∨ (s = 1 ∧ P)) (q : s = 0) : ¬ P := by
  rcases h with h | h
  · exact h.2
  · rw [h.1] at q; exact absurd q (by decide)
theorem own_st1 {s : Int32} {P : Prop} (h : (s = 0 ∧ ¬ P) ∨ (s = 1 ∧ P)) (q : ¬ s = 0) : P := by
  rcases h with h | h
  · exact absurd h.1 q
  · exact h.2
theorem own_backA {p : Program} {l : Launch} {e : Env} {R : Room} {s : State} {args : Array Value} {below : List Frame} {len W : Nat} {Z : State} {a0 : Array Value} {h : Heap} (hZ : Z.Warmed39 s.vm) (hw : ∀ d ∈ StrChars.Road.words, d.before a0 Z = true) {kI : Nat} (wi : (Jvm.Cond.instantiable "java/lang/String" kI).before a0 Z = true)
    {x b : Addr} {kC : ClassId} {cs : List Int32} {d v0 c0 u1 u2 : Value} {z N : Int32} {n n0 : Nat} (hx0 : n0 ≤ x) (E : Exa Z h x "java/lang/String") (V : Fld Z h x "java/lang/String" "value" "[B" v0) (C : Fld Z h x "java/lang/String" "coder" "B" c0) (K : Arv Z h b kC .char N (cs.map Value.int) d) (S : Sta Z h "java/lang/String" "COMPACT_STRINGS" "Z" (.int z)) (hz : ¬ z = 0)
    (hn : cs.length = n) (hN : N.toNatClampNeg = n) (l0 : 0 < n) (l2 : n ≤ 4000) (hp : ∀ c ∈ cs, ¬ c < 0 ∧ ¬ (255 : Int32) < c) (hfr : 4 ≤ R.frames) (hlo : W + 65 ≤ R.locals)
    (F1 : Fld Z h x "java/lang/String" "hash" "I" u1) (F2 : Fld Z h x "java/lang/String" "hashIsZero" "Z" u2)
    (wv : Laid Z a0 "java/lang/String" "java/lang/String" "value" "[B") (wc : Laid Z a0 "java/lang/String" "java/lang/String" "coder" "B") (wh : Laid Z a0 "java/lang/String" "java/lang/String" "hash" "I") (wz : Laid Z a0 "java/lang/String" "java/lang/String" "hashIsZero" "Z") :
    Back l R p e below s args (⟨"java/lang/String", "<init>", "([C)V"⟩ : MethodName) len W (fun P a => a = #[.ref x, .ref b] ∧ P.U.heap = h ∧ P.cells + 1 ≤ R.cells ∧ P.slots + n ≤ R.slots)
      (fun P _ v B => ∃ L, (v = none ∧ Fr n0 L ∧ Keep h B.U.heap [x] ∧ Exa Z B.U.heap x "java/lang/String" ∧ Fld Z B.U.heap x "java/lang/String" "value" "[B" (.ref h.size) ∧ Fld Z B.U.heap x "java/lang/String" "coder" "B" (.int 0) ∧ Fld Z B.U.heap x "java/lang/String" "hash" "I" u1 ∧ Fld Z B.U.heap x "java/lang/String" "hashIsZero" "Z" u2 ∧
        ∃ kb, Z.vm.findClass "[B" = some kb ∧ Arv Z B.U.heap h.size kb .byte N ((cs.map StrChars.lo8).map Value.int) (.int 0)) ∧ B.locs = P.locs ++ L ∧ B.cells = P.cells + 1 ∧ B.slots = P.slots + n) := by
  subst hn
  refine Back.mono (StrChars.Road.backArv hZ hw wi E V C K S hz hN l0 (by omega) (fun c hc => (hp c hc).2) hfr hlo) (fun P a hp => hp) (fun P a v B hp hq => ?_)
  obtain ⟨L, ⟨q1, q2, q3, -, q5, q6, q7, ⟨kb, v1, v2⟩, q9⟩, hl, hc, hs⟩ := hq
  refine ⟨L, ⟨q1, fun y hy => by rw [q2 y hy]; exact hx0, q3, q5, q6, q7, q9 _ _ _ _ F1 (slot_ne wh wv (by decide) (t := .int) (t' := .array .byte) (by decide) (by decide)) (slot_ne wh wc (by decide) (t := .int) (t' := .byte) (by decide) (by decide)), q9 _ _ _ _ F2 (slot_ne wz wv (by decide) (t := .boolean) (t' := .array .byte) (by decide) (by decide)) (slot_ne wz wc (by decide) (t := .boolean) (t' := .byte) (by decide) (by decide)), kb, v1, by rw [List.map_map]; exact v2⟩, hl, hc, hs⟩
theorem own_exB {Z : State} {h : Heap} {t : Addr} {kb : ClassId} {N : Int32} {vs : List Value} {dv : Value} (hk : Z.vm.findClass "[B" = some kb) (V : Arv Z h t kb .byte N vs dv) : Exa Z h t "[B" := by
  obtain ⟨c, A, rfl, -⟩ := V
  obtain ⟨a1, ⟨a2, k, a3, comp, a4⟩, a5⟩ := A
  refine ⟨c, k, a1, hk, a3, ?_, fun q => by rw [a4] at q; cases q⟩
  first | exact a2 | (cases hq : c.vm <;> first | rfl | exact absurd hq (a2 _))
theorem own_neA {Z : State} {h : Heap} {a t : Addr} {a0 : Array Value} {n : Nat} {kb : ClassId} {N : Int32} {vs : List Value} {dv : Value} (wi : (Jvm.Cond.instantiable "java/lang/String" n).before a0 Z = true) (E : Exa Z h a "java/lang/String") (V : Arv Z h t kb .byte N vs dv) : a ≠ t := fun e => by
  subst e
  obtain ⟨c, ⟨a1, ⟨a2, k, a3, comp, a4⟩, a5⟩, -⟩ := V
  obtain ⟨cell, k', e1, e2, e3, -⟩ := E
  obtain ⟨ci, ki, i1, i2, i3, -⟩ := Cond.instantiable_spec wi
  cases e1.symm.trans a1
  cases e2.symm.trans i1
  cases a3.symm.trans i2
  rw [a4] at i3
  cases i3
theorem own_keepE {Z : State} {h h' : Heap} {t : Addr} {kb : ClassId} {N : Int32} {vs : List Value} {dv : Value} (V : Arv Z h' t kb .byte N vs dv) (E : Exa Z h t "[B") (V0 : Arv Z h t kb .byte N vs dv) : Exa Z h' t "[B" := by
  obtain ⟨c0, ⟨b1, -⟩, rfl, -⟩ := V0
  obtain ⟨cell, k', e1, e2, -⟩ := E
  cases e1.symm.trans b1
  exact own_exB e2 V
theorem own_words : ∀ d ∈ StrChars.Road.words, d ∈ tables_1 := by decide +kernel
theorem own_wordsE : ∀ d ∈ StrChars.Road.wordsEq, d ∈ tables_1 := by decide +kernel
theorem own_EW {Z : State} {a0 : Array Value} (hw : ∀ d ∈ tables_1, d.before a0 Z = true) : EW Z a0 consts_1 := EW.cons (hw _ (List.mem_of_getElem? (i := 33) rfl)) (by decide) (EW.cons (hw _ (List.mem_of_getElem? (i := 18) rfl)) (by decide) EW.nil)
def own_cs (n a b c : Int32) : List Int32 := if n = 0 then [] else if n = 1 then [a] else if n = 2 then [a, b] else [a, b, c]
theorem own_csb {n a b c : Int32} (ha : ¬ a < 0 ∧ ¬ (255 : Int32) < a) (hb : ¬ b < 0 ∧ ¬ (255 : Int32) < b) (hc : ¬ c < 0 ∧ ¬ (255 : Int32) < c) : ∀ z ∈ own_cs n a b c, ¬ z < 0 ∧ ¬ (65535 : Int32) < z := by
  intro z hz
  unfold own_cs at hz
  split at hz
  · nomatch hz
  · split at hz
    · simp only [List.mem_cons, List.not_mem_nil, or_false] at hz; subst hz; exact own_up ha
    · split at hz
      · simp only [List.mem_cons, List.not_mem_nil, or_false] at hz; rcases hz with rfl | rfl <;> first | exact own_up ha | exact own_up hb
      · simp only [List.mem_cons, List.not_mem_nil, or_false] at hz; rcases hz with rfl | rfl | rfl <;> first | exact own_up ha | exact own_up hb | exact own_up hc
theorem own_csl (n a b c : Int32) : (own_cs n a b c).length ≤ 3 := by
  unfold own_cs
  split
  · decide
  · split
    · simp
    · split <;> simp
theorem own_csl2 (n a b c : Int32) : (own_cs n a b c).length ≤ 4000 := Nat.le_trans (own_csl n a b c) (by decide)
theorem own_len3 {l : List Int32} (h : l.length ≤ 3) : l = [] ∨ (∃ a, l = [a]) ∨ (∃ a b, l = [a, b]) ∨ ∃ a b c, l = [a, b, c] := by
  match l, h with
  | [], _ => exact Or.inl rfl
  | [a], _ => exact Or.inr (Or.inl ⟨a, rfl⟩)
  | [a, b], _ => exact Or.inr (Or.inr (Or.inl ⟨a, b, rfl⟩))
  | [a, b, c], _ => exact Or.inr (Or.inr (Or.inr ⟨a, b, c, rfl⟩))
  | _ :: _ :: _ :: _ :: _, h => exact absurd h (by simp)
theorem own_m4 (x : Int32) : (x &&& (3 : Int32)) = 0 ∨ (x &&& (3 : Int32)) = 1 ∨ (x &&& (3 : Int32)) = 2 ∨ (x &&& (3 : Int32)) = 3 := by
  have t : ∀ k : Fin 4, Int32.ofNat k.val = 0 ∨ Int32.ofNat k.val = 1 ∨ Int32.ofNat k.val = 2 ∨ Int32.ofNat k.val = 3 := by decide +kernel
  have h : (x &&& 3).toBitVec.toNat < 4 := by
    simp only [Int32.toBitVec_and, BitVec.toNat_and]
    exact Nat.lt_succ_of_le Nat.and_le_right
  have e : (x &&& 3) = Int32.ofNat (x &&& 3).toBitVec.toNat := by
    apply Int32.toBitVec_inj.mp
    show _ = BitVec.ofNat 32 _
    rw [BitVec.ofNat_toNat]; simp
  rw [e]
  exact t ⟨_, h⟩
theorem own_a255 (x : Int32) : ¬ (x &&& (255 : Int32)) < 0 ∧ ¬ (255 : Int32) < (x &&& (255 : Int32)) := by
  have t : ∀ k : Fin 256, ¬ (Int32.ofNat k.val) < 0 ∧ ¬ (255 : Int32) < (Int32.ofNat k.val) := by decide +kernel
  have h : (x &&& 255).toBitVec.toNat < 256 := by
    simp only [Int32.toBitVec_and, BitVec.toNat_and]
    exact Nat.lt_succ_of_le Nat.and_le_right
  have e : (x &&& 255) = Int32.ofNat (x &&& 255).toBitVec.toNat := by
    apply Int32.toBitVec_inj.mp
    show _ = BitVec.ofNat 32 _
    rw [BitVec.ofNat_toNat]; simp
  rw [e]
  exact t ⟨_, h⟩
theorem own_xand (x y : Int32) : (x &&& (255 : Int32)) ^^^ (y &&& (255 : Int32)) = (x ^^^ y) &&& (255 : Int32) := by
  apply Int32.toBitVec_inj.mp
  simp only [Int32.toBitVec_and, Int32.toBitVec_xor]
  apply BitVec.eq_of_getLsbD_eq
  intro i hi
  simp only [BitVec.getLsbD_and, BitVec.getLsbD_xor]
  cases x.toBitVec.getLsbD i <;> cases y.toBitVec.getLsbD i <;> cases (Int32.toBitVec 255).getLsbD i <;> rfl
theorem own_n2q {x : Int32} (h : ¬ x < 0 ∧ ¬ (255 : Int32) < x) : nar .char (x.toUInt32.toUInt16.toUInt32.toInt32) = x := by
  have e := own_ncq h
  have e' : x.toUInt32.toUInt16.toUInt32.toInt32 = x := e
  rw [e']; exact e
theorem own_n2 {x : Int32} (h : ¬ x < 0 ∧ ¬ (255 : Int32) < x) : ¬ nar .char (x.toUInt32.toUInt16.toUInt32.toInt32) < 0 ∧ ¬ (255 : Int32) < nar .char (x.toUInt32.toUInt16.toUInt32.toInt32) := by rw [own_n2q h]; exact h
theorem own_bsm {P Q : Prop} [Decidable Q] {s : Int32} (h : (s = 0 ∧ ¬ P) ∨ (s = 1 ∧ P)) (e : Q ↔ P) : bit Q = s := by
  rcases h with ⟨rfl, q⟩ | ⟨rfl, q⟩
  · exact bit_f (fun z => q (e.mp z))
  · exact bit_t (e.mpr q)
/-- the plain law: the code's comparison of the parts is the comparison of the texts and numbers -/
theorem own_same {la lb a b c a' b' c' i j sm : Int32} (ha : la = 0 ∨ la = 1 ∨ la = 2 ∨ la = 3) (hb : lb = 0 ∨ lb = 1 ∨ lb = 2 ∨ lb = 3) (h : sm = (if la = lb then (if la < (1 : Int32) then (if la < (2 : Int32) then (if la < (3 : Int32) then (if i = j then (1 : Int32) else (0 : Int32)) else (if c = c' then (if i = j then (1 : Int32) else (0 : Int32)) else (0 : Int32))) else (if b = b' then (if la < (3 : Int32) then (if i = j then (1 : Int32) else (0 : Int32)) else (if c = c' then (if i = j then (1 : Int32) else (0 : Int32)) else (0 : Int32))) else (0 : Int32))) else (if a = a' then (if la < (2 : Int32) then (if la < (3 : Int32) then (if i = j then (1 : Int32) else (0 : Int32)) else (if c = c' then (if i = j then (1 : Int32) else (0 : Int32)) else (0 : Int32))) else (if b = b' then (if la < (3 : Int32) then (if i = j then (1 : Int32) else (0 : Int32)) else (if c = c' then (if i = j then (1 : Int32) else (0 : Int32)) else (0 : Int32))) else (0 : Int32))) else (0 : Int32))) else (0 : Int32))) : (sm = 0 ∧ ¬ (own_cs la a b c = own_cs lb a' b' c' ∧ i = j)) ∨ (sm = 1 ∧ (own_cs la a b c = own_cs lb a' b' c' ∧ i = j)) := by
  subst h
  by_cases h1 : a = a' <;> by_cases h2 : b = b' <;> by_cases h3 : c = c' <;> by_cases h4 : i = j <;> rcases ha with rfl | rfl | rfl | rfl <;> rcases hb with rfl | rfl | rfl | rfl <;> simp [own_cs, h1, h2, h3, h4]
theorem pn_java_lang_String : plainName "java/lang/String" = true := by first | (simp [plainName, overriddenIn]; done) | decide +kernel
theorem ef_rm_si2 (m : MethodId) (x0 : Addr) (x1 : Addr) (x2 : Int32) (x3 : Int32)  : entryFrame m #[(.ref x0), (.ref x1), (.int x2), (.int x3), .null] 6 = mkF m 0 #[.val (.ref x0), .val (.ref x1), .val (.int x2), .val (.int x3), .val .null, .unset] [] := by first | (simp [entryFrame, mkF, argsToLocals, Value.category]; done) | rfl
def Q_rm_si2 (Z : State) (a b : Addr) (h0 : Heap) (n0 : Nat) (v : Option Value) (h : Heap) (L : List Loc) : Prop := v = none ∧ Fr n0 L ∧ Keep h0 h [a] ∧ Exa Z h a "java/lang/String" ∧ ∃ (t : Addr) (kb : ClassId), Fld Z h a "java/lang/String" "value" "[B" (.ref t) ∧ Fld Z h a "java/lang/String" "coder" "B" (.int 0) ∧ Fld Z h a "java/lang/String" "hash" "I" (.int 0) ∧ Fld Z h a "java/lang/String" "hashIsZero" "Z" (.int 0) ∧ Arv Z h t kb .byte 0 [] (.int 0)
theorem own_strs : ∀ a ∈ Bundle.stringAtoms, a ∈ tables_1 := by decide +kernel
theorem d3_0 : decode jdk_42_method_149_code 0 = .ok (.aload_n 0, 1) := by decide +kernel
theorem d3_1 : decode jdk_42_method_149_code 1 = .ok (.invokespecial 1, 3) := by decide +kernel
theorem d3_4 : decode jdk_42_method_149_code 4 = .ok (.iload_n 3, 1) := by decide +kernel
theorem d3_5 : decode jdk_42_method_149_code 5 = .ok (.ifCond .ne 22, 3) := by decide +kernel
theorem d3_8 : decode jdk_42_method_149_code 8 = .ok (.aload_n 0, 1) := by decide +kernel
theorem d3_9 : decode jdk_42_method_149_code 9 = .ok (.ldc 7, 2) := by decide +kernel
theorem d3_11 : decode jdk_42_method_149_code 11 = .ok (.getfield 9, 3) := by decide +kernel
theorem d3_14 : decode jdk_42_method_149_code 14 = .ok (.putfield 9, 3) := by decide +kernel
theorem d3_17 : decode jdk_42_method_149_code 17 = .ok (.aload_n 0, 1) := by decide +kernel
theorem d3_18 : decode jdk_42_method_149_code 18 = .ok (.ldc 7, 2) := by decide +kernel
theorem d3_20 : decode jdk_42_method_149_code 20 = .ok (.getfield 15, 3) := by decide +kernel
theorem d3_23 : decode jdk_42_method_149_code 23 = .ok (.putfield 15, 3) := by decide +kernel
theorem d3_26 : decode jdk_42_method_149_code 26 = .ok (.return_, 1) := by decide +kernel
set_option maxRecDepth 65536 in
set_option maxHeartbeats 40000000 in
theorem rm_si2 (l : Launch) (Z : State) (a0 : Array Value) (hw : ∀ d ∈ tables_1, d.before a0 Z = true) (ws : List Jvm.Cond) (a b : Addr) (h0 : Heap) (n0 : Nat) (O : Old Z n0 h0) (E_a : Exa Z h0 a "java/lang/String") (F_value_a : Fld Z h0 a "java/lang/String" "value" "[B" .null) (F_coder_a : Fld Z h0 a "java/lang/String" "coder" "B" (.int 0)) (F_hash_a : Fld Z h0 a "java/lang/String" "hash" "I" (.int 0)) (F_hashIsZero_a : Fld Z h0 a "java/lang/String" "hashIsZero" "Z" (.int 0)) (g_a : n0 ≤ a) :
    MetFree l (⟨"java/lang/String", "<init>", "([CIILjava/lang/Void;)V"⟩ : MethodName) (head1 (Jvm.Cond.code (⟨"java/lang/String", "<init>", "([CIILjava/lang/Void;)V"⟩ : MethodName) jdk_42_method_149_code 6 none :: ws) ({ frames := 1, cells := 4, slots := 8, locals := 12 } : Room)) (fun aa U => aa = #[(.ref a), (.ref b), (.int (0 : Int32)), (.int (0 : Int32)), .null] ∧ Z.Warmed39 U.vm ∧ U.heap = h0 ∧ CHv Z consts_1 U.vm h0) (fun _ _ _ _ _ => True) (fun _ U o U' => ∃ v L, o = .returned v ∧ Q_rm_si2 Z a b h0 n0 v U'.heap L ∧ CHr Z consts_1 U.vm U.heap U'.vm U'.heap ∧ ReturnedEndW U o U' L ({ frames := 1, cells := 4, slots := 8, locals := 12 } : Room).cells ({ frames := 1, cells := 4, slots := 8, locals := 12 } : Room).slots) := by
  refine MetFree.of_bodySF (plainFor_of_name pn_java_lang_String) hisR ?_
  intro p e s m args below meth c s₁ Bd hml0 hP hK
  obtain ⟨rfl, hZ, hh, hC⟩ := hP
  have hx := Bd.exec
  have hby := Bd.bytes
  have hml : c.maxLocals = 6 := hml0
  have hown : s.vm.findClass "java/lang/String" = some m.cls := findClass_of_methodNamed Bd.named
  have hnm := (name_of_methodNamed Bd.named Bd.method).1
  have X0 : Stand p l e ({ frames := 1, cells := 4, slots := 8, locals := 12 } : Room) (s.setVm s.vm) m #[(.ref a), (.ref b), (.int (0 : Int32)), (.int (0 : Int32)), .null] below meth c s₁ [] 0 0 := Stand.of_body Bd
  have e0 : s₁.heap = h0 := by rw [← hh, Bd.state]; rfl
  have N0 := Fr.nil n0
  have K : Keep h0 h0 [a] := Keep.refl _ _
  have hS0 : s.Since s.vm 0 := (State.WarmedH.refl s).since 0
  have hk0 : 0 ≤ h0.size := Nat.zero_le _
  replace hZ : Z.Warmed39 (s.setVm s.vm).vm := hZ
  replace hown : (s.setVm s.vm).vm.findClass "java/lang/String" = some m.cls := hown
  have C : CHr Z consts_1 s.vm s.heap s.vm h0 := by rw [hh]; exact CHr.refl hC
  have hEL : EW Z a0 consts_1 := own_EW hw
  show Goes p e below s (HeldEnd Z consts_1) ({ frames := 1, cells := 4, slots := 8, locals := 12 } : Room).cells ({ frames := 1, cells := 4, slots := 8, locals := 12 } : Room).slots (Q_rm_si2 Z a b h0 n0) s₁ (entryFrame m #[(.ref a), (.ref b), (.int (0 : Int32)), (.int (0 : Int32)), .null] 6)
  refine Goes.cast (ef_rm_si2 m a b (0 : Int32) (0 : Int32)) ?_
  have Z_a : Safe Z consts_1 s.vm h0 a := own_safe_null hZ.alike E_a F_value_a
  refine Goes.to (T' := s₁) (mkF m 1 #[.val (.ref a), .val (.ref b), .val (.int (0 : Int32)), .val (.int (0 : Int32)), .val .null, .unset] [(.ref a)]) (fun t k => XS.aloadN X0.here hx rfl (hb hby d3_0) rfl rfl k) ?_
  obtain ⟨T1, X1, e1, st1⟩ := initO X0 hx hZ hown (hw _ (List.mem_of_getElem? (i := 15) rfl)) (hw _ (List.mem_of_getElem? (i := 16) rfl)) (hw _ (List.mem_of_getElem? (i := 17) rfl)) e0 (g := (mkF m 1 #[.val (.ref a), .val (.ref b), .val (.int (0 : Int32)), .val (.int (0 : Int32)), .val .null, .unset] [(.ref a)])) rfl (by rw [hml]; rfl) rfl (hb hby d3_1) (by decide) (W := 0) (by show 2 * 0 + _ ≤ _; exact Nat.le_of_eq rfl) (by decide)
  refine Goes.to (T' := T1) (mkF m 4 #[.val (.ref a), .val (.ref b), .val (.int (0 : Int32)), .val (.int (0 : Int32)), .val .null, .unset] []) st1 ?_
  refine Goes.to (T' := T1) (mkF m 5 #[.val (.ref a), .val (.ref b), .val (.int (0 : Int32)), .val (.int (0 : Int32)), .val .null, .unset] [(.int (0 : Int32))]) (fun t k => XS.iloadN X1.here hx rfl (hb hby d3_4) rfl k) ?_
  refine Goes.to (T' := T1) (mkF m 8 #[.val (.ref a), .val (.ref b), .val (.int (0 : Int32)), .val (.int (0 : Int32)), .val .null, .unset] []) (fun t k => XS.ifNo X1.here hx rfl (hb hby d3_5) rfl ((if0 _ _).trans (teq ((by decide) : (0 : Int32) = (0 : Int32))).2) k) ?_
  refine Goes.to (T' := T1) (mkF m 9 #[.val (.ref a), .val (.ref b), .val (.int (0 : Int32)), .val (.int (0 : Int32)), .val .null, .unset] [(.ref a)]) (fun t k => XS.aloadN X1.here hx rfl (hb hby d3_8) rfl rfl k) ?_
  obtain ⟨str2, T2, h2, k2, sb2, kb2, X2, e2, E2, hS2, hk2, hZ2, hown2, E_str2, F_coder_str2, F_value_str2, V_sb2, lt_str2, lt_sb2, R2, -, hne2, st2⟩ := ldcCH X1 hx hZ hown (hw _ (List.mem_of_getElem? (i := 18) rfl)) (fun a ha => hw a (own_strs a ha)) e1 hS0 hk0 hEL (by decide) C.1 (vs := []) (z := 0) ⟨by decide, rfl⟩ (by decide) rfl (g := (mkF m 9 #[.val (.ref a), .val (.ref b), .val (.int (0 : Int32)), .val (.int (0 : Int32)), .val .null, .unset] [(.ref a)])) rfl (hb hby d3_9) (n := 0) (by decide) (by decide) (by decide) (by decide)
  replace Z_a := CHr.safe R2 E_a.lt Z_a
  replace C := C.trans R2
  replace O := O.ext E2
  replace E_a := E_a.ext E2
  have ne_a_str2 := (hne2 _ Z_a).1
  have ne_a_sb2 := (hne2 _ Z_a).2
  replace F_value_a := F_value_a.ext E2
  replace F_coder_a := F_coder_a.ext E2
  replace F_hash_a := F_hash_a.ext E2
  replace F_hashIsZero_a := F_hashIsZero_a.ext E2
  replace K := K.ext E2
  replace hS0 := hS2
  replace hk0 := hk2
  replace hZ := hZ2
  replace hown := hown2
  refine Goes.to (T' := T2) (mkF m 11 #[.val (.ref a), .val (.ref b), .val (.int (0 : Int32)), .val (.int (0 : Int32)), .val .null, .unset] [(.ref str2), (.ref a)]) st2 ?_
  obtain ⟨T3, X3, e3, st3⟩ := getF X2 hx hZ hown (host := "") (Or.inl (hw _ (List.mem_of_getElem? (i := 24) rfl))) Via.refl e2 F_value_str2 (g := (mkF m 11 #[.val (.ref a), .val (.ref b), .val (.int (0 : Int32)), .val (.int (0 : Int32)), .val .null, .unset] [(.ref str2), (.ref a)])) rfl rfl (hb hby d3_11)
  refine Goes.to (T' := T3) (mkF m 14 #[.val (.ref a), .val (.ref b), .val (.int (0 : Int32)), .val (.int (0 : Int32)), .val .null, .unset] [(.ref sb2), (.ref a)]) st3 ?_
  obtain ⟨T4, h4, X4, e4, W4, st4⟩ := putF X3 hx hZ hown (host := "") (Or.inl (hw _ (List.mem_of_getElem? (i := 24) rfl))) Via.refl e3 F_value_a E_a (Or.inr ⟨(hw _ (List.mem_of_getElem? (i := 20) rfl)), rfl, hnm⟩) (hw _ (List.mem_of_getElem? (i := 5) rfl)) (ty := (.array .byte)) (by decide) rfl rfl (g := (mkF m 14 #[.val (.ref a), .val (.ref b), .val (.int (0 : Int32)), .val (.int (0 : Int32)), .val .null, .unset] [(.ref sb2), (.ref a)])) rfl rfl (hb hby d3_14)
  have C' := C.trans (CHr.wr W4 Z_a C.1)
  replace Z_a := Safe.wr W4 Z_a C.1 Z_a
  replace C := C'
  replace E_a := E_a.wr W4
  replace F_value_a := F_value_a.same W4
  replace F_coder_a := F_coder_a.other W4 (Or.inr (slot_ne (Or.inr (hw _ (List.mem_of_getElem? (i := 21) rfl))) (Or.inr (hw _ (List.mem_of_getElem? (i := 20) rfl))) (by decide) (t := .byte) (t' := (.array .byte)) (by decide) (by decide)))
  replace F_hash_a := F_hash_a.other W4 (Or.inr (slot_ne (Or.inl (hw _ (List.mem_of_getElem? (i := 49) rfl))) (Or.inr (hw _ (List.mem_of_getElem? (i := 20) rfl))) (by decide) (t := .int) (t' := (.array .byte)) (by decide) (by decide)))
  replace F_hashIsZero_a := F_hashIsZero_a.other W4 (Or.inr (slot_ne (Or.inl (hw _ (List.mem_of_getElem? (i := 51) rfl))) (Or.inr (hw _ (List.mem_of_getElem? (i := 20) rfl))) (by decide) (t := .boolean) (t' := (.array .byte)) (by decide) (by decide)))
  replace E_str2 := E_str2.wr W4
  replace F_coder_str2 := F_coder_str2.other W4 (Or.inl (Ne.symm ne_a_str2))
  replace F_value_str2 := F_value_str2.other W4 (Or.inl (Ne.symm ne_a_str2))
  replace V_sb2 := V_sb2.other W4 (Ne.symm ne_a_sb2)
  replace O := O.wr W4 g_a
  replace hk0 := Nat.le_trans hk0 (Nat.le_of_eq W4.size.symm)
  replace K := K.wr W4 (Or.inl (by simp))
  have N4 := Fr.snoc X4 N0 g_a
  refine Goes.to (T' := T4) (mkF m 17 #[.val (.ref a), .val (.ref b), .val (.int (0 : Int32)), .val (.int (0 : Int32)), .val .null, .unset] []) st4 ?_
  refine Goes.to (T' := T4) (mkF m 18 #[.val (.ref a), .val (.ref b), .val (.int (0 : Int32)), .val (.int (0 : Int32)), .val .null, .unset] [(.ref a)]) (fun t k => XS.aloadN X4.here hx rfl (hb hby d3_17) rfl rfl k) ?_
  obtain ⟨str5, T5, h5, k5, sb5, kb5, X5, e5, E5, hS5, hk5, hZ5, hown5, E_str5, F_coder_str5, F_value_str5, V_sb5, lt_str5, lt_sb5, R5, -, hne5, st5⟩ := ldcCH X4 hx hZ hown (hw _ (List.mem_of_getElem? (i := 18) rfl)) (fun a ha => hw a (own_strs a ha)) e4 hS0 hk0 hEL (by decide) C.1 (vs := []) (z := 0) ⟨by decide, rfl⟩ (by decide) rfl (g := (mkF m 18 #[.val (.ref a), .val (.ref b), .val (.int (0 : Int32)), .val (.int (0 : Int32)), .val .null, .unset] [(.ref a)])) rfl (hb hby d3_18) (n := 0) (by decide) (by decide) (by decide) (by decide)
  replace Z_a := CHr.safe R5 E_a.lt Z_a
  replace C := C.trans R5
  replace O := O.ext E5
  replace E_a := E_a.ext E5
  have ne_a_str5 := (hne5 _ Z_a).1
  have ne_a_sb5 := (hne5 _ Z_a).2
  replace F_value_a := F_value_a.ext E5
  replace F_coder_a := F_coder_a.ext E5
  replace F_hash_a := F_hash_a.ext E5
  replace F_hashIsZero_a := F_hashIsZero_a.ext E5
  replace E_str2 := E_str2.ext E5
  replace F_coder_str2 := F_coder_str2.ext E5
  replace F_value_str2 := F_value_str2.ext E5
  replace V_sb2 := V_sb2.ext E5
  replace K := K.ext E5
  replace hS0 := hS5
  replace hk0 := hk5
  replace hZ := hZ5
  replace hown := hown5
  refine Goes.to (T' := T5) (mkF m 20 #[.val (.ref a), .val (.ref b), .val (.int (0 : Int32)), .val (.int (0 : Int32)), .val .null, .unset] [(.ref str5), (.ref a)]) st5 ?_
  obtain ⟨T6, X6, e6, st6⟩ := getF X5 hx hZ hown (host := "") (Or.inl (hw _ (List.mem_of_getElem? (i := 25) rfl))) Via.refl e5 F_coder_str5 (g := (mkF m 20 #[.val (.ref a), .val (.ref b), .val (.int (0 : Int32)), .val (.int (0 : Int32)), .val .null, .unset] [(.ref str5), (.ref a)])) rfl rfl (hb hby d3_20)
  refine Goes.to (T' := T6) (mkF m 23 #[.val (.ref a), .val (.ref b), .val (.int (0 : Int32)), .val (.int (0 : Int32)), .val .null, .unset] [(.int (0 : Int32)), (.ref a)]) st6 ?_
  obtain ⟨T7, h7, X7, e7, W7, st7⟩ := putFN X6 hx hZ hown (hw _ (List.mem_of_getElem? (i := 25) rfl)) Via.refl e6 F_coder_a E_a (Or.inr ⟨(hw _ (List.mem_of_getElem? (i := 21) rfl)), rfl, hnm⟩) (hw _ (List.mem_of_getElem? (i := 5) rfl)) (ty := .byte) (v' := .int (nar .byte (0 : Int32))) (by decide) rfl (fits_nar_byte _) (g := (mkF m 23 #[.val (.ref a), .val (.ref b), .val (.int (0 : Int32)), .val (.int (0 : Int32)), .val .null, .unset] [(.int (0 : Int32)), (.ref a)])) rfl rfl (hb hby d3_23)
  have C' := C.trans (CHr.wr W7 Z_a C.1)
  replace Z_a := Safe.wr W7 Z_a C.1 Z_a
  replace C := C'
  replace E_a := E_a.wr W7
  replace F_value_a := F_value_a.other W7 (Or.inr (slot_ne (Or.inr (hw _ (List.mem_of_getElem? (i := 20) rfl))) (Or.inr (hw _ (List.mem_of_getElem? (i := 21) rfl))) (by decide) (t := (.array .byte)) (t' := .byte) (by decide) (by decide)))
  replace F_coder_a := F_coder_a.same W7
  replace F_hash_a := F_hash_a.other W7 (Or.inr (slot_ne (Or.inl (hw _ (List.mem_of_getElem? (i := 49) rfl))) (Or.inr (hw _ (List.mem_of_getElem? (i := 21) rfl))) (by decide) (t := .int) (t' := .byte) (by decide) (by decide)))
  replace F_hashIsZero_a := F_hashIsZero_a.other W7 (Or.inr (slot_ne (Or.inl (hw _ (List.mem_of_getElem? (i := 51) rfl))) (Or.inr (hw _ (List.mem_of_getElem? (i := 21) rfl))) (by decide) (t := .boolean) (t' := .byte) (by decide) (by decide)))
  replace E_str2 := E_str2.wr W7
  replace F_coder_str2 := F_coder_str2.other W7 (Or.inl (Ne.symm ne_a_str2))
  replace F_value_str2 := F_value_str2.other W7 (Or.inl (Ne.symm ne_a_str2))
  replace V_sb2 := V_sb2.other W7 (Ne.symm ne_a_sb2)
  replace E_str5 := E_str5.wr W7
  replace F_coder_str5 := F_coder_str5.other W7 (Or.inl (Ne.symm ne_a_str5))
  replace F_value_str5 := F_value_str5.other W7 (Or.inl (Ne.symm ne_a_str5))
  replace V_sb5 := V_sb5.other W7 (Ne.symm ne_a_sb5)
  replace O := O.wr W7 g_a
  replace hk0 := Nat.le_trans hk0 (Nat.le_of_eq W7.size.symm)
  replace K := K.wr W7 (Or.inl (by simp))
  have N7 := Fr.snoc X7 N4 g_a
  refine Goes.to (T' := T7) (mkF m 26 #[.val (.ref a), .val (.ref b), .val (.int (0 : Int32)), .val (.int (0 : Int32)), .val .null, .unset] []) st7 ?_
  refine Goes.retVH X7 hx Bd.notSynchronized hS0 (by rw [e7]; exact hk0) hZ hEL (by rw [e7]; exact C) Bd.returns (hb hby d3_26) (by decide) (by decide) ?_
  rw [e7]
  exact ⟨rfl, N7, K, E_a, _, _, F_value_a, F_coder_a, F_hash_a, F_hashIsZero_a, V_sb2⟩
theorem ef_rm_si1 (m : MethodId) (x0 : Addr) (x1 : Addr) : entryFrame m #[(.ref x0), (.ref x1)] 2 = mkF m 0 #[.val (.ref x0), .val (.ref x1)] [] := by first | (simp [entryFrame, mkF, argsToLocals, Value.category]; done) | rfl
def Q_rm_si1 (Z : State) (a b : Addr) (kb : ClassId) (dv : Value) (h0 : Heap) (n0 : Nat) (v : Option Value) (h : Heap) (L : List Loc) : Prop := v = none ∧ Fr n0 L ∧ Keep h0 h [a] ∧ Exa Z h a "java/lang/String" ∧ ∃ (t : Addr) (kb : ClassId), Fld Z h a "java/lang/String" "value" "[B" (.ref t) ∧ Fld Z h a "java/lang/String" "coder" "B" (.int 0) ∧ Fld Z h a "java/lang/String" "hash" "I" (.int 0) ∧ Fld Z h a "java/lang/String" "hashIsZero" "Z" (.int 0) ∧ Arv Z h t kb .byte 0 [] (.int 0)
theorem d2_0 : decode jdk_42_method_3_code 0 = .ok (.aload_n 0, 1) := by decide +kernel
theorem d2_1 : decode jdk_42_method_3_code 1 = .ok (.aload_n 1, 1) := by decide +kernel
theorem d2_2 : decode jdk_42_method_3_code 2 = .ok (.iconst 0, 1) := by decide +kernel
theorem d2_3 : decode jdk_42_method_3_code 3 = .ok (.aload_n 1, 1) := by decide +kernel
theorem d2_4 : decode jdk_42_method_3_code 4 = .ok (.arraylength, 1) := by decide +kernel
theorem d2_5 : decode jdk_42_method_3_code 5 = .ok (.aconst_null, 1) := by decide +kernel
theorem d2_6 : decode jdk_42_method_3_code 6 = .ok (.invokespecial 27, 3) := by decide +kernel
theorem pd_0 : parseMethodDescriptor "([CIILjava/lang/Void;)V" = some ⟨[(.array .char), .int, .int, (.object "java/lang/Void")], none⟩ := by decide +kernel
theorem d2_9 : decode jdk_42_method_3_code 9 = .ok (.return_, 1) := by decide +kernel
set_option maxRecDepth 65536 in
set_option maxHeartbeats 40000000 in
theorem rm_si1 (l : Launch) (Z : State) (a0 : Array Value) (hw : ∀ d ∈ tables_1, d.before a0 Z = true) (ws : List Jvm.Cond) (a b : Addr) (kb : ClassId) (dv : Value) (h0 : Heap) (n0 : Nat) (O : Old Z n0 h0) (E_a : Exa Z h0 a "java/lang/String") (F_value_a : Fld Z h0 a "java/lang/String" "value" "[B" .null) (F_coder_a : Fld Z h0 a "java/lang/String" "coder" "B" (.int 0)) (F_hash_a : Fld Z h0 a "java/lang/String" "hash" "I" (.int 0)) (F_hashIsZero_a : Fld Z h0 a "java/lang/String" "hashIsZero" "Z" (.int 0)) (g_a : n0 ≤ a) (V_b : Arv Z h0 b kb .char 0 [] dv) :
    MetFree l (⟨"java/lang/String", "<init>", "([C)V"⟩ : MethodName) (head1 (Jvm.Cond.code (⟨"java/lang/String", "<init>", "([C)V"⟩ : MethodName) jdk_42_method_3_code 2 none :: ws) ({ frames := 2, cells := 4, slots := 8, locals := 29 } : Room)) (fun aa U => aa = #[(.ref a), (.ref b)] ∧ Z.Warmed39 U.vm ∧ U.heap = h0 ∧ CHv Z consts_1 U.vm h0) (fun _ _ _ _ _ => True) (fun _ U o U' => ∃ v L, o = .returned v ∧ Q_rm_si1 Z a b kb dv h0 n0 v U'.heap L ∧ CHr Z consts_1 U.vm U.heap U'.vm U'.heap ∧ ReturnedEndW U o U' L ({ frames := 2, cells := 4, slots := 8, locals := 29 } : Room).cells ({ frames := 2, cells := 4, slots := 8, locals := 29 } : Room).slots) := by
  refine MetFree.of_bodySF (plainFor_of_name pn_java_lang_String) hisR ?_
  intro p e s m args below meth c s₁ Bd hml0 hP hK
  obtain ⟨rfl, hZ, hh, hC⟩ := hP
  have hx := Bd.exec
  have hby := Bd.bytes
  have hml : c.maxLocals = 2 := hml0
  have hown : s.vm.findClass "java/lang/String" = some m.cls := findClass_of_methodNamed Bd.named
  have hnm := (name_of_methodNamed Bd.named Bd.method).1
  have X0 : Stand p l e ({ frames := 2, cells := 4, slots := 8, locals := 29 } : Room) (s.setVm s.vm) m #[(.ref a), (.ref b)] below meth c s₁ [] 0 0 := Stand.of_body Bd
  have e0 : s₁.heap = h0 := by rw [← hh, Bd.state]; rfl
  have N0 := Fr.nil n0
  have K : Keep h0 h0 [a] := Keep.refl _ _
  have hS0 : s.Since s.vm 0 := (State.WarmedH.refl s).since 0
  have hk0 : 0 ≤ h0.size := Nat.zero_le _
  replace hZ : Z.Warmed39 (s.setVm s.vm).vm := hZ
  replace hown : (s.setVm s.vm).vm.findClass "java/lang/String" = some m.cls := hown
  have C : CHr Z consts_1 s.vm s.heap s.vm h0 := by rw [hh]; exact CHr.refl hC
  have hEL : EW Z a0 consts_1 := own_EW hw
  show Goes p e below s (HeldEnd Z consts_1) ({ frames := 2, cells := 4, slots := 8, locals := 29 } : Room).cells ({ frames := 2, cells := 4, slots := 8, locals := 29 } : Room).slots (Q_rm_si1 Z a b kb dv h0 n0) s₁ (entryFrame m #[(.ref a), (.ref b)] 2)
  refine Goes.cast (ef_rm_si1 m a b) ?_
  refine Goes.to (T' := s₁) (mkF m 1 #[.val (.ref a), .val (.ref b)] [(.ref a)]) (fun t k => XS.aloadN X0.here hx rfl (hb hby d2_0) rfl rfl k) ?_
  refine Goes.to (T' := s₁) (mkF m 2 #[.val (.ref a), .val (.ref b)] [(.ref b), (.ref a)]) (fun t k => XS.aloadN X0.here hx rfl (hb hby d2_1) rfl rfl k) ?_
  refine Goes.to (T' := s₁) (mkF m 3 #[.val (.ref a), .val (.ref b)] [(.int (0 : Int32)), (.ref b), (.ref a)]) (fun t k => XS.iconst X0.here hx rfl (hb hby d2_2) k) ?_
  refine Goes.to (T' := s₁) (mkF m 4 #[.val (.ref a), .val (.ref b)] [(.ref b), (.int (0 : Int32)), (.ref b), (.ref a)]) (fun t k => XS.aloadN X0.here hx rfl (hb hby d2_3) rfl rfl k) ?_
  have V'_b := V_b
  obtain ⟨cl1, Ar1, -, S1, M1, -, -⟩ := V'_b
  refine Goes.to (T' := s₁) (mkF m 5 #[.val (.ref a), .val (.ref b)] [(.int (0 : Int32)), (.int (0 : Int32)), (.ref b), (.ref a)]) (fun t k => X0.arraylength hx (by rw [e0]; exact Ar1.1) (State.isArrayOf_alike hZ.alike Ar1.2.1) (g := (mkF m 4 #[.val (.ref a), .val (.ref b)] [(.ref b), (.int (0 : Int32)), (.ref b), (.ref a)])) rfl rfl (hb hby d2_4) _ (by rw [len_of S1 M1]; exact k)) ?_
  refine Goes.to (T' := s₁) (mkF m 6 #[.val (.ref a), .val (.ref b)] [.null, (.int (0 : Int32)), (.int (0 : Int32)), (.ref b), (.ref a)]) (fun t k => XS.aconstNull X0.here hx rfl (hb hby d2_5) k) ?_
  obtain ⟨_, _, ⟨T2, L2, k2, n2⟩, -, X2, hT2, hG2, ⟨Lc2, hQ2, l2, y2, z2, R2⟩, st2⟩ := X0.specialBackS hx (y := (⟨"java/lang/String", "<init>", "([CIILjava/lang/Void;)V"⟩ : MethodName)) rfl hown (mvT hZ (hw _ (List.mem_of_getElem? (i := 11) rfl))) (mvT hZ (hw _ (List.mem_of_getElem? (i := 12) rfl))) (mvT hZ (hw _ (List.mem_of_getElem? (i := 14) rfl))) (by decide) (backOfSH (W := 0) (rm_si2 l Z a0 hw [] a b h0 n0 O E_a F_value_a F_coder_a F_hash_a F_hashIsZero_a g_a) hZ (hw _ (List.mem_of_getElem? (i := 14) rfl)) (hw _ (List.mem_of_getElem? (i := 6) rfl)) (by decide) (by decide) hEL C.1) (g := (mkF m 6 #[.val (.ref a), .val (.ref b)] [.null, (.int (0 : Int32)), (.int (0 : Int32)), (.ref b), (.ref a)])) rfl (by rw [hml]; rfl) (Steps.refl _) (a := a) (argsL := [(.ref b), (.int (0 : Int32)), (.int (0 : Int32)), .null]) (rest := []) (lenOf pd_0 rfl) rfl (by show 2 * 0 + _ ≤ _; exact Nat.le_of_eq rfl) (hb hby d2_6) (fun _ _ => ⟨rfl, e0, (by decide : 0 + 4 ≤ _), (by decide : 0 + 8 ≤ _)⟩)
  dsimp only [Pt.U, Pt.locs, Pt.cells, Pt.slots] at X2 l2 y2 z2 st2 hQ2 hT2 hG2 R2
  subst l2 y2 z2
  obtain ⟨X2, hT2, hZ', hown'⟩ := rebS hS0 (show _ ≤ s₁.heap.size by rw [e0]; exact hk0) X2 hT2 hG2 hZ hown
  replace C := C.trans R2
  replace hS0 := hT2
  replace hk0 := Nat.le_refl T2.heap.size
  replace hZ := hZ'
  replace hown := hown'
  obtain ⟨rfl, N2, K2, E_a, tt, kt, F_value_a, F_coder_a, F_hash_a, F_hashIsZero_a, V_tt⟩ := hQ2
  have N2' := Fr.app N0 N2
  replace O := O.keep K2 (allS g_a all0)
  replace K := K.trans K2 (allS (Or.inl (by simp)) all0)
  refine Goes.to (T' := T2) (mkF m 9 #[.val (.ref a), .val (.ref b)] []) (fun t k => st2.trans k) ?_
  refine Goes.retVH X2 hx Bd.notSynchronized hS0 hk0 hZ hEL C Bd.returns (hb hby d2_9) (by decide) (by decide) ?_
  exact ⟨rfl, N2', K, E_a, _, _, F_value_a, F_coder_a, F_hash_a, F_hashIsZero_a, V_tt⟩
theorem pn_com_example_lachesis_lachesis_model_RecordIdEqualsPinLaw : plainName "com/example/lachesis/lachesis/model/RecordIdEqualsPinLaw" = true := by first | (simp [plainName, overriddenIn]; done) | decide +kernel
theorem ef_rm_mk (m : MethodId) (x0 : Int32) (x1 : Int32) (x2 : Int32) (x3 : Int32) : entryFrame m #[(.int x0), (.int x1), (.int x2), (.int x3)] 4 = mkF m 0 #[.val (.int x0), .val (.int x1), .val (.int x2), .val (.int x3)] [] := by first | (simp [entryFrame, mkF, argsToLocals, Value.category]; done) | rfl
def Q_rm_mk (Z : State) (ln x1 x2 x3 cz : Int32) (h0 : Heap) (n0 : Nat) (v : Option Value) (h : Heap) (L : List Loc) : Prop := Fr n0 L ∧ Keep h0 h [] ∧ ∃ (b t : Addr) (kb : ClassId) (N2 : Int32) (vs : List Value), v = some (.ref b) ∧ n0 ≤ b ∧ h0.size ≤ b ∧ Exa Z h b "java/lang/String" ∧ Fld Z h b "java/lang/String" "value" "[B" (.ref t) ∧ Fld Z h b "java/lang/String" "coder" "B" (.int 0) ∧ Fld Z h b "java/lang/String" "hash" "I" (.int 0) ∧ Fld Z h b "java/lang/String" "hashIsZero" "Z" (.int 0) ∧ Arv Z h t kb .byte N2 vs (.int 0) ∧ StrChars.Road.CodA (own_cs ln x1 x2 x3) 0 N2 vs ∧ (¬ own_cs ln x1 x2 x3 = [] → Exa Z h t "[B")
theorem d1_0 : decode method_2_code 0 = .ok (.iload_n 0, 1) := by decide +kernel
theorem d1_1 : decode method_2_code 1 = .ok (.ifCond .ne 14, 3) := by decide +kernel
theorem d1_4 : decode method_2_code 4 = .ok (.new 7, 3) := by decide +kernel
theorem d1_7 : decode method_2_code 7 = .ok (.dup, 1) := by decide +kernel
theorem d1_8 : decode method_2_code 8 = .ok (.iconst 0, 1) := by decide +kernel
theorem d1_9 : decode method_2_code 9 = .ok (.newarray .char, 2) := by decide +kernel
theorem d1_11 : decode method_2_code 11 = .ok (.invokespecial 9, 3) := by decide +kernel
theorem pd_1 : parseMethodDescriptor "([C)V" = some ⟨[(.array .char)], none⟩ := by decide +kernel
theorem d1_14 : decode method_2_code 14 = .ok (.areturn, 1) := by decide +kernel
theorem d1_15 : decode method_2_code 15 = .ok (.iload_n 0, 1) := by decide +kernel
theorem d1_16 : decode method_2_code 16 = .ok (.iconst 1, 1) := by decide +kernel
theorem d1_17 : decode method_2_code 17 = .ok (.if_icmp .ne 19, 3) := by decide +kernel
theorem d1_20 : decode method_2_code 20 = .ok (.new 7, 3) := by decide +kernel
theorem d1_23 : decode method_2_code 23 = .ok (.dup, 1) := by decide +kernel
theorem d1_24 : decode method_2_code 24 = .ok (.iconst 1, 1) := by decide +kernel
theorem d1_25 : decode method_2_code 25 = .ok (.newarray .char, 2) := by decide +kernel
theorem d1_27 : decode method_2_code 27 = .ok (.dup, 1) := by decide +kernel
theorem d1_28 : decode method_2_code 28 = .ok (.iconst 0, 1) := by decide +kernel
theorem d1_29 : decode method_2_code 29 = .ok (.iload_n 1, 1) := by decide +kernel
theorem d1_30 : decode method_2_code 30 = .ok (.i2c, 1) := by decide +kernel
theorem d1_31 : decode method_2_code 31 = .ok (.castore, 1) := by decide +kernel
theorem d1_32 : decode method_2_code 32 = .ok (.invokespecial 9, 3) := by decide +kernel
theorem d1_35 : decode method_2_code 35 = .ok (.areturn, 1) := by decide +kernel
theorem d1_36 : decode method_2_code 36 = .ok (.iload_n 0, 1) := by decide +kernel
theorem d1_37 : decode method_2_code 37 = .ok (.iconst 2, 1) := by decide +kernel
theorem d1_38 : decode method_2_code 38 = .ok (.if_icmp .ne 24, 3) := by decide +kernel
theorem d1_41 : decode method_2_code 41 = .ok (.new 7, 3) := by decide +kernel
theorem d1_44 : decode method_2_code 44 = .ok (.dup, 1) := by decide +kernel
theorem d1_45 : decode method_2_code 45 = .ok (.iconst 2, 1) := by decide +kernel
theorem d1_46 : decode method_2_code 46 = .ok (.newarray .char, 2) := by decide +kernel
theorem d1_48 : decode method_2_code 48 = .ok (.dup, 1) := by decide +kernel
theorem d1_49 : decode method_2_code 49 = .ok (.iconst 0, 1) := by decide +kernel
theorem d1_50 : decode method_2_code 50 = .ok (.iload_n 1, 1) := by decide +kernel
theorem d1_51 : decode method_2_code 51 = .ok (.i2c, 1) := by decide +kernel
theorem d1_52 : decode method_2_code 52 = .ok (.castore, 1) := by decide +kernel
theorem d1_53 : decode method_2_code 53 = .ok (.dup, 1) := by decide +kernel
theorem d1_54 : decode method_2_code 54 = .ok (.iconst 1, 1) := by decide +kernel
theorem d1_55 : decode method_2_code 55 = .ok (.iload_n 2, 1) := by decide +kernel
theorem d1_56 : decode method_2_code 56 = .ok (.i2c, 1) := by decide +kernel
theorem d1_57 : decode method_2_code 57 = .ok (.castore, 1) := by decide +kernel
theorem d1_58 : decode method_2_code 58 = .ok (.invokespecial 9, 3) := by decide +kernel
theorem d1_61 : decode method_2_code 61 = .ok (.areturn, 1) := by decide +kernel
theorem d1_62 : decode method_2_code 62 = .ok (.new 7, 3) := by decide +kernel
theorem d1_65 : decode method_2_code 65 = .ok (.dup, 1) := by decide +kernel
theorem d1_66 : decode method_2_code 66 = .ok (.iconst 3, 1) := by decide +kernel
theorem d1_67 : decode method_2_code 67 = .ok (.newarray .char, 2) := by decide +kernel
theorem d1_69 : decode method_2_code 69 = .ok (.dup, 1) := by decide +kernel
theorem d1_70 : decode method_2_code 70 = .ok (.iconst 0, 1) := by decide +kernel
theorem d1_71 : decode method_2_code 71 = .ok (.iload_n 1, 1) := by decide +kernel
theorem d1_72 : decode method_2_code 72 = .ok (.i2c, 1) := by decide +kernel
theorem d1_73 : decode method_2_code 73 = .ok (.castore, 1) := by decide +kernel
theorem d1_74 : decode method_2_code 74 = .ok (.dup, 1) := by decide +kernel
theorem d1_75 : decode method_2_code 75 = .ok (.iconst 1, 1) := by decide +kernel
theorem d1_76 : decode method_2_code 76 = .ok (.iload_n 2, 1) := by decide +kernel
theorem d1_77 : decode method_2_code 77 = .ok (.i2c, 1) := by decide +kernel
theorem d1_78 : decode method_2_code 78 = .ok (.castore, 1) := by decide +kernel
theorem d1_79 : decode method_2_code 79 = .ok (.dup, 1) := by decide +kernel
theorem d1_80 : decode method_2_code 80 = .ok (.iconst 2, 1) := by decide +kernel
theorem d1_81 : decode method_2_code 81 = .ok (.iload_n 3, 1) := by decide +kernel
theorem d1_82 : decode method_2_code 82 = .ok (.i2c, 1) := by decide +kernel
theorem d1_83 : decode method_2_code 83 = .ok (.castore, 1) := by decide +kernel
theorem d1_84 : decode method_2_code 84 = .ok (.invokespecial 9, 3) := by decide +kernel
theorem d1_87 : decode method_2_code 87 = .ok (.areturn, 1) := by decide +kernel
set_option maxRecDepth 65536 in
set_option maxHeartbeats 40000000 in
theorem rm_mk (l : Launch) (Z : State) (a0 : Array Value) (hw : ∀ d ∈ tables_1, d.before a0 Z = true) (ws : List Jvm.Cond) (ln x1 x2 x3 cz : Int32) (h0 : Heap) (n0 : Nat) (O : Old Z n0 h0) (h1 : ¬ x1 < 0 ∧ ¬ (255 : Int32) < x1) (h2 : ¬ x2 < 0 ∧ ¬ (255 : Int32) < x2) (h3 : ¬ x3 < 0 ∧ ¬ (255 : Int32) < x3) (S_CS : Sta Z Z.heap "java/lang/String" "COMPACT_STRINGS" "Z" (.int cz)) (hcz : ¬ cz = 0) :
    MetFree l (⟨"com/example/lachesis/lachesis/model/RecordIdEqualsPinLaw", "mk", "(IIII)Ljava/lang/String;"⟩ : MethodName) (head1 (Jvm.Cond.code (⟨"com/example/lachesis/lachesis/model/RecordIdEqualsPinLaw", "mk", "(IIII)Ljava/lang/String;"⟩ : MethodName) method_2_code 4 (some (.object "java/lang/String")) :: ws) ({ frames := 4, cells := 6, slots := 12, locals := 80 } : Room)) (fun aa U => aa = #[(.int ln), (.int x1), (.int x2), (.int x3)] ∧ Z.Warmed39 U.vm ∧ U.heap = h0 ∧ CHv Z consts_1 U.vm h0) (fun _ _ _ _ _ => True) (fun _ U o U' => ∃ v L, o = .returned v ∧ Q_rm_mk Z ln x1 x2 x3 cz h0 n0 v U'.heap L ∧ CHr Z consts_1 U.vm U.heap U'.vm U'.heap ∧ ReturnedEndW U o U' L ({ frames := 4, cells := 6, slots := 12, locals := 80 } : Room).cells ({ frames := 4, cells := 6, slots := 12, locals := 80 } : Room).slots) := by
  refine MetFree.of_bodySF (plainFor_of_name pn_com_example_lachesis_lachesis_model_RecordIdEqualsPinLaw) hisR ?_
  intro p e s m args below meth c s₁ Bd hml0 hP hK
  obtain ⟨rfl, hZ, hh, hC⟩ := hP
  have hx := Bd.exec
  have hby := Bd.bytes
  have hml : c.maxLocals = 4 := hml0
  have hown : s.vm.findClass "com/example/lachesis/lachesis/model/RecordIdEqualsPinLaw" = some m.cls := findClass_of_methodNamed Bd.named
  have hnm := (name_of_methodNamed Bd.named Bd.method).1
  have X0 : Stand p l e ({ frames := 4, cells := 6, slots := 12, locals := 80 } : Room) (s.setVm s.vm) m #[(.int ln), (.int x1), (.int x2), (.int x3)] below meth c s₁ [] 0 0 := Stand.of_body Bd
  have e0 : s₁.heap = h0 := by rw [← hh, Bd.state]; rfl
  have N0 := Fr.nil n0
  have K : Keep h0 h0 [] := Keep.refl _ _
  have hS0 : s.Since s.vm 0 := (State.WarmedH.refl s).since 0
  have hk0 : 0 ≤ h0.size := Nat.zero_le _
  replace hZ : Z.Warmed39 (s.setVm s.vm).vm := hZ
  replace hown : (s.setVm s.vm).vm.findClass "com/example/lachesis/lachesis/model/RecordIdEqualsPinLaw" = some m.cls := hown
  have C : CHr Z consts_1 s.vm s.heap s.vm h0 := by rw [hh]; exact CHr.refl hC
  have hEL : EW Z a0 consts_1 := own_EW hw
  show Goes p e below s (HeldEnd Z consts_1) ({ frames := 4, cells := 6, slots := 12, locals := 80 } : Room).cells ({ frames := 4, cells := 6, slots := 12, locals := 80 } : Room).slots (Q_rm_mk Z ln x1 x2 x3 cz h0 n0) s₁ (entryFrame m #[(.int ln), (.int x1), (.int x2), (.int x3)] 4)
  refine Goes.cast (ef_rm_mk m ln x1 x2 x3) ?_
  refine Goes.to (T' := s₁) (mkF m 1 #[.val (.int ln), .val (.int x1), .val (.int x2), .val (.int x3)] [(.int ln)]) (fun t k => XS.iloadN X0.here hx rfl (hb hby d1_0) rfl k) ?_
  by_cases hc1_1 : ln = (0 : Int32)
  · refine Goes.to (T' := s₁) (mkF m 4 #[.val (.int ln), .val (.int x1), .val (.int x2), .val (.int x3)] []) (fun t k => XS.ifNo X0.here hx rfl (hb hby d1_1) rfl ((if0 _ _).trans (teq hc1_1).2) k) ?_
    obtain ⟨T2, h2, X2, e2, E2, A2, D2, -, st2⟩ := newO X0 hx hZ hown (hw _ (List.mem_of_getElem? (i := 4) rfl)) (hw _ (List.mem_of_getElem? (i := 5) rfl)) (hw _ (List.mem_of_getElem? (i := 6) rfl)) e0 (g := (mkF m 4 #[.val (.int ln), .val (.int x1), .val (.int x2), .val (.int x3)] [])) rfl (hb hby d1_4) (by decide) (by decide)
    obtain ⟨b2, g2⟩ : ∃ z, z = h0.size := ⟨_, rfl⟩
    rw [← g2] at A2 D2 st2
    have g_b2 : n0 ≤ b2 := Nat.le_trans (O.1 ▸ O.2.1) (Nat.le_of_eq g2.symm)
    have sz_b2 : h0.size ≤ b2 := Nat.le_trans K.1 (Nat.le_of_eq g2.symm)
    have C0 := C
    replace C := C.trans (CHr.ext E2 C.1)
    replace O := O.ext E2
    replace hk0 := Nat.le_trans hk0 E2.1
    replace K := K.ext E2
    have Z_b2 := Safe.ext (EL := consts_1) E2 C0.1 (Safe.new (Nat.le_of_eq g2.symm) : Safe Z consts_1 _ _ b2)
    have E_b2 : Exa Z h2 b2 "java/lang/String" := A2
    have F_value_b2 : Fld Z h2 b2 "java/lang/String" "value" "[B" .null := D2 (Or.inr (hw _ (List.mem_of_getElem? (i := 20) rfl))) (ty := (.array .byte)) (by decide)
    have F_coder_b2 : Fld Z h2 b2 "java/lang/String" "coder" "B" (.int (0 : Int32)) := D2 (Or.inr (hw _ (List.mem_of_getElem? (i := 21) rfl))) (ty := .byte) (by decide)
    have F_hash_b2 : Fld Z h2 b2 "java/lang/String" "hash" "I" (.int (0 : Int32)) := D2 (Or.inl (hw _ (List.mem_of_getElem? (i := 49) rfl))) (ty := .int) (by decide)
    have F_hashIsZero_b2 : Fld Z h2 b2 "java/lang/String" "hashIsZero" "Z" (.int (0 : Int32)) := D2 (Or.inl (hw _ (List.mem_of_getElem? (i := 51) rfl))) (ty := .boolean) (by decide)
    refine Goes.to (T' := T2) (mkF m 7 #[.val (.int ln), .val (.int x1), .val (.int x2), .val (.int x3)] [(.ref b2)]) st2 ?_
    refine Goes.to (T' := T2) (mkF m 8 #[.val (.int ln), .val (.int x1), .val (.int x2), .val (.int x3)] [(.ref b2), (.ref b2)]) (fun t k => XS.dup X2.here hx rfl (hb hby d1_7) rfl rfl k) ?_
    refine Goes.to (T' := T2) (mkF m 9 #[.val (.int ln), .val (.int x1), .val (.int x2), .val (.int x3)] [(.int (0 : Int32)), (.ref b2), (.ref b2)]) (fun t k => XS.iconst X2.here hx rfl (hb hby d1_8) k) ?_
    obtain ⟨T3, h3, k3, X3, e3, E3, A3, st3⟩ := newP X2 hx hZ (hw _ (List.mem_of_getElem? (i := 7) rfl)) e2 (g := (mkF m 9 #[.val (.int ln), .val (.int x1), .val (.int x2), .val (.int x3)] [(.int (0 : Int32)), (.ref b2), (.ref b2)])) rfl (hb hby d1_9) rfl (by decide) (cap := 0) (by decide) (by decide) (by decide) (by decide)
    obtain ⟨b3, g3⟩ : ∃ z, z = h2.size := ⟨_, rfl⟩
    rw [← g3] at A3 st3
    have g_b3 : n0 ≤ b3 := Nat.le_trans (O.1 ▸ O.2.1) (Nat.le_of_eq g3.symm)
    have sz_b3 : h0.size ≤ b3 := Nat.le_trans K.1 (Nat.le_of_eq g3.symm)
    have ne_b2_b3 : b2 ≠ b3 := Nat.ne_of_lt (Nat.lt_of_lt_of_le E_b2.lt (Nat.le_of_eq g3.symm))
    replace Z_b2 := Safe.ext E3 C.1 Z_b2
    replace C := C.trans (CHr.ext E3 C.1)
    replace O := O.ext E3
    replace hk0 := Nat.le_trans hk0 E3.1
    replace E_b2 := E_b2.ext E3
    replace F_value_b2 := F_value_b2.ext E3
    replace F_coder_b2 := F_coder_b2.ext E3
    replace F_hash_b2 := F_hash_b2.ext E3
    replace F_hashIsZero_b2 := F_hashIsZero_b2.ext E3
    replace K := K.ext E3
    have V_b3 : Arv Z h3 b3 k3 .char (0 : Int32) [] (.int (0 : Int32)) := (Arv.new A3 (by decide)).pad (pad_rep [] (.int (0 : Int32)) 0)
    refine Goes.to (T' := T3) (mkF m 11 #[.val (.int ln), .val (.int x1), .val (.int x2), .val (.int x3)] [(.ref b3), (.ref b2), (.ref b2)]) st3 ?_
    obtain ⟨_, _, ⟨T4, L4, k4, n4⟩, -, X4, hT4, hG4, ⟨Lc4, hQ4, l4, y4, z4, R4⟩, st4⟩ := X3.specialBackS hx (y := (⟨"java/lang/String", "<init>", "([C)V"⟩ : MethodName)) rfl hown (mvT hZ (hw _ (List.mem_of_getElem? (i := 8) rfl))) (mvT hZ (hw _ (List.mem_of_getElem? (i := 9) rfl))) (mvT hZ (hw _ (List.mem_of_getElem? (i := 10) rfl))) (by decide) (backOfSH (W := 1) (rm_si1 l Z a0 hw [] b2 b3 _ _ h3 n0 O E_b2 F_value_b2 F_coder_b2 F_hash_b2 F_hashIsZero_b2 g_b2 V_b3) hZ (hw _ (List.mem_of_getElem? (i := 10) rfl)) (hw _ (List.mem_of_getElem? (i := 6) rfl)) (by decide) (by decide) hEL C.1) (g := (mkF m 11 #[.val (.int ln), .val (.int x1), .val (.int x2), .val (.int x3)] [(.ref b3), (.ref b2), (.ref b2)])) rfl (by rw [hml]; rfl) (Steps.refl _) (a := b2) (argsL := [(.ref b3)]) (rest := [(.ref b2)]) (lenOf pd_1 rfl) rfl (by show 2 * 0 + _ ≤ _; exact Nat.le_of_eq rfl) (hb hby d1_11) (fun _ _ => ⟨rfl, e3, (by decide : 2 + 4 ≤ _), (by decide : 4 + 8 ≤ _)⟩)
    dsimp only [Pt.U, Pt.locs, Pt.cells, Pt.slots] at X4 l4 y4 z4 st4 hQ4 hT4 hG4 R4
    subst l4 y4 z4
    obtain ⟨X4, hT4, hZ', hown'⟩ := rebS hS0 (show _ ≤ T3.heap.size by rw [e3]; exact hk0) X4 hT4 hG4 hZ hown
    replace Z_b2 := CHr.safe R4 E_b2.lt Z_b2
    replace C := C.trans R4
    replace hS0 := hT4
    replace hk0 := Nat.le_refl T4.heap.size
    replace hZ := hZ'
    replace hown := hown'
    obtain ⟨rfl, N4, K4, E', tt, kt, G_value, G_coder, G_hash, G_hashIsZero, V_tt⟩ := hQ4
    have N4' := Fr.app N0 N4
    replace E_b2 := E_b2.keep K4
    replace V_b3 := V_b3.keep K4 (ninS (Ne.symm ne_b2_b3) (nin0))
    replace O := O.keep K4 (allS g_b2 all0)
    replace K := K.trans K4 (allS (Or.inr sz_b2) all0)
    refine Goes.to (T' := T4) (mkF m 14 #[.val (.int ln), .val (.int x1), .val (.int x2), .val (.int x3)] [(.ref b2)]) (fun t k => st4.trans k) ?_
    refine Goes.retAH X4 hx Bd.notSynchronized hS0 hk0 hZ hEL C rfl Bd.returns rfl (hb hby d1_14) (by decide) (by decide) ?_
    exact ⟨N4', K, _, _, _, _, _, rfl, g_b2, sz_b2, E', G_value, G_coder, G_hash, G_hashIsZero, V_tt, by rw [own_cs, if_pos hc1_1]; exact Or.inl ⟨rfl, rfl, rfl, fun _ q => nomatch q⟩, fun q => absurd (by rw [own_cs, if_pos hc1_1]) q⟩
  · refine Goes.to (T' := s₁) (mkF m 15 #[.val (.int ln), .val (.int x1), .val (.int x2), .val (.int x3)] []) (fun t k => XS.ifYes X0.here hx rfl (pc0 := 1) (pc' := 15) rfl (hb hby d1_1) rfl ((if0 _ _).trans (feq hc1_1).2) (by decide) (by decide) k) ?_
    refine Goes.to (T' := s₁) (mkF m 16 #[.val (.int ln), .val (.int x1), .val (.int x2), .val (.int x3)] [(.int ln)]) (fun t k => XS.iloadN X0.here hx rfl (hb hby d1_15) rfl k) ?_
    refine Goes.to (T' := s₁) (mkF m 17 #[.val (.int ln), .val (.int x1), .val (.int x2), .val (.int x3)] [(.int (1 : Int32)), (.int ln)]) (fun t k => XS.iconst X0.here hx rfl (hb hby d1_16) k) ?_
    by_cases hc17_5 : ln = (1 : Int32)
    · refine Goes.to (T' := s₁) (mkF m 20 #[.val (.int ln), .val (.int x1), .val (.int x2), .val (.int x3)] []) (fun t k => XS.icmpNo X0.here hx rfl (hb hby d1_17) rfl (teq hc17_5).2 k) ?_
      obtain ⟨T6, h6, X6, e6, E6, A6, D6, -, st6⟩ := newO X0 hx hZ hown (hw _ (List.mem_of_getElem? (i := 4) rfl)) (hw _ (List.mem_of_getElem? (i := 5) rfl)) (hw _ (List.mem_of_getElem? (i := 6) rfl)) e0 (g := (mkF m 20 #[.val (.int ln), .val (.int x1), .val (.int x2), .val (.int x3)] [])) rfl (hb hby d1_20) (by decide) (by decide)
      obtain ⟨b6, g6⟩ : ∃ z, z = h0.size := ⟨_, rfl⟩
      rw [← g6] at A6 D6 st6
      have g_b6 : n0 ≤ b6 := Nat.le_trans (O.1 ▸ O.2.1) (Nat.le_of_eq g6.symm)
      have sz_b6 : h0.size ≤ b6 := Nat.le_trans K.1 (Nat.le_of_eq g6.symm)
      have C0 := C
      replace C := C.trans (CHr.ext E6 C.1)
      replace O := O.ext E6
      replace hk0 := Nat.le_trans hk0 E6.1
      replace K := K.ext E6
      have Z_b6 := Safe.ext (EL := consts_1) E6 C0.1 (Safe.new (Nat.le_of_eq g6.symm) : Safe Z consts_1 _ _ b6)
      have E_b6 : Exa Z h6 b6 "java/lang/String" := A6
      have F_value_b6 : Fld Z h6 b6 "java/lang/String" "value" "[B" .null := D6 (Or.inr (hw _ (List.mem_of_getElem? (i := 20) rfl))) (ty := (.array .byte)) (by decide)
      have F_coder_b6 : Fld Z h6 b6 "java/lang/String" "coder" "B" (.int (0 : Int32)) := D6 (Or.inr (hw _ (List.mem_of_getElem? (i := 21) rfl))) (ty := .byte) (by decide)
      have F_hash_b6 : Fld Z h6 b6 "java/lang/String" "hash" "I" (.int (0 : Int32)) := D6 (Or.inl (hw _ (List.mem_of_getElem? (i := 49) rfl))) (ty := .int) (by decide)
      have F_hashIsZero_b6 : Fld Z h6 b6 "java/lang/String" "hashIsZero" "Z" (.int (0 : Int32)) := D6 (Or.inl (hw _ (List.mem_of_getElem? (i := 51) rfl))) (ty := .boolean) (by decide)
      refine Goes.to (T' := T6) (mkF m 23 #[.val (.int ln), .val (.int x1), .val (.int x2), .val (.int x3)] [(.ref b6)]) st6 ?_
      refine Goes.to (T' := T6) (mkF m 24 #[.val (.int ln), .val (.int x1), .val (.int x2), .val (.int x3)] [(.ref b6), (.ref b6)]) (fun t k => XS.dup X6.here hx rfl (hb hby d1_23) rfl rfl k) ?_
      refine Goes.to (T' := T6) (mkF m 25 #[.val (.int ln), .val (.int x1), .val (.int x2), .val (.int x3)] [(.int (1 : Int32)), (.ref b6), (.ref b6)]) (fun t k => XS.iconst X6.here hx rfl (hb hby d1_24) k) ?_
      obtain ⟨T7, h7, k7, X7, e7, E7, A7, st7⟩ := newP X6 hx hZ (hw _ (List.mem_of_getElem? (i := 7) rfl)) e6 (g := (mkF m 25 #[.val (.int ln), .val (.int x1), .val (.int x2), .val (.int x3)] [(.int (1 : Int32)), (.ref b6), (.ref b6)])) rfl (hb hby d1_25) rfl (by decide) (cap := 1) (by decide) (by decide) (by decide) (by decide)
      obtain ⟨b7, g7⟩ : ∃ z, z = h6.size := ⟨_, rfl⟩
      rw [← g7] at A7 st7
      have g_b7 : n0 ≤ b7 := Nat.le_trans (O.1 ▸ O.2.1) (Nat.le_of_eq g7.symm)
      have sz_b7 : h0.size ≤ b7 := Nat.le_trans K.1 (Nat.le_of_eq g7.symm)
      have ne_b6_b7 : b6 ≠ b7 := Nat.ne_of_lt (Nat.lt_of_lt_of_le E_b6.lt (Nat.le_of_eq g7.symm))
      replace Z_b6 := Safe.ext E7 C.1 Z_b6
      replace C := C.trans (CHr.ext E7 C.1)
      replace O := O.ext E7
      replace hk0 := Nat.le_trans hk0 E7.1
      replace E_b6 := E_b6.ext E7
      replace F_value_b6 := F_value_b6.ext E7
      replace F_coder_b6 := F_coder_b6.ext E7
      replace F_hash_b6 := F_hash_b6.ext E7
      replace F_hashIsZero_b6 := F_hashIsZero_b6.ext E7
      replace K := K.ext E7
      have V_b7 : Arv Z h7 b7 k7 .char (1 : Int32) [(.int (0 : Int32))] (.int (0 : Int32)) := (Arv.new A7 (by decide)).pad (pad_rep [] (.int (0 : Int32)) 1)
      refine Goes.to (T' := T7) (mkF m 27 #[.val (.int ln), .val (.int x1), .val (.int x2), .val (.int x3)] [(.ref b7), (.ref b6), (.ref b6)]) st7 ?_
      refine Goes.to (T' := T7) (mkF m 28 #[.val (.int ln), .val (.int x1), .val (.int x2), .val (.int x3)] [(.ref b7), (.ref b7), (.ref b6), (.ref b6)]) (fun t k => XS.dup X7.here hx rfl (hb hby d1_27) rfl rfl k) ?_
      refine Goes.to (T' := T7) (mkF m 29 #[.val (.int ln), .val (.int x1), .val (.int x2), .val (.int x3)] [(.int (0 : Int32)), (.ref b7), (.ref b7), (.ref b6), (.ref b6)]) (fun t k => XS.iconst X7.here hx rfl (hb hby d1_28) k) ?_
      refine Goes.to (T' := T7) (mkF m 30 #[.val (.int ln), .val (.int x1), .val (.int x2), .val (.int x3)] [(.int x1), (.int (0 : Int32)), (.ref b7), (.ref b7), (.ref b6), (.ref b6)]) (fun t k => XS.iloadN X7.here hx rfl (hb hby d1_29) rfl k) ?_
      refine Goes.to (T' := T7) (mkF m 31 #[.val (.int ln), .val (.int x1), .val (.int x2), .val (.int x3)] [(.int (x1.toUInt32.toUInt16.toUInt32.toInt32)), (.int (0 : Int32)), (.ref b7), (.ref b7), (.ref b6), (.ref b6)]) (fun t k => XS.i2c X7.here hx rfl (hb hby d1_30) rfl k) ?_
      obtain ⟨cl8, Ar8, q8, S8, M8, H8, G8⟩ := V_b7
      have hin8 : ¬ ((0 : Int32) < 0 ∨ cl8.slots.size ≤ ((0 : Int32)).toNatClampNeg) := inb_of S8 ⟨by decide, by decide⟩
      obtain ⟨T9, h9, X9, e9, W9, st9⟩ := stC X7 hx hZ e7 Ar8 (j := (0 : Int32)) hin8 (g := (mkF m 31 #[.val (.int ln), .val (.int x1), .val (.int x2), .val (.int x3)] [(.int (x1.toUInt32.toUInt16.toUInt32.toInt32)), (.int (0 : Int32)), (.ref b7), (.ref b7), (.ref b6), (.ref b6)])) rfl rfl (hb hby d1_31)
      have V_b7 : Arv Z h9 b7 k7 .char (1 : Int32) [(.int (nar .char (x1.toUInt32.toUInt16.toUInt32.toInt32)))] (.int (0 : Int32)) := Arv.set Ar8 q8 S8 M8 H8 G8 (fits_nar_char _) W9 0 rfl (Nat.le_of_ble_eq_true rfl)
      replace Z_b6 := Safe.wr W9 (Safe.arr hZ.alike Ar8 (by decide)) C.1 Z_b6
      have C' := C.trans (CHr.wr W9 (Safe.arr hZ.alike Ar8 (by decide)) C.1)
      replace C := C'
      replace E_b6 := E_b6.wr W9
      replace F_value_b6 := F_value_b6.other W9 (Or.inl ne_b6_b7)
      replace F_coder_b6 := F_coder_b6.other W9 (Or.inl ne_b6_b7)
      replace F_hash_b6 := F_hash_b6.other W9 (Or.inl ne_b6_b7)
      replace F_hashIsZero_b6 := F_hashIsZero_b6.other W9 (Or.inl ne_b6_b7)
      replace O := O.wr W9 g_b7
      replace hk0 := Nat.le_trans hk0 (Nat.le_of_eq W9.size.symm)
      replace K := K.wr W9 (Or.inr sz_b7)
      have N9 := Fr.snoc X9 N0 g_b7
      refine Goes.to (T' := T9) (mkF m 32 #[.val (.int ln), .val (.int x1), .val (.int x2), .val (.int x3)] [(.ref b7), (.ref b6), (.ref b6)]) st9 ?_
      have hp : ∀ c ∈ ([(nar .char (x1.toUInt32.toUInt16.toUInt32.toInt32))] : List Int32), ¬ c < 0 ∧ ¬ (255 : Int32) < c := by
        intro c hc
        simp only [List.mem_cons, List.not_mem_nil, or_false] at hc
        rcases hc with rfl <;> first | exact own_n2 h1 | exact own_n2 h2 | exact own_n2 h3
      obtain ⟨_, _, ⟨T10, L10, k10, n10⟩, -, X10, ⟨Lc10, hQ10, l10, y10, z10⟩, st10⟩ := X9.specialBack hx (y := (⟨"java/lang/String", "<init>", "([C)V"⟩ : MethodName)) rfl hown (mvT hZ (hw _ (List.mem_of_getElem? (i := 8) rfl))) (mvT hZ (hw _ (List.mem_of_getElem? (i := 9) rfl))) (mvT hZ (hw _ (List.mem_of_getElem? (i := 10) rfl))) (by decide) (own_backA (W := 1) hZ (fun d hd => hw d (own_words d hd)) (kI := 4) (hw _ (List.mem_of_getElem? (i := 5) rfl)) (cs := ([(nar .char (x1.toUInt32.toUInt16.toUInt32.toInt32))] : List Int32)) (n := 1) g_b6 E_b6 F_value_b6 F_coder_b6 V_b7 (S_CS.ext O.2) hcz rfl rfl (by decide) (by decide) hp (by decide) (by decide) F_hash_b6 F_hashIsZero_b6 (Or.inr (hw _ (List.mem_of_getElem? (i := 20) rfl))) (Or.inr (hw _ (List.mem_of_getElem? (i := 21) rfl))) (Or.inl (hw _ (List.mem_of_getElem? (i := 49) rfl))) (Or.inl (hw _ (List.mem_of_getElem? (i := 51) rfl)))) (g := (mkF m 32 #[.val (.int ln), .val (.int x1), .val (.int x2), .val (.int x3)] [(.ref b7), (.ref b6), (.ref b6)])) rfl (by rw [hml]; rfl) (Steps.refl _) (a := b6) (argsL := [(.ref b7)]) (rest := [(.ref b6)]) (lenOf pd_1 rfl) rfl (by show 2 * 0 + _ ≤ _; exact Nat.le_of_eq rfl) (hb hby d1_32) (fun _ _ => ⟨rfl, e9, (by decide : 2 + 1 ≤ _), (by decide : 5 + 1 ≤ _)⟩)
      dsimp only [Pt.U, Pt.locs, Pt.cells, Pt.slots] at X10 l10 y10 z10 st10 hQ10
      subst l10 y10 z10
      obtain ⟨rfl, N10, K10, E', G_value, G_coder, G_hash, G_hashIsZero, kt, hkt, V_tt⟩ := hQ10
      have N10' := Fr.app N9 N10
      have C' := C.trans (CHr.keep K10 (sfS Z_b6 sf0) C.1)
      have zz0 := Safe.keep K10 (sfS Z_b6 sf0) C.1 Z_b6
      replace Z_b6 := zz0
      replace C := C'
      replace E_b6 := E_b6.keep K10
      replace V_b7 := V_b7.keep K10 (ninS (Ne.symm ne_b6_b7) (nin0))
      replace O := O.keep K10 (allS g_b6 all0)
      replace hk0 := Nat.le_trans hk0 K10.1
      replace K := K.trans K10 (allS (Or.inr sz_b6) all0)
      have hcd := StrChars.Road.codOf (cs := ([(nar .char (x1.toUInt32.toUInt16.toUInt32.toInt32))] : List Int32)) (n := 1) rfl (fun c hc => (hp c hc).2)
      rw [own_n2q h1] at hcd V_tt
      refine Goes.to (T' := T10) (mkF m 35 #[.val (.int ln), .val (.int x1), .val (.int x2), .val (.int x3)] [(.ref b6)]) (fun t k => st10.trans k) ?_
      refine Goes.retAH X10 hx Bd.notSynchronized hS0 hk0 hZ hEL C rfl Bd.returns rfl (hb hby d1_35) (by decide) (by decide) ?_
      exact ⟨N10', K, _, _, _, _, _, rfl, g_b6, sz_b6, E', G_value, G_coder, G_hash, G_hashIsZero, V_tt, by rw [own_cs, if_neg hc1_1, if_pos hc17_5]; exact hcd, fun _ => own_exB hkt V_tt⟩
    · refine Goes.to (T' := s₁) (mkF m 36 #[.val (.int ln), .val (.int x1), .val (.int x2), .val (.int x3)] []) (fun t k => XS.icmpYes X0.here hx rfl (pc0 := 17) (pc' := 36) rfl (hb hby d1_17) rfl (feq hc17_5).2 (by decide) (by decide) k) ?_
      refine Goes.to (T' := s₁) (mkF m 37 #[.val (.int ln), .val (.int x1), .val (.int x2), .val (.int x3)] [(.int ln)]) (fun t k => XS.iloadN X0.here hx rfl (hb hby d1_36) rfl k) ?_
      refine Goes.to (T' := s₁) (mkF m 38 #[.val (.int ln), .val (.int x1), .val (.int x2), .val (.int x3)] [(.int (2 : Int32)), (.int ln)]) (fun t k => XS.iconst X0.here hx rfl (hb hby d1_37) k) ?_
      by_cases hc38_11 : ln = (2 : Int32)
      · refine Goes.to (T' := s₁) (mkF m 41 #[.val (.int ln), .val (.int x1), .val (.int x2), .val (.int x3)] []) (fun t k => XS.icmpNo X0.here hx rfl (hb hby d1_38) rfl (teq hc38_11).2 k) ?_
        obtain ⟨T12, h12, X12, e12, E12, A12, D12, -, st12⟩ := newO X0 hx hZ hown (hw _ (List.mem_of_getElem? (i := 4) rfl)) (hw _ (List.mem_of_getElem? (i := 5) rfl)) (hw _ (List.mem_of_getElem? (i := 6) rfl)) e0 (g := (mkF m 41 #[.val (.int ln), .val (.int x1), .val (.int x2), .val (.int x3)] [])) rfl (hb hby d1_41) (by decide) (by decide)
        obtain ⟨b12, g12⟩ : ∃ z, z = h0.size := ⟨_, rfl⟩
        rw [← g12] at A12 D12 st12
        have g_b12 : n0 ≤ b12 := Nat.le_trans (O.1 ▸ O.2.1) (Nat.le_of_eq g12.symm)
        have sz_b12 : h0.size ≤ b12 := Nat.le_trans K.1 (Nat.le_of_eq g12.symm)
        have C0 := C
        replace C := C.trans (CHr.ext E12 C.1)
        replace O := O.ext E12
        replace hk0 := Nat.le_trans hk0 E12.1
        replace K := K.ext E12
        have Z_b12 := Safe.ext (EL := consts_1) E12 C0.1 (Safe.new (Nat.le_of_eq g12.symm) : Safe Z consts_1 _ _ b12)
        have E_b12 : Exa Z h12 b12 "java/lang/String" := A12
        have F_value_b12 : Fld Z h12 b12 "java/lang/String" "value" "[B" .null := D12 (Or.inr (hw _ (List.mem_of_getElem? (i := 20) rfl))) (ty := (.array .byte)) (by decide)
        have F_coder_b12 : Fld Z h12 b12 "java/lang/String" "coder" "B" (.int (0 : Int32)) := D12 (Or.inr (hw _ (List.mem_of_getElem? (i := 21) rfl))) (ty := .byte) (by decide)
        have F_hash_b12 : Fld Z h12 b12 "java/lang/String" "hash" "I" (.int (0 : Int32)) := D12 (Or.inl (hw _ (List.mem_of_getElem? (i := 49) rfl))) (ty := .int) (by decide)
        have F_hashIsZero_b12 : Fld Z h12 b12 "java/lang/String" "hashIsZero" "Z" (.int (0 : Int32)) := D12 (Or.inl (hw _ (List.mem_of_getElem? (i := 51) rfl))) (ty := .boolean) (by decide)
        refine Goes.to (T' := T12) (mkF m 44 #[.val (.int ln), .val (.int x1), .val (.int x2), .val (.int x3)] [(.ref b12)]) st12 ?_
        refine Goes.to (T' := T12) (mkF m 45 #[.val (.int ln), .val (.int x1), .val (.int x2), .val (.int x3)] [(.ref b12), (.ref b12)]) (fun t k => XS.dup X12.here hx rfl (hb hby d1_44) rfl rfl k) ?_
        refine Goes.to (T' := T12) (mkF m 46 #[.val (.int ln), .val (.int x1), .val (.int x2), .val (.int x3)] [(.int (2 : Int32)), (.ref b12), (.ref b12)]) (fun t k => XS.iconst X12.here hx rfl (hb hby d1_45) k) ?_
        obtain ⟨T13, h13, k13, X13, e13, E13, A13, st13⟩ := newP X12 hx hZ (hw _ (List.mem_of_getElem? (i := 7) rfl)) e12 (g := (mkF m 46 #[.val (.int ln), .val (.int x1), .val (.int x2), .val (.int x3)] [(.int (2 : Int32)), (.ref b12), (.ref b12)])) rfl (hb hby d1_46) rfl (by decide) (cap := 2) (by decide) (by decide) (by decide) (by decide)
        obtain ⟨b13, g13⟩ : ∃ z, z = h12.size := ⟨_, rfl⟩
        rw [← g13] at A13 st13
        have g_b13 : n0 ≤ b13 := Nat.le_trans (O.1 ▸ O.2.1) (Nat.le_of_eq g13.symm)
        have sz_b13 : h0.size ≤ b13 := Nat.le_trans K.1 (Nat.le_of_eq g13.symm)
        have ne_b12_b13 : b12 ≠ b13 := Nat.ne_of_lt (Nat.lt_of_lt_of_le E_b12.lt (Nat.le_of_eq g13.symm))
        replace Z_b12 := Safe.ext E13 C.1 Z_b12
        replace C := C.trans (CHr.ext E13 C.1)
        replace O := O.ext E13
        replace hk0 := Nat.le_trans hk0 E13.1
        replace E_b12 := E_b12.ext E13
        replace F_value_b12 := F_value_b12.ext E13
        replace F_coder_b12 := F_coder_b12.ext E13
        replace F_hash_b12 := F_hash_b12.ext E13
        replace F_hashIsZero_b12 := F_hashIsZero_b12.ext E13
        replace K := K.ext E13
        have V_b13 : Arv Z h13 b13 k13 .char (2 : Int32) [(.int (0 : Int32)), (.int (0 : Int32))] (.int (0 : Int32)) := (Arv.new A13 (by decide)).pad (pad_rep [] (.int (0 : Int32)) 2)
        refine Goes.to (T' := T13) (mkF m 48 #[.val (.int ln), .val (.int x1), .val (.int x2), .val (.int x3)] [(.ref b13), (.ref b12), (.ref b12)]) st13 ?_
        refine Goes.to (T' := T13) (mkF m 49 #[.val (.int ln), .val (.int x1), .val (.int x2), .val (.int x3)] [(.ref b13), (.ref b13), (.ref b12), (.ref b12)]) (fun t k => XS.dup X13.here hx rfl (hb hby d1_48) rfl rfl k) ?_
        refine Goes.to (T' := T13) (mkF m 50 #[.val (.int ln), .val (.int x1), .val (.int x2), .val (.int x3)] [(.int (0 : Int32)), (.ref b13), (.ref b13), (.ref b12), (.ref b12)]) (fun t k => XS.iconst X13.here hx rfl (hb hby d1_49) k) ?_
        refine Goes.to (T' := T13) (mkF m 51 #[.val (.int ln), .val (.int x1), .val (.int x2), .val (.int x3)] [(.int x1), (.int (0 : Int32)), (.ref b13), (.ref b13), (.ref b12), (.ref b12)]) (fun t k => XS.iloadN X13.here hx rfl (hb hby d1_50) rfl k) ?_
        refine Goes.to (T' := T13) (mkF m 52 #[.val (.int ln), .val (.int x1), .val (.int x2), .val (.int x3)] [(.int (x1.toUInt32.toUInt16.toUInt32.toInt32)), (.int (0 : Int32)), (.ref b13), (.ref b13), (.ref b12), (.ref b12)]) (fun t k => XS.i2c X13.here hx rfl (hb hby d1_51) rfl k) ?_
        obtain ⟨cl14, Ar14, q14, S14, M14, H14, G14⟩ := V_b13
        have hin14 : ¬ ((0 : Int32) < 0 ∨ cl14.slots.size ≤ ((0 : Int32)).toNatClampNeg) := inb_of S14 ⟨by decide, by decide⟩
        obtain ⟨T15, h15, X15, e15, W15, st15⟩ := stC X13 hx hZ e13 Ar14 (j := (0 : Int32)) hin14 (g := (mkF m 52 #[.val (.int ln), .val (.int x1), .val (.int x2), .val (.int x3)] [(.int (x1.toUInt32.toUInt16.toUInt32.toInt32)), (.int (0 : Int32)), (.ref b13), (.ref b13), (.ref b12), (.ref b12)])) rfl rfl (hb hby d1_52)
        have V_b13 : Arv Z h15 b13 k13 .char (2 : Int32) [(.int (nar .char (x1.toUInt32.toUInt16.toUInt32.toInt32))), (.int (0 : Int32))] (.int (0 : Int32)) := Arv.set Ar14 q14 S14 M14 H14 G14 (fits_nar_char _) W15 0 rfl (Nat.le_of_ble_eq_true rfl)
        replace Z_b12 := Safe.wr W15 (Safe.arr hZ.alike Ar14 (by decide)) C.1 Z_b12
        have C' := C.trans (CHr.wr W15 (Safe.arr hZ.alike Ar14 (by decide)) C.1)
        replace C := C'
        replace E_b12 := E_b12.wr W15
        replace F_value_b12 := F_value_b12.other W15 (Or.inl ne_b12_b13)
        replace F_coder_b12 := F_coder_b12.other W15 (Or.inl ne_b12_b13)
        replace F_hash_b12 := F_hash_b12.other W15 (Or.inl ne_b12_b13)
        replace F_hashIsZero_b12 := F_hashIsZero_b12.other W15 (Or.inl ne_b12_b13)
        replace O := O.wr W15 g_b13
        replace hk0 := Nat.le_trans hk0 (Nat.le_of_eq W15.size.symm)
        replace K := K.wr W15 (Or.inr sz_b13)
        have N15 := Fr.snoc X15 N0 g_b13
        refine Goes.to (T' := T15) (mkF m 53 #[.val (.int ln), .val (.int x1), .val (.int x2), .val (.int x3)] [(.ref b13), (.ref b12), (.ref b12)]) st15 ?_
        refine Goes.to (T' := T15) (mkF m 54 #[.val (.int ln), .val (.int x1), .val (.int x2), .val (.int x3)] [(.ref b13), (.ref b13), (.ref b12), (.ref b12)]) (fun t k => XS.dup X15.here hx rfl (hb hby d1_53) rfl rfl k) ?_
        refine Goes.to (T' := T15) (mkF m 55 #[.val (.int ln), .val (.int x1), .val (.int x2), .val (.int x3)] [(.int (1 : Int32)), (.ref b13), (.ref b13), (.ref b12), (.ref b12)]) (fun t k => XS.iconst X15.here hx rfl (hb hby d1_54) k) ?_
        refine Goes.to (T' := T15) (mkF m 56 #[.val (.int ln), .val (.int x1), .val (.int x2), .val (.int x3)] [(.int x2), (.int (1 : Int32)), (.ref b13), (.ref b13), (.ref b12), (.ref b12)]) (fun t k => XS.iloadN X15.here hx rfl (hb hby d1_55) rfl k) ?_
        refine Goes.to (T' := T15) (mkF m 57 #[.val (.int ln), .val (.int x1), .val (.int x2), .val (.int x3)] [(.int (x2.toUInt32.toUInt16.toUInt32.toInt32)), (.int (1 : Int32)), (.ref b13), (.ref b13), (.ref b12), (.ref b12)]) (fun t k => XS.i2c X15.here hx rfl (hb hby d1_56) rfl k) ?_
        obtain ⟨cl16, Ar16, q16, S16, M16, H16, G16⟩ := V_b13
        have hin16 : ¬ ((1 : Int32) < 0 ∨ cl16.slots.size ≤ ((1 : Int32)).toNatClampNeg) := inb_of S16 ⟨by decide, by decide⟩
        obtain ⟨T17, h17, X17, e17, W17, st17⟩ := stC X15 hx hZ e15 Ar16 (j := (1 : Int32)) hin16 (g := (mkF m 57 #[.val (.int ln), .val (.int x1), .val (.int x2), .val (.int x3)] [(.int (x2.toUInt32.toUInt16.toUInt32.toInt32)), (.int (1 : Int32)), (.ref b13), (.ref b13), (.ref b12), (.ref b12)])) rfl rfl (hb hby d1_57)
        have V_b13 : Arv Z h17 b13 k13 .char (2 : Int32) [(.int (nar .char (x1.toUInt32.toUInt16.toUInt32.toInt32))), (.int (nar .char (x2.toUInt32.toUInt16.toUInt32.toInt32)))] (.int (0 : Int32)) := Arv.set Ar16 q16 S16 M16 H16 G16 (fits_nar_char _) W17 1 rfl (Nat.le_of_ble_eq_true rfl)
        replace Z_b12 := Safe.wr W17 (Safe.arr hZ.alike Ar16 (by decide)) C.1 Z_b12
        have C' := C.trans (CHr.wr W17 (Safe.arr hZ.alike Ar16 (by decide)) C.1)
        replace C := C'
        replace E_b12 := E_b12.wr W17
        replace F_value_b12 := F_value_b12.other W17 (Or.inl ne_b12_b13)
        replace F_coder_b12 := F_coder_b12.other W17 (Or.inl ne_b12_b13)
        replace F_hash_b12 := F_hash_b12.other W17 (Or.inl ne_b12_b13)
        replace F_hashIsZero_b12 := F_hashIsZero_b12.other W17 (Or.inl ne_b12_b13)
        replace O := O.wr W17 g_b13
        replace hk0 := Nat.le_trans hk0 (Nat.le_of_eq W17.size.symm)
        replace K := K.wr W17 (Or.inr sz_b13)
        have N17 := Fr.snoc X17 N15 g_b13
        refine Goes.to (T' := T17) (mkF m 58 #[.val (.int ln), .val (.int x1), .val (.int x2), .val (.int x3)] [(.ref b13), (.ref b12), (.ref b12)]) st17 ?_
        have hp : ∀ c ∈ ([(nar .char (x1.toUInt32.toUInt16.toUInt32.toInt32)), (nar .char (x2.toUInt32.toUInt16.toUInt32.toInt32))] : List Int32), ¬ c < 0 ∧ ¬ (255 : Int32) < c := by
          intro c hc
          simp only [List.mem_cons, List.not_mem_nil, or_false] at hc
          rcases hc with rfl | rfl <;> first | exact own_n2 h1 | exact own_n2 h2 | exact own_n2 h3
        obtain ⟨_, _, ⟨T18, L18, k18, n18⟩, -, X18, ⟨Lc18, hQ18, l18, y18, z18⟩, st18⟩ := X17.specialBack hx (y := (⟨"java/lang/String", "<init>", "([C)V"⟩ : MethodName)) rfl hown (mvT hZ (hw _ (List.mem_of_getElem? (i := 8) rfl))) (mvT hZ (hw _ (List.mem_of_getElem? (i := 9) rfl))) (mvT hZ (hw _ (List.mem_of_getElem? (i := 10) rfl))) (by decide) (own_backA (W := 1) hZ (fun d hd => hw d (own_words d hd)) (kI := 4) (hw _ (List.mem_of_getElem? (i := 5) rfl)) (cs := ([(nar .char (x1.toUInt32.toUInt16.toUInt32.toInt32)), (nar .char (x2.toUInt32.toUInt16.toUInt32.toInt32))] : List Int32)) (n := 2) g_b12 E_b12 F_value_b12 F_coder_b12 V_b13 (S_CS.ext O.2) hcz rfl rfl (by decide) (by decide) hp (by decide) (by decide) F_hash_b12 F_hashIsZero_b12 (Or.inr (hw _ (List.mem_of_getElem? (i := 20) rfl))) (Or.inr (hw _ (List.mem_of_getElem? (i := 21) rfl))) (Or.inl (hw _ (List.mem_of_getElem? (i := 49) rfl))) (Or.inl (hw _ (List.mem_of_getElem? (i := 51) rfl)))) (g := (mkF m 58 #[.val (.int ln), .val (.int x1), .val (.int x2), .val (.int x3)] [(.ref b13), (.ref b12), (.ref b12)])) rfl (by rw [hml]; rfl) (Steps.refl _) (a := b12) (argsL := [(.ref b13)]) (rest := [(.ref b12)]) (lenOf pd_1 rfl) rfl (by show 2 * 0 + _ ≤ _; exact Nat.le_of_eq rfl) (hb hby d1_58) (fun _ _ => ⟨rfl, e17, (by decide : 2 + 1 ≤ _), (by decide : 6 + 2 ≤ _)⟩)
        dsimp only [Pt.U, Pt.locs, Pt.cells, Pt.slots] at X18 l18 y18 z18 st18 hQ18
        subst l18 y18 z18
        obtain ⟨rfl, N18, K18, E', G_value, G_coder, G_hash, G_hashIsZero, kt, hkt, V_tt⟩ := hQ18
        have N18' := Fr.app N17 N18
        have C' := C.trans (CHr.keep K18 (sfS Z_b12 sf0) C.1)
        have zz0 := Safe.keep K18 (sfS Z_b12 sf0) C.1 Z_b12
        replace Z_b12 := zz0
        replace C := C'
        replace E_b12 := E_b12.keep K18
        replace V_b13 := V_b13.keep K18 (ninS (Ne.symm ne_b12_b13) (nin0))
        replace O := O.keep K18 (allS g_b12 all0)
        replace hk0 := Nat.le_trans hk0 K18.1
        replace K := K.trans K18 (allS (Or.inr sz_b12) all0)
        have hcd := StrChars.Road.codOf (cs := ([(nar .char (x1.toUInt32.toUInt16.toUInt32.toInt32)), (nar .char (x2.toUInt32.toUInt16.toUInt32.toInt32))] : List Int32)) (n := 2) rfl (fun c hc => (hp c hc).2)
        rw [own_n2q h1, own_n2q h2] at hcd V_tt
        refine Goes.to (T' := T18) (mkF m 61 #[.val (.int ln), .val (.int x1), .val (.int x2), .val (.int x3)] [(.ref b12)]) (fun t k => st18.trans k) ?_
        refine Goes.retAH X18 hx Bd.notSynchronized hS0 hk0 hZ hEL C rfl Bd.returns rfl (hb hby d1_61) (by decide) (by decide) ?_
        exact ⟨N18', K, _, _, _, _, _, rfl, g_b12, sz_b12, E', G_value, G_coder, G_hash, G_hashIsZero, V_tt, by rw [own_cs, if_neg hc1_1, if_neg hc17_5, if_pos hc38_11]; exact hcd, fun _ => own_exB hkt V_tt⟩
      · refine Goes.to (T' := s₁) (mkF m 62 #[.val (.int ln), .val (.int x1), .val (.int x2), .val (.int x3)] []) (fun t k => XS.icmpYes X0.here hx rfl (pc0 := 38) (pc' := 62) rfl (hb hby d1_38) rfl (feq hc38_11).2 (by decide) (by decide) k) ?_
        obtain ⟨T19, h19, X19, e19, E19, A19, D19, -, st19⟩ := newO X0 hx hZ hown (hw _ (List.mem_of_getElem? (i := 4) rfl)) (hw _ (List.mem_of_getElem? (i := 5) rfl)) (hw _ (List.mem_of_getElem? (i := 6) rfl)) e0 (g := (mkF m 62 #[.val (.int ln), .val (.int x1), .val (.int x2), .val (.int x3)] [])) rfl (hb hby d1_62) (by decide) (by decide)
        obtain ⟨b19, g19⟩ : ∃ z, z = h0.size := ⟨_, rfl⟩
        rw [← g19] at A19 D19 st19
        have g_b19 : n0 ≤ b19 := Nat.le_trans (O.1 ▸ O.2.1) (Nat.le_of_eq g19.symm)
        have sz_b19 : h0.size ≤ b19 := Nat.le_trans K.1 (Nat.le_of_eq g19.symm)
        have C0 := C
        replace C := C.trans (CHr.ext E19 C.1)
        replace O := O.ext E19
        replace hk0 := Nat.le_trans hk0 E19.1
        replace K := K.ext E19
        have Z_b19 := Safe.ext (EL := consts_1) E19 C0.1 (Safe.new (Nat.le_of_eq g19.symm) : Safe Z consts_1 _ _ b19)
        have E_b19 : Exa Z h19 b19 "java/lang/String" := A19
        have F_value_b19 : Fld Z h19 b19 "java/lang/String" "value" "[B" .null := D19 (Or.inr (hw _ (List.mem_of_getElem? (i := 20) rfl))) (ty := (.array .byte)) (by decide)
        have F_coder_b19 : Fld Z h19 b19 "java/lang/String" "coder" "B" (.int (0 : Int32)) := D19 (Or.inr (hw _ (List.mem_of_getElem? (i := 21) rfl))) (ty := .byte) (by decide)
        have F_hash_b19 : Fld Z h19 b19 "java/lang/String" "hash" "I" (.int (0 : Int32)) := D19 (Or.inl (hw _ (List.mem_of_getElem? (i := 49) rfl))) (ty := .int) (by decide)
        have F_hashIsZero_b19 : Fld Z h19 b19 "java/lang/String" "hashIsZero" "Z" (.int (0 : Int32)) := D19 (Or.inl (hw _ (List.mem_of_getElem? (i := 51) rfl))) (ty := .boolean) (by decide)
        refine Goes.to (T' := T19) (mkF m 65 #[.val (.int ln), .val (.int x1), .val (.int x2), .val (.int x3)] [(.ref b19)]) st19 ?_
        refine Goes.to (T' := T19) (mkF m 66 #[.val (.int ln), .val (.int x1), .val (.int x2), .val (.int x3)] [(.ref b19), (.ref b19)]) (fun t k => XS.dup X19.here hx rfl (hb hby d1_65) rfl rfl k) ?_
        refine Goes.to (T' := T19) (mkF m 67 #[.val (.int ln), .val (.int x1), .val (.int x2), .val (.int x3)] [(.int (3 : Int32)), (.ref b19), (.ref b19)]) (fun t k => XS.iconst X19.here hx rfl (hb hby d1_66) k) ?_
        obtain ⟨T20, h20, k20, X20, e20, E20, A20, st20⟩ := newP X19 hx hZ (hw _ (List.mem_of_getElem? (i := 7) rfl)) e19 (g := (mkF m 67 #[.val (.int ln), .val (.int x1), .val (.int x2), .val (.int x3)] [(.int (3 : Int32)), (.ref b19), (.ref b19)])) rfl (hb hby d1_67) rfl (by decide) (cap := 3) (by decide) (by decide) (by decide) (by decide)
        obtain ⟨b20, g20⟩ : ∃ z, z = h19.size := ⟨_, rfl⟩
        rw [← g20] at A20 st20
        have g_b20 : n0 ≤ b20 := Nat.le_trans (O.1 ▸ O.2.1) (Nat.le_of_eq g20.symm)
        have sz_b20 : h0.size ≤ b20 := Nat.le_trans K.1 (Nat.le_of_eq g20.symm)
        have ne_b19_b20 : b19 ≠ b20 := Nat.ne_of_lt (Nat.lt_of_lt_of_le E_b19.lt (Nat.le_of_eq g20.symm))
        replace Z_b19 := Safe.ext E20 C.1 Z_b19
        replace C := C.trans (CHr.ext E20 C.1)
        replace O := O.ext E20
        replace hk0 := Nat.le_trans hk0 E20.1
        replace E_b19 := E_b19.ext E20
        replace F_value_b19 := F_value_b19.ext E20
        replace F_coder_b19 := F_coder_b19.ext E20
        replace F_hash_b19 := F_hash_b19.ext E20
        replace F_hashIsZero_b19 := F_hashIsZero_b19.ext E20
        replace K := K.ext E20
        have V_b20 : Arv Z h20 b20 k20 .char (3 : Int32) [(.int (0 : Int32)), (.int (0 : Int32)), (.int (0 : Int32))] (.int (0 : Int32)) := (Arv.new A20 (by decide)).pad (pad_rep [] (.int (0 : Int32)) 3)
        refine Goes.to (T' := T20) (mkF m 69 #[.val (.int ln), .val (.int x1), .val (.int x2), .val (.int x3)] [(.ref b20), (.ref b19), (.ref b19)]) st20 ?_
        refine Goes.to (T' := T20) (mkF m 70 #[.val (.int ln), .val (.int x1), .val (.int x2), .val (.int x3)] [(.ref b20), (.ref b20), (.ref b19), (.ref b19)]) (fun t k => XS.dup X20.here hx rfl (hb hby d1_69) rfl rfl k) ?_
        refine Goes.to (T' := T20) (mkF m 71 #[.val (.int ln), .val (.int x1), .val (.int x2), .val (.int x3)] [(.int (0 : Int32)), (.ref b20), (.ref b20), (.ref b19), (.ref b19)]) (fun t k => XS.iconst X20.here hx rfl (hb hby d1_70) k) ?_
        refine Goes.to (T' := T20) (mkF m 72 #[.val (.int ln), .val (.int x1), .val (.int x2), .val (.int x3)] [(.int x1), (.int (0 : Int32)), (.ref b20), (.ref b20), (.ref b19), (.ref b19)]) (fun t k => XS.iloadN X20.here hx rfl (hb hby d1_71) rfl k) ?_
        refine Goes.to (T' := T20) (mkF m 73 #[.val (.int ln), .val (.int x1), .val (.int x2), .val (.int x3)] [(.int (x1.toUInt32.toUInt16.toUInt32.toInt32)), (.int (0 : Int32)), (.ref b20), (.ref b20), (.ref b19), (.ref b19)]) (fun t k => XS.i2c X20.here hx rfl (hb hby d1_72) rfl k) ?_
        obtain ⟨cl21, Ar21, q21, S21, M21, H21, G21⟩ := V_b20
        have hin21 : ¬ ((0 : Int32) < 0 ∨ cl21.slots.size ≤ ((0 : Int32)).toNatClampNeg) := inb_of S21 ⟨by decide, by decide⟩
        obtain ⟨T22, h22, X22, e22, W22, st22⟩ := stC X20 hx hZ e20 Ar21 (j := (0 : Int32)) hin21 (g := (mkF m 73 #[.val (.int ln), .val (.int x1), .val (.int x2), .val (.int x3)] [(.int (x1.toUInt32.toUInt16.toUInt32.toInt32)), (.int (0 : Int32)), (.ref b20), (.ref b20), (.ref b19), (.ref b19)])) rfl rfl (hb hby d1_73)
        have V_b20 : Arv Z h22 b20 k20 .char (3 : Int32) [(.int (nar .char (x1.toUInt32.toUInt16.toUInt32.toInt32))), (.int (0 : Int32)), (.int (0 : Int32))] (.int (0 : Int32)) := Arv.set Ar21 q21 S21 M21 H21 G21 (fits_nar_char _) W22 0 rfl (Nat.le_of_ble_eq_true rfl)
        replace Z_b19 := Safe.wr W22 (Safe.arr hZ.alike Ar21 (by decide)) C.1 Z_b19
        have C' := C.trans (CHr.wr W22 (Safe.arr hZ.alike Ar21 (by decide)) C.1)
        replace C := C'
        replace E_b19 := E_b19.wr W22
        replace F_value_b19 := F_value_b19.other W22 (Or.inl ne_b19_b20)
        replace F_coder_b19 := F_coder_b19.other W22 (Or.inl ne_b19_b20)
        replace F_hash_b19 := F_hash_b19.other W22 (Or.inl ne_b19_b20)
        replace F_hashIsZero_b19 := F_hashIsZero_b19.other W22 (Or.inl ne_b19_b20)
        replace O := O.wr W22 g_b20
        replace hk0 := Nat.le_trans hk0 (Nat.le_of_eq W22.size.symm)
        replace K := K.wr W22 (Or.inr sz_b20)
        have N22 := Fr.snoc X22 N0 g_b20
        refine Goes.to (T' := T22) (mkF m 74 #[.val (.int ln), .val (.int x1), .val (.int x2), .val (.int x3)] [(.ref b20), (.ref b19), (.ref b19)]) st22 ?_
        refine Goes.to (T' := T22) (mkF m 75 #[.val (.int ln), .val (.int x1), .val (.int x2), .val (.int x3)] [(.ref b20), (.ref b20), (.ref b19), (.ref b19)]) (fun t k => XS.dup X22.here hx rfl (hb hby d1_74) rfl rfl k) ?_
        refine Goes.to (T' := T22) (mkF m 76 #[.val (.int ln), .val (.int x1), .val (.int x2), .val (.int x3)] [(.int (1 : Int32)), (.ref b20), (.ref b20), (.ref b19), (.ref b19)]) (fun t k => XS.iconst X22.here hx rfl (hb hby d1_75) k) ?_
        refine Goes.to (T' := T22) (mkF m 77 #[.val (.int ln), .val (.int x1), .val (.int x2), .val (.int x3)] [(.int x2), (.int (1 : Int32)), (.ref b20), (.ref b20), (.ref b19), (.ref b19)]) (fun t k => XS.iloadN X22.here hx rfl (hb hby d1_76) rfl k) ?_
        refine Goes.to (T' := T22) (mkF m 78 #[.val (.int ln), .val (.int x1), .val (.int x2), .val (.int x3)] [(.int (x2.toUInt32.toUInt16.toUInt32.toInt32)), (.int (1 : Int32)), (.ref b20), (.ref b20), (.ref b19), (.ref b19)]) (fun t k => XS.i2c X22.here hx rfl (hb hby d1_77) rfl k) ?_
        obtain ⟨cl23, Ar23, q23, S23, M23, H23, G23⟩ := V_b20
        have hin23 : ¬ ((1 : Int32) < 0 ∨ cl23.slots.size ≤ ((1 : Int32)).toNatClampNeg) := inb_of S23 ⟨by decide, by decide⟩
        obtain ⟨T24, h24, X24, e24, W24, st24⟩ := stC X22 hx hZ e22 Ar23 (j := (1 : Int32)) hin23 (g := (mkF m 78 #[.val (.int ln), .val (.int x1), .val (.int x2), .val (.int x3)] [(.int (x2.toUInt32.toUInt16.toUInt32.toInt32)), (.int (1 : Int32)), (.ref b20), (.ref b20), (.ref b19), (.ref b19)])) rfl rfl (hb hby d1_78)
        have V_b20 : Arv Z h24 b20 k20 .char (3 : Int32) [(.int (nar .char (x1.toUInt32.toUInt16.toUInt32.toInt32))), (.int (nar .char (x2.toUInt32.toUInt16.toUInt32.toInt32))), (.int (0 : Int32))] (.int (0 : Int32)) := Arv.set Ar23 q23 S23 M23 H23 G23 (fits_nar_char _) W24 1 rfl (Nat.le_of_ble_eq_true rfl)
        replace Z_b19 := Safe.wr W24 (Safe.arr hZ.alike Ar23 (by decide)) C.1 Z_b19
        have C' := C.trans (CHr.wr W24 (Safe.arr hZ.alike Ar23 (by decide)) C.1)
        replace C := C'
        replace E_b19 := E_b19.wr W24
        replace F_value_b19 := F_value_b19.other W24 (Or.inl ne_b19_b20)
        replace F_coder_b19 := F_coder_b19.other W24 (Or.inl ne_b19_b20)
        replace F_hash_b19 := F_hash_b19.other W24 (Or.inl ne_b19_b20)
        replace F_hashIsZero_b19 := F_hashIsZero_b19.other W24 (Or.inl ne_b19_b20)
        replace O := O.wr W24 g_b20
        replace hk0 := Nat.le_trans hk0 (Nat.le_of_eq W24.size.symm)
        replace K := K.wr W24 (Or.inr sz_b20)
        have N24 := Fr.snoc X24 N22 g_b20
        refine Goes.to (T' := T24) (mkF m 79 #[.val (.int ln), .val (.int x1), .val (.int x2), .val (.int x3)] [(.ref b20), (.ref b19), (.ref b19)]) st24 ?_
        refine Goes.to (T' := T24) (mkF m 80 #[.val (.int ln), .val (.int x1), .val (.int x2), .val (.int x3)] [(.ref b20), (.ref b20), (.ref b19), (.ref b19)]) (fun t k => XS.dup X24.here hx rfl (hb hby d1_79) rfl rfl k) ?_
        refine Goes.to (T' := T24) (mkF m 81 #[.val (.int ln), .val (.int x1), .val (.int x2), .val (.int x3)] [(.int (2 : Int32)), (.ref b20), (.ref b20), (.ref b19), (.ref b19)]) (fun t k => XS.iconst X24.here hx rfl (hb hby d1_80) k) ?_
        refine Goes.to (T' := T24) (mkF m 82 #[.val (.int ln), .val (.int x1), .val (.int x2), .val (.int x3)] [(.int x3), (.int (2 : Int32)), (.ref b20), (.ref b20), (.ref b19), (.ref b19)]) (fun t k => XS.iloadN X24.here hx rfl (hb hby d1_81) rfl k) ?_
        refine Goes.to (T' := T24) (mkF m 83 #[.val (.int ln), .val (.int x1), .val (.int x2), .val (.int x3)] [(.int (x3.toUInt32.toUInt16.toUInt32.toInt32)), (.int (2 : Int32)), (.ref b20), (.ref b20), (.ref b19), (.ref b19)]) (fun t k => XS.i2c X24.here hx rfl (hb hby d1_82) rfl k) ?_
        obtain ⟨cl25, Ar25, q25, S25, M25, H25, G25⟩ := V_b20
        have hin25 : ¬ ((2 : Int32) < 0 ∨ cl25.slots.size ≤ ((2 : Int32)).toNatClampNeg) := inb_of S25 ⟨by decide, by decide⟩
        obtain ⟨T26, h26, X26, e26, W26, st26⟩ := stC X24 hx hZ e24 Ar25 (j := (2 : Int32)) hin25 (g := (mkF m 83 #[.val (.int ln), .val (.int x1), .val (.int x2), .val (.int x3)] [(.int (x3.toUInt32.toUInt16.toUInt32.toInt32)), (.int (2 : Int32)), (.ref b20), (.ref b20), (.ref b19), (.ref b19)])) rfl rfl (hb hby d1_83)
        have V_b20 : Arv Z h26 b20 k20 .char (3 : Int32) [(.int (nar .char (x1.toUInt32.toUInt16.toUInt32.toInt32))), (.int (nar .char (x2.toUInt32.toUInt16.toUInt32.toInt32))), (.int (nar .char (x3.toUInt32.toUInt16.toUInt32.toInt32)))] (.int (0 : Int32)) := Arv.set Ar25 q25 S25 M25 H25 G25 (fits_nar_char _) W26 2 rfl (Nat.le_of_ble_eq_true rfl)
        replace Z_b19 := Safe.wr W26 (Safe.arr hZ.alike Ar25 (by decide)) C.1 Z_b19
        have C' := C.trans (CHr.wr W26 (Safe.arr hZ.alike Ar25 (by decide)) C.1)
        replace C := C'
        replace E_b19 := E_b19.wr W26
        replace F_value_b19 := F_value_b19.other W26 (Or.inl ne_b19_b20)
        replace F_coder_b19 := F_coder_b19.other W26 (Or.inl ne_b19_b20)
        replace F_hash_b19 := F_hash_b19.other W26 (Or.inl ne_b19_b20)
        replace F_hashIsZero_b19 := F_hashIsZero_b19.other W26 (Or.inl ne_b19_b20)
        replace O := O.wr W26 g_b20
        replace hk0 := Nat.le_trans hk0 (Nat.le_of_eq W26.size.symm)
        replace K := K.wr W26 (Or.inr sz_b20)
        have N26 := Fr.snoc X26 N24 g_b20
        refine Goes.to (T' := T26) (mkF m 84 #[.val (.int ln), .val (.int x1), .val (.int x2), .val (.int x3)] [(.ref b20), (.ref b19), (.ref b19)]) st26 ?_
        have hp : ∀ c ∈ ([(nar .char (x1.toUInt32.toUInt16.toUInt32.toInt32)), (nar .char (x2.toUInt32.toUInt16.toUInt32.toInt32)), (nar .char (x3.toUInt32.toUInt16.toUInt32.toInt32))] : List Int32), ¬ c < 0 ∧ ¬ (255 : Int32) < c := by
          intro c hc
          simp only [List.mem_cons, List.not_mem_nil, or_false] at hc
          rcases hc with rfl | rfl | rfl <;> first | exact own_n2 h1 | exact own_n2 h2 | exact own_n2 h3
        obtain ⟨_, _, ⟨T27, L27, k27, n27⟩, -, X27, ⟨Lc27, hQ27, l27, y27, z27⟩, st27⟩ := X26.specialBack hx (y := (⟨"java/lang/String", "<init>", "([C)V"⟩ : MethodName)) rfl hown (mvT hZ (hw _ (List.mem_of_getElem? (i := 8) rfl))) (mvT hZ (hw _ (List.mem_of_getElem? (i := 9) rfl))) (mvT hZ (hw _ (List.mem_of_getElem? (i := 10) rfl))) (by decide) (own_backA (W := 1) hZ (fun d hd => hw d (own_words d hd)) (kI := 4) (hw _ (List.mem_of_getElem? (i := 5) rfl)) (cs := ([(nar .char (x1.toUInt32.toUInt16.toUInt32.toInt32)), (nar .char (x2.toUInt32.toUInt16.toUInt32.toInt32)), (nar .char (x3.toUInt32.toUInt16.toUInt32.toInt32))] : List Int32)) (n := 3) g_b19 E_b19 F_value_b19 F_coder_b19 V_b20 (S_CS.ext O.2) hcz rfl rfl (by decide) (by decide) hp (by decide) (by decide) F_hash_b19 F_hashIsZero_b19 (Or.inr (hw _ (List.mem_of_getElem? (i := 20) rfl))) (Or.inr (hw _ (List.mem_of_getElem? (i := 21) rfl))) (Or.inl (hw _ (List.mem_of_getElem? (i := 49) rfl))) (Or.inl (hw _ (List.mem_of_getElem? (i := 51) rfl)))) (g := (mkF m 84 #[.val (.int ln), .val (.int x1), .val (.int x2), .val (.int x3)] [(.ref b20), (.ref b19), (.ref b19)])) rfl (by rw [hml]; rfl) (Steps.refl _) (a := b19) (argsL := [(.ref b20)]) (rest := [(.ref b19)]) (lenOf pd_1 rfl) rfl (by show 2 * 0 + _ ≤ _; exact Nat.le_of_eq rfl) (hb hby d1_84) (fun _ _ => ⟨rfl, e26, (by decide : 2 + 1 ≤ _), (by decide : 7 + 3 ≤ _)⟩)
        dsimp only [Pt.U, Pt.locs, Pt.cells, Pt.slots] at X27 l27 y27 z27 st27 hQ27
        subst l27 y27 z27
        obtain ⟨rfl, N27, K27, E', G_value, G_coder, G_hash, G_hashIsZero, kt, hkt, V_tt⟩ := hQ27
        have N27' := Fr.app N26 N27
        have C' := C.trans (CHr.keep K27 (sfS Z_b19 sf0) C.1)
        have zz0 := Safe.keep K27 (sfS Z_b19 sf0) C.1 Z_b19
        replace Z_b19 := zz0
        replace C := C'
        replace E_b19 := E_b19.keep K27
        replace V_b20 := V_b20.keep K27 (ninS (Ne.symm ne_b19_b20) (nin0))
        replace O := O.keep K27 (allS g_b19 all0)
        replace hk0 := Nat.le_trans hk0 K27.1
        replace K := K.trans K27 (allS (Or.inr sz_b19) all0)
        have hcd := StrChars.Road.codOf (cs := ([(nar .char (x1.toUInt32.toUInt16.toUInt32.toInt32)), (nar .char (x2.toUInt32.toUInt16.toUInt32.toInt32)), (nar .char (x3.toUInt32.toUInt16.toUInt32.toInt32))] : List Int32)) (n := 3) rfl (fun c hc => (hp c hc).2)
        rw [own_n2q h1, own_n2q h2, own_n2q h3] at hcd V_tt
        refine Goes.to (T' := T27) (mkF m 87 #[.val (.int ln), .val (.int x1), .val (.int x2), .val (.int x3)] [(.ref b19)]) (fun t k => st27.trans k) ?_
        refine Goes.retAH X27 hx Bd.notSynchronized hS0 hk0 hZ hEL C rfl Bd.returns rfl (hb hby d1_87) (by decide) (by decide) ?_
        exact ⟨N27', K, _, _, _, _, _, rfl, g_b19, sz_b19, E', G_value, G_coder, G_hash, G_hashIsZero, V_tt, by rw [own_cs, if_neg hc1_1, if_neg hc17_5, if_neg hc38_11]; exact hcd, fun _ => own_exB hkt V_tt⟩
theorem pn_jdk_internal_util_ArraysSupport : plainName "jdk/internal/util/ArraysSupport" = true := by first | (simp [plainName, overriddenIn]; done) | decide +kernel
theorem ef_rm_sh2 (m : MethodId) (x0 : Int32) (x1 : Addr) (x2 : Int32) (x3 : Int32) : entryFrame m #[(.int x0), (.ref x1), (.int x2), (.int x3)] 6 = mkF m 0 #[.val (.int x0), .val (.ref x1), .val (.int x2), .val (.int x3), .unset, .unset] [] := by first | (simp [entryFrame, mkF, argsToLocals, Value.category]; done) | rfl
def Q_rm_sh2 (Z : State) (tt : Addr) (kt : ClassId) (y1 y2 : Int32) (h0 : Heap) (n0 : Nat) (v : Option Value) (h : Heap) (L : List Loc) : Prop := (∃ r : Int32, v = some (.int r)) ∧ Fr n0 L ∧ h = h0
theorem d16_0 : decode jdk_48_method_5_code 0 = .ok (.iload_n 2, 1) := by decide +kernel
theorem d16_1 : decode jdk_48_method_5_code 1 = .ok (.iload_n 3, 1) := by decide +kernel
theorem d16_2 : decode jdk_48_method_5_code 2 = .ok (.iadd, 1) := by decide +kernel
theorem d16_3 : decode jdk_48_method_5_code 3 = .ok (.istore 4, 2) := by decide +kernel
theorem d16_5 : decode jdk_48_method_5_code 5 = .ok (.iload_n 2, 1) := by decide +kernel
theorem d16_6 : decode jdk_48_method_5_code 6 = .ok (.istore 5, 2) := by decide +kernel
theorem d16_8 : decode jdk_48_method_5_code 8 = .ok (.iload 5, 2) := by decide +kernel
theorem d16_10 : decode jdk_48_method_5_code 10 = .ok (.iload 4, 2) := by decide +kernel
theorem d16_12 : decode jdk_48_method_5_code 12 = .ok (.if_icmp .ge 23, 3) := by decide +kernel
theorem d16_15 : decode jdk_48_method_5_code 15 = .ok (.bipush 31, 2) := by decide +kernel
theorem d16_17 : decode jdk_48_method_5_code 17 = .ok (.iload_n 0, 1) := by decide +kernel
theorem d16_18 : decode jdk_48_method_5_code 18 = .ok (.imul, 1) := by decide +kernel
theorem d16_19 : decode jdk_48_method_5_code 19 = .ok (.aload_n 1, 1) := by decide +kernel
theorem d16_20 : decode jdk_48_method_5_code 20 = .ok (.iload 5, 2) := by decide +kernel
theorem d16_22 : decode jdk_48_method_5_code 22 = .ok (.baload, 1) := by decide +kernel
theorem d16_23 : decode jdk_48_method_5_code 23 = .ok (.sipush 255, 3) := by decide +kernel
theorem d16_26 : decode jdk_48_method_5_code 26 = .ok (.iand, 1) := by decide +kernel
theorem d16_27 : decode jdk_48_method_5_code 27 = .ok (.iadd, 1) := by decide +kernel
theorem d16_28 : decode jdk_48_method_5_code 28 = .ok (.istore_n 0, 1) := by decide +kernel
theorem d16_29 : decode jdk_48_method_5_code 29 = .ok (.iinc 5 1, 3) := by decide +kernel
theorem d16_32 : decode jdk_48_method_5_code 32 = .ok (.goto (-24), 3) := by decide +kernel
theorem d16_35 : decode jdk_48_method_5_code 35 = .ok (.iload_n 0, 1) := by decide +kernel
theorem d16_36 : decode jdk_48_method_5_code 36 = .ok (.ireturn, 1) := by decide +kernel
set_option maxRecDepth 65536 in
set_option maxHeartbeats 40000000 in
theorem rm_sh2 (l : Launch) (Z : State) (a0 : Array Value) (hw : ∀ d ∈ tables_1, d.before a0 Z = true) (ws : List Jvm.Cond) (tt : Addr) (kt : ClassId) (y1 y2 : Int32) (h0 : Heap) (n0 : Nat) (O : Old Z n0 h0) (V_tt : Arv Z h0 tt kt .byte (2 : Int32) [(.int (StrChars.lo8 y1)), (.int (StrChars.lo8 y2))] (.int 0)) :
    MetFree l (⟨"jdk/internal/util/ArraysSupport", "signedHashCode", "(I[BII)I"⟩ : MethodName) (head1 (Jvm.Cond.code (⟨"jdk/internal/util/ArraysSupport", "signedHashCode", "(I[BII)I"⟩ : MethodName) jdk_48_method_5_code 6 (some .int) :: ws) ({ frames := 0, cells := 0, slots := 0, locals := 0 } : Room)) (fun aa U => aa = #[(.int (0 : Int32)), (.ref tt), (.int (0 : Int32)), (.int (2 : Int32))] ∧ Z.Warmed39 U.vm ∧ U.heap = h0) (fun _ _ _ _ _ => True) (fun _ U o U' => ∃ v L, o = .returned v ∧ Q_rm_sh2 Z tt kt y1 y2 h0 n0 v U'.heap L ∧ FrameEnd U o U' L ({ frames := 0, cells := 0, slots := 0, locals := 0 } : Room).cells ({ frames := 0, cells := 0, slots := 0, locals := 0 } : Room).slots) := by
  refine MetFree.of_bodySF (plainFor_of_name pn_jdk_internal_util_ArraysSupport) hisR ?_
  intro p e s m args below meth c s₁ Bd hml0 hP hK
  obtain ⟨rfl, hZ, hh⟩ := hP
  have hx := Bd.exec
  have hby := Bd.bytes
  have hml : c.maxLocals = 6 := hml0
  have hown : s.vm.findClass "jdk/internal/util/ArraysSupport" = some m.cls := findClass_of_methodNamed Bd.named
  have hnm := (name_of_methodNamed Bd.named Bd.method).1
  have X0 : Stand p l e ({ frames := 0, cells := 0, slots := 0, locals := 0 } : Room) s m #[(.int (0 : Int32)), (.ref tt), (.int (0 : Int32)), (.int (2 : Int32))] below meth c s₁ [] 0 0 := Stand.of_body Bd
  have e0 : s₁.heap = h0 := by rw [← hh, Bd.state]; rfl
  have N0 := Fr.nil n0
  show Goes p e below s FrameEnd ({ frames := 0, cells := 0, slots := 0, locals := 0 } : Room).cells ({ frames := 0, cells := 0, slots := 0, locals := 0 } : Room).slots (Q_rm_sh2 Z tt kt y1 y2 h0 n0) s₁ (entryFrame m #[(.int (0 : Int32)), (.ref tt), (.int (0 : Int32)), (.int (2 : Int32))] 6)
  refine Goes.cast (ef_rm_sh2 m (0 : Int32) tt (0 : Int32) (2 : Int32)) ?_
  refine Goes.to (T' := s₁) (mkF m 1 #[.val (.int (0 : Int32)), .val (.ref tt), .val (.int (0 : Int32)), .val (.int (2 : Int32)), .unset, .unset] [(.int (0 : Int32))]) (fun t k => XS.iloadN X0.here hx rfl (hb hby d16_0) rfl k) ?_
  refine Goes.to (T' := s₁) (mkF m 2 #[.val (.int (0 : Int32)), .val (.ref tt), .val (.int (0 : Int32)), .val (.int (2 : Int32)), .unset, .unset] [(.int (2 : Int32)), (.int (0 : Int32))]) (fun t k => XS.iloadN X0.here hx rfl (hb hby d16_1) rfl k) ?_
  refine Goes.to (T' := s₁) (mkF m 3 #[.val (.int (0 : Int32)), .val (.ref tt), .val (.int (0 : Int32)), .val (.int (2 : Int32)), .unset, .unset] [(.int ((0 : Int32) + (2 : Int32)))]) (fun t k => XS.iadd X0.here hx rfl (hb hby d16_2) rfl k) ?_
  refine Goes.to (T' := s₁) (mkF m 5 #[.val (.int (0 : Int32)), .val (.ref tt), .val (.int (0 : Int32)), .val (.int (2 : Int32)), .val (.int ((0 : Int32) + (2 : Int32))), .unset] []) (fun t k => XS.istore X0.here hx rfl (hb hby d16_3) rfl (l' := #[.val (.int (0 : Int32)), .val (.ref tt), .val (.int (0 : Int32)), .val (.int (2 : Int32)), .val (.int ((0 : Int32) + (2 : Int32))), .unset]) rfl k) ?_
  refine Goes.to (T' := s₁) (mkF m 6 #[.val (.int (0 : Int32)), .val (.ref tt), .val (.int (0 : Int32)), .val (.int (2 : Int32)), .val (.int ((0 : Int32) + (2 : Int32))), .unset] [(.int (0 : Int32))]) (fun t k => XS.iloadN X0.here hx rfl (hb hby d16_5) rfl k) ?_
  refine Goes.to (T' := s₁) (mkF m 8 #[.val (.int (0 : Int32)), .val (.ref tt), .val (.int (0 : Int32)), .val (.int (2 : Int32)), .val (.int ((0 : Int32) + (2 : Int32))), .val (.int (0 : Int32))] []) (fun t k => XS.istore X0.here hx rfl (hb hby d16_6) rfl (l' := #[.val (.int (0 : Int32)), .val (.ref tt), .val (.int (0 : Int32)), .val (.int (2 : Int32)), .val (.int ((0 : Int32) + (2 : Int32))), .val (.int (0 : Int32))]) rfl k) ?_
  refine Goes.to (T' := s₁) (mkF m 10 #[.val (.int (0 : Int32)), .val (.ref tt), .val (.int (0 : Int32)), .val (.int (2 : Int32)), .val (.int ((0 : Int32) + (2 : Int32))), .val (.int (0 : Int32))] [(.int (0 : Int32))]) (fun t k => XS.iload X0.here hx rfl (hb hby d16_8) rfl k) ?_
  refine Goes.to (T' := s₁) (mkF m 12 #[.val (.int (0 : Int32)), .val (.ref tt), .val (.int (0 : Int32)), .val (.int (2 : Int32)), .val (.int ((0 : Int32) + (2 : Int32))), .val (.int (0 : Int32))] [(.int ((0 : Int32) + (2 : Int32))), (.int (0 : Int32))]) (fun t k => XS.iload X0.here hx rfl (hb hby d16_10) rfl k) ?_
  refine Goes.to (T' := s₁) (mkF m 15 #[.val (.int (0 : Int32)), .val (.ref tt), .val (.int (0 : Int32)), .val (.int (2 : Int32)), .val (.int ((0 : Int32) + (2 : Int32))), .val (.int (0 : Int32))] []) (fun t k => XS.icmpNo X0.here hx rfl (hb hby d16_12) rfl (tlt (by decide : (0 : Int32) < ((0 : Int32) + (2 : Int32)))).2.1 k) ?_
  refine Goes.to (T' := s₁) (mkF m 17 #[.val (.int (0 : Int32)), .val (.ref tt), .val (.int (0 : Int32)), .val (.int (2 : Int32)), .val (.int ((0 : Int32) + (2 : Int32))), .val (.int (0 : Int32))] [(.int (31 : Int32))]) (fun t k => XS.bipush X0.here hx rfl (hb hby d16_15) k) ?_
  refine Goes.to (T' := s₁) (mkF m 18 #[.val (.int (0 : Int32)), .val (.ref tt), .val (.int (0 : Int32)), .val (.int (2 : Int32)), .val (.int ((0 : Int32) + (2 : Int32))), .val (.int (0 : Int32))] [(.int (0 : Int32)), (.int (31 : Int32))]) (fun t k => XS.iloadN X0.here hx rfl (hb hby d16_17) rfl k) ?_
  refine Goes.to (T' := s₁) (mkF m 19 #[.val (.int (0 : Int32)), .val (.ref tt), .val (.int (0 : Int32)), .val (.int (2 : Int32)), .val (.int ((0 : Int32) + (2 : Int32))), .val (.int (0 : Int32))] [(.int ((31 : Int32) * (0 : Int32)))]) (fun t k => XS.imul X0.here hx rfl (hb hby d16_18) rfl k) ?_
  refine Goes.to (T' := s₁) (mkF m 20 #[.val (.int (0 : Int32)), .val (.ref tt), .val (.int (0 : Int32)), .val (.int (2 : Int32)), .val (.int ((0 : Int32) + (2 : Int32))), .val (.int (0 : Int32))] [(.ref tt), (.int ((31 : Int32) * (0 : Int32)))]) (fun t k => XS.aloadN X0.here hx rfl (hb hby d16_19) rfl rfl k) ?_
  refine Goes.to (T' := s₁) (mkF m 22 #[.val (.int (0 : Int32)), .val (.ref tt), .val (.int (0 : Int32)), .val (.int (2 : Int32)), .val (.int ((0 : Int32) + (2 : Int32))), .val (.int (0 : Int32))] [(.int (0 : Int32)), (.ref tt), (.int ((31 : Int32) * (0 : Int32)))]) (fun t k => XS.iload X0.here hx rfl (hb hby d16_20) rfl k) ?_
  have V'_tt := V_tt
  obtain ⟨cl1, Ar1, -, S1, M1, H1, -⟩ := V'_tt
  have hin1 : ¬ ((0 : Int32) < 0 ∨ cl1.slots.size ≤ ((0 : Int32)).toNatClampNeg) := inb_of S1 ⟨by decide, by decide⟩
  have hat1 : cl1.slots[((0 : Int32)).toNatClampNeg]? = some (.int (StrChars.lo8 y1)) := H1.at hin1 rfl
  refine Goes.to (T' := s₁) (mkF m 23 #[.val (.int (0 : Int32)), .val (.ref tt), .val (.int (0 : Int32)), .val (.int (2 : Int32)), .val (.int ((0 : Int32) + (2 : Int32))), .val (.int (0 : Int32))] [(.int (StrChars.lo8 y1)), (.int ((31 : Int32) * (0 : Int32)))]) (fun t k => X0.baloadBytes hx (j := (0 : Int32)) (v := (.int (StrChars.lo8 y1))) (by rw [e0]; exact Ar1.1) (State.isArrayOf_alike hZ.alike Ar1.2.1) Ar1.2.2 hin1 hat1 (g := (mkF m 22 #[.val (.int (0 : Int32)), .val (.ref tt), .val (.int (0 : Int32)), .val (.int (2 : Int32)), .val (.int ((0 : Int32) + (2 : Int32))), .val (.int (0 : Int32))] [(.int (0 : Int32)), (.ref tt), (.int ((31 : Int32) * (0 : Int32)))])) rfl rfl (hb hby d16_22) _ k) ?_
  refine Goes.to (T' := s₁) (mkF m 26 #[.val (.int (0 : Int32)), .val (.ref tt), .val (.int (0 : Int32)), .val (.int (2 : Int32)), .val (.int ((0 : Int32) + (2 : Int32))), .val (.int (0 : Int32))] [(.int (255 : Int32)), (.int (StrChars.lo8 y1)), (.int ((31 : Int32) * (0 : Int32)))]) (fun t k => XS.sipush X0.here hx rfl (hb hby d16_23) k) ?_
  refine Goes.to (T' := s₁) (mkF m 27 #[.val (.int (0 : Int32)), .val (.ref tt), .val (.int (0 : Int32)), .val (.int (2 : Int32)), .val (.int ((0 : Int32) + (2 : Int32))), .val (.int (0 : Int32))] [(.int ((StrChars.lo8 y1) &&& (255 : Int32))), (.int ((31 : Int32) * (0 : Int32)))]) (fun t k => XS.iand X0.here hx rfl (hb hby d16_26) rfl k) ?_
  refine Goes.to (T' := s₁) (mkF m 28 #[.val (.int (0 : Int32)), .val (.ref tt), .val (.int (0 : Int32)), .val (.int (2 : Int32)), .val (.int ((0 : Int32) + (2 : Int32))), .val (.int (0 : Int32))] [(.int (((31 : Int32) * (0 : Int32)) + ((StrChars.lo8 y1) &&& (255 : Int32))))]) (fun t k => XS.iadd X0.here hx rfl (hb hby d16_27) rfl k) ?_
  refine Goes.to (T' := s₁) (mkF m 29 #[.val (.int (((31 : Int32) * (0 : Int32)) + ((StrChars.lo8 y1) &&& (255 : Int32)))), .val (.ref tt), .val (.int (0 : Int32)), .val (.int (2 : Int32)), .val (.int ((0 : Int32) + (2 : Int32))), .val (.int (0 : Int32))] []) (fun t k => XS.istoreN X0.here hx rfl (hb hby d16_28) rfl (l' := #[.val (.int (((31 : Int32) * (0 : Int32)) + ((StrChars.lo8 y1) &&& (255 : Int32)))), .val (.ref tt), .val (.int (0 : Int32)), .val (.int (2 : Int32)), .val (.int ((0 : Int32) + (2 : Int32))), .val (.int (0 : Int32))]) rfl k) ?_
  refine Goes.to (T' := s₁) (mkF m 32 #[.val (.int (((31 : Int32) * (0 : Int32)) + ((StrChars.lo8 y1) &&& (255 : Int32)))), .val (.ref tt), .val (.int (0 : Int32)), .val (.int (2 : Int32)), .val (.int ((0 : Int32) + (2 : Int32))), .val (.int (1 : Int32))] []) (fun t k => XS.iinc X0.here hx rfl (hb hby d16_29) rfl (l' := #[.val (.int (((31 : Int32) * (0 : Int32)) + ((StrChars.lo8 y1) &&& (255 : Int32)))), .val (.ref tt), .val (.int (0 : Int32)), .val (.int (2 : Int32)), .val (.int ((0 : Int32) + (2 : Int32))), .val (.int (1 : Int32))]) rfl k) ?_
  refine Goes.to (T' := s₁) (mkF m 8 #[.val (.int (((31 : Int32) * (0 : Int32)) + ((StrChars.lo8 y1) &&& (255 : Int32)))), .val (.ref tt), .val (.int (0 : Int32)), .val (.int (2 : Int32)), .val (.int ((0 : Int32) + (2 : Int32))), .val (.int (1 : Int32))] []) (fun t k => XS.goto X0.here hx rfl (pc0 := 32) (pc' := 8) rfl (hb hby d16_32) (by decide) (by decide) k) ?_
  refine Goes.to (T' := s₁) (mkF m 10 #[.val (.int (((31 : Int32) * (0 : Int32)) + ((StrChars.lo8 y1) &&& (255 : Int32)))), .val (.ref tt), .val (.int (0 : Int32)), .val (.int (2 : Int32)), .val (.int ((0 : Int32) + (2 : Int32))), .val (.int (1 : Int32))] [(.int (1 : Int32))]) (fun t k => XS.iload X0.here hx rfl (hb hby d16_8) rfl k) ?_
  refine Goes.to (T' := s₁) (mkF m 12 #[.val (.int (((31 : Int32) * (0 : Int32)) + ((StrChars.lo8 y1) &&& (255 : Int32)))), .val (.ref tt), .val (.int (0 : Int32)), .val (.int (2 : Int32)), .val (.int ((0 : Int32) + (2 : Int32))), .val (.int (1 : Int32))] [(.int ((0 : Int32) + (2 : Int32))), (.int (1 : Int32))]) (fun t k => XS.iload X0.here hx rfl (hb hby d16_10) rfl k) ?_
  refine Goes.to (T' := s₁) (mkF m 15 #[.val (.int (((31 : Int32) * (0 : Int32)) + ((StrChars.lo8 y1) &&& (255 : Int32)))), .val (.ref tt), .val (.int (0 : Int32)), .val (.int (2 : Int32)), .val (.int ((0 : Int32) + (2 : Int32))), .val (.int (1 : Int32))] []) (fun t k => XS.icmpNo X0.here hx rfl (hb hby d16_12) rfl (tlt (by decide : (1 : Int32) < ((0 : Int32) + (2 : Int32)))).2.1 k) ?_
  refine Goes.to (T' := s₁) (mkF m 17 #[.val (.int (((31 : Int32) * (0 : Int32)) + ((StrChars.lo8 y1) &&& (255 : Int32)))), .val (.ref tt), .val (.int (0 : Int32)), .val (.int (2 : Int32)), .val (.int ((0 : Int32) + (2 : Int32))), .val (.int (1 : Int32))] [(.int (31 : Int32))]) (fun t k => XS.bipush X0.here hx rfl (hb hby d16_15) k) ?_
  refine Goes.to (T' := s₁) (mkF m 18 #[.val (.int (((31 : Int32) * (0 : Int32)) + ((StrChars.lo8 y1) &&& (255 : Int32)))), .val (.ref tt), .val (.int (0 : Int32)), .val (.int (2 : Int32)), .val (.int ((0 : Int32) + (2 : Int32))), .val (.int (1 : Int32))] [(.int (((31 : Int32) * (0 : Int32)) + ((StrChars.lo8 y1) &&& (255 : Int32)))), (.int (31 : Int32))]) (fun t k => XS.iloadN X0.here hx rfl (hb hby d16_17) rfl k) ?_
  refine Goes.to (T' := s₁) (mkF m 19 #[.val (.int (((31 : Int32) * (0 : Int32)) + ((StrChars.lo8 y1) &&& (255 : Int32)))), .val (.ref tt), .val (.int (0 : Int32)), .val (.int (2 : Int32)), .val (.int ((0 : Int32) + (2 : Int32))), .val (.int (1 : Int32))] [(.int ((31 : Int32) * (((31 : Int32) * (0 : Int32)) + ((StrChars.lo8 y1) &&& (255 : Int32)))))]) (fun t k => XS.imul X0.here hx rfl (hb hby d16_18) rfl k) ?_
  refine Goes.to (T' := s₁) (mkF m 20 #[.val (.int (((31 : Int32) * (0 : Int32)) + ((StrChars.lo8 y1) &&& (255 : Int32)))), .val (.ref tt), .val (.int (0 : Int32)), .val (.int (2 : Int32)), .val (.int ((0 : Int32) + (2 : Int32))), .val (.int (1 : Int32))] [(.ref tt), (.int ((31 : Int32) * (((31 : Int32) * (0 : Int32)) + ((StrChars.lo8 y1) &&& (255 : Int32)))))]) (fun t k => XS.aloadN X0.here hx rfl (hb hby d16_19) rfl rfl k) ?_
  refine Goes.to (T' := s₁) (mkF m 22 #[.val (.int (((31 : Int32) * (0 : Int32)) + ((StrChars.lo8 y1) &&& (255 : Int32)))), .val (.ref tt), .val (.int (0 : Int32)), .val (.int (2 : Int32)), .val (.int ((0 : Int32) + (2 : Int32))), .val (.int (1 : Int32))] [(.int (1 : Int32)), (.ref tt), (.int ((31 : Int32) * (((31 : Int32) * (0 : Int32)) + ((StrChars.lo8 y1) &&& (255 : Int32)))))]) (fun t k => XS.iload X0.here hx rfl (hb hby d16_20) rfl k) ?_
  have V'_tt := V_tt
  obtain ⟨cl2, Ar2, -, S2, M2, H2, -⟩ := V'_tt
  have hin2 : ¬ ((1 : Int32) < 0 ∨ cl2.slots.size ≤ ((1 : Int32)).toNatClampNeg) := inb_of S2 ⟨by decide, by decide⟩
  have hat2 : cl2.slots[((1 : Int32)).toNatClampNeg]? = some (.int (StrChars.lo8 y2)) := H2.at hin2 rfl
  refine Goes.to (T' := s₁) (mkF m 23 #[.val (.int (((31 : Int32) * (0 : Int32)) + ((StrChars.lo8 y1) &&& (255 : Int32)))), .val (.ref tt), .val (.int (0 : Int32)), .val (.int (2 : Int32)), .val (.int ((0 : Int32) + (2 : Int32))), .val (.int (1 : Int32))] [(.int (StrChars.lo8 y2)), (.int ((31 : Int32) * (((31 : Int32) * (0 : Int32)) + ((StrChars.lo8 y1) &&& (255 : Int32)))))]) (fun t k => X0.baloadBytes hx (j := (1 : Int32)) (v := (.int (StrChars.lo8 y2))) (by rw [e0]; exact Ar2.1) (State.isArrayOf_alike hZ.alike Ar2.2.1) Ar2.2.2 hin2 hat2 (g := (mkF m 22 #[.val (.int (((31 : Int32) * (0 : Int32)) + ((StrChars.lo8 y1) &&& (255 : Int32)))), .val (.ref tt), .val (.int (0 : Int32)), .val (.int (2 : Int32)), .val (.int ((0 : Int32) + (2 : Int32))), .val (.int (1 : Int32))] [(.int (1 : Int32)), (.ref tt), (.int ((31 : Int32) * (((31 : Int32) * (0 : Int32)) + ((StrChars.lo8 y1) &&& (255 : Int32)))))])) rfl rfl (hb hby d16_22) _ k) ?_
  refine Goes.to (T' := s₁) (mkF m 26 #[.val (.int (((31 : Int32) * (0 : Int32)) + ((StrChars.lo8 y1) &&& (255 : Int32)))), .val (.ref tt), .val (.int (0 : Int32)), .val (.int (2 : Int32)), .val (.int ((0 : Int32) + (2 : Int32))), .val (.int (1 : Int32))] [(.int (255 : Int32)), (.int (StrChars.lo8 y2)), (.int ((31 : Int32) * (((31 : Int32) * (0 : Int32)) + ((StrChars.lo8 y1) &&& (255 : Int32)))))]) (fun t k => XS.sipush X0.here hx rfl (hb hby d16_23) k) ?_
  refine Goes.to (T' := s₁) (mkF m 27 #[.val (.int (((31 : Int32) * (0 : Int32)) + ((StrChars.lo8 y1) &&& (255 : Int32)))), .val (.ref tt), .val (.int (0 : Int32)), .val (.int (2 : Int32)), .val (.int ((0 : Int32) + (2 : Int32))), .val (.int (1 : Int32))] [(.int ((StrChars.lo8 y2) &&& (255 : Int32))), (.int ((31 : Int32) * (((31 : Int32) * (0 : Int32)) + ((StrChars.lo8 y1) &&& (255 : Int32)))))]) (fun t k => XS.iand X0.here hx rfl (hb hby d16_26) rfl k) ?_
  refine Goes.to (T' := s₁) (mkF m 28 #[.val (.int (((31 : Int32) * (0 : Int32)) + ((StrChars.lo8 y1) &&& (255 : Int32)))), .val (.ref tt), .val (.int (0 : Int32)), .val (.int (2 : Int32)), .val (.int ((0 : Int32) + (2 : Int32))), .val (.int (1 : Int32))] [(.int (((31 : Int32) * (((31 : Int32) * (0 : Int32)) + ((StrChars.lo8 y1) &&& (255 : Int32)))) + ((StrChars.lo8 y2) &&& (255 : Int32))))]) (fun t k => XS.iadd X0.here hx rfl (hb hby d16_27) rfl k) ?_
  refine Goes.to (T' := s₁) (mkF m 29 #[.val (.int (((31 : Int32) * (((31 : Int32) * (0 : Int32)) + ((StrChars.lo8 y1) &&& (255 : Int32)))) + ((StrChars.lo8 y2) &&& (255 : Int32)))), .val (.ref tt), .val (.int (0 : Int32)), .val (.int (2 : Int32)), .val (.int ((0 : Int32) + (2 : Int32))), .val (.int (1 : Int32))] []) (fun t k => XS.istoreN X0.here hx rfl (hb hby d16_28) rfl (l' := #[.val (.int (((31 : Int32) * (((31 : Int32) * (0 : Int32)) + ((StrChars.lo8 y1) &&& (255 : Int32)))) + ((StrChars.lo8 y2) &&& (255 : Int32)))), .val (.ref tt), .val (.int (0 : Int32)), .val (.int (2 : Int32)), .val (.int ((0 : Int32) + (2 : Int32))), .val (.int (1 : Int32))]) rfl k) ?_
  refine Goes.to (T' := s₁) (mkF m 32 #[.val (.int (((31 : Int32) * (((31 : Int32) * (0 : Int32)) + ((StrChars.lo8 y1) &&& (255 : Int32)))) + ((StrChars.lo8 y2) &&& (255 : Int32)))), .val (.ref tt), .val (.int (0 : Int32)), .val (.int (2 : Int32)), .val (.int ((0 : Int32) + (2 : Int32))), .val (.int (2 : Int32))] []) (fun t k => XS.iinc X0.here hx rfl (hb hby d16_29) rfl (l' := #[.val (.int (((31 : Int32) * (((31 : Int32) * (0 : Int32)) + ((StrChars.lo8 y1) &&& (255 : Int32)))) + ((StrChars.lo8 y2) &&& (255 : Int32)))), .val (.ref tt), .val (.int (0 : Int32)), .val (.int (2 : Int32)), .val (.int ((0 : Int32) + (2 : Int32))), .val (.int (2 : Int32))]) rfl k) ?_
  refine Goes.to (T' := s₁) (mkF m 8 #[.val (.int (((31 : Int32) * (((31 : Int32) * (0 : Int32)) + ((StrChars.lo8 y1) &&& (255 : Int32)))) + ((StrChars.lo8 y2) &&& (255 : Int32)))), .val (.ref tt), .val (.int (0 : Int32)), .val (.int (2 : Int32)), .val (.int ((0 : Int32) + (2 : Int32))), .val (.int (2 : Int32))] []) (fun t k => XS.goto X0.here hx rfl (pc0 := 32) (pc' := 8) rfl (hb hby d16_32) (by decide) (by decide) k) ?_
  refine Goes.to (T' := s₁) (mkF m 10 #[.val (.int (((31 : Int32) * (((31 : Int32) * (0 : Int32)) + ((StrChars.lo8 y1) &&& (255 : Int32)))) + ((StrChars.lo8 y2) &&& (255 : Int32)))), .val (.ref tt), .val (.int (0 : Int32)), .val (.int (2 : Int32)), .val (.int ((0 : Int32) + (2 : Int32))), .val (.int (2 : Int32))] [(.int (2 : Int32))]) (fun t k => XS.iload X0.here hx rfl (hb hby d16_8) rfl k) ?_
  refine Goes.to (T' := s₁) (mkF m 12 #[.val (.int (((31 : Int32) * (((31 : Int32) * (0 : Int32)) + ((StrChars.lo8 y1) &&& (255 : Int32)))) + ((StrChars.lo8 y2) &&& (255 : Int32)))), .val (.ref tt), .val (.int (0 : Int32)), .val (.int (2 : Int32)), .val (.int ((0 : Int32) + (2 : Int32))), .val (.int (2 : Int32))] [(.int ((0 : Int32) + (2 : Int32))), (.int (2 : Int32))]) (fun t k => XS.iload X0.here hx rfl (hb hby d16_10) rfl k) ?_
  refine Goes.to (T' := s₁) (mkF m 35 #[.val (.int (((31 : Int32) * (((31 : Int32) * (0 : Int32)) + ((StrChars.lo8 y1) &&& (255 : Int32)))) + ((StrChars.lo8 y2) &&& (255 : Int32)))), .val (.ref tt), .val (.int (0 : Int32)), .val (.int (2 : Int32)), .val (.int ((0 : Int32) + (2 : Int32))), .val (.int (2 : Int32))] []) (fun t k => XS.icmpYes X0.here hx rfl (pc0 := 12) (pc' := 35) rfl (hb hby d16_12) rfl (flt (by decide : ¬ ((2 : Int32) < ((0 : Int32) + (2 : Int32))))).2.1 (by decide) (by decide) k) ?_
  refine Goes.to (T' := s₁) (mkF m 36 #[.val (.int (((31 : Int32) * (((31 : Int32) * (0 : Int32)) + ((StrChars.lo8 y1) &&& (255 : Int32)))) + ((StrChars.lo8 y2) &&& (255 : Int32)))), .val (.ref tt), .val (.int (0 : Int32)), .val (.int (2 : Int32)), .val (.int ((0 : Int32) + (2 : Int32))), .val (.int (2 : Int32))] [(.int (((31 : Int32) * (((31 : Int32) * (0 : Int32)) + ((StrChars.lo8 y1) &&& (255 : Int32)))) + ((StrChars.lo8 y2) &&& (255 : Int32))))]) (fun t k => XS.iloadN X0.here hx rfl (hb hby d16_35) rfl k) ?_
  refine Goes.retI X0 hx Bd.notSynchronized Bd.returns (hb hby d16_36) (by decide) (by decide) ?_
  rw [e0]
  exact ⟨⟨_, rfl⟩, N0, rfl⟩
theorem ef_rm_vh2 (m : MethodId) (x0 : Addr) (x1 : Int32) (x2 : Int32) (x3 : Int32) (x4 : Int32) : entryFrame m #[(.ref x0), (.int x1), (.int x2), (.int x3), (.int x4)] 5 = mkF m 0 #[.val (.ref x0), .val (.int x1), .val (.int x2), .val (.int x3), .val (.int x4)] [] := by first | (simp [entryFrame, mkF, argsToLocals, Value.category]; done) | rfl
def Q_rm_vh2 (Z : State) (tt : Addr) (kt : ClassId) (y1 y2 : Int32) (h0 : Heap) (n0 : Nat) (v : Option Value) (h : Heap) (L : List Loc) : Prop := (∃ r : Int32, v = some (.int r)) ∧ Fr n0 L ∧ h = h0
theorem d15_0 : decode jdk_48_method_4_code 0 = .ok (.iload 4, 2) := by decide +kernel
theorem d15_2 : decode jdk_48_method_4_code 2 = .ok (.tableswitch 127 4 10 #[42, 55, 127, 127, 88, 101, 114], 42) := by decide +kernel
theorem d15_44 : decode jdk_48_method_4_code 44 = .ok (.iload_n 3, 1) := by decide +kernel
theorem d15_45 : decode jdk_48_method_4_code 45 = .ok (.aload_n 0, 1) := by decide +kernel
theorem d15_46 : decode jdk_48_method_4_code 46 = .ok (.checkcast 60, 3) := by decide +kernel
theorem d15_49 : decode jdk_48_method_4_code 49 = .ok (.iload_n 1, 1) := by decide +kernel
theorem d15_50 : decode jdk_48_method_4_code 50 = .ok (.iload_n 2, 1) := by decide +kernel
theorem d15_51 : decode jdk_48_method_4_code 51 = .ok (.invokestatic 62, 3) := by decide +kernel
theorem pd_2 : parseMethodDescriptor "(I[BII)I" = some ⟨[.int, (.array .byte), .int, .int], some .int⟩ := by decide +kernel
theorem d15_54 : decode jdk_48_method_4_code 54 = .ok (.goto 103, 3) := by decide +kernel
theorem d15_157 : decode jdk_48_method_4_code 157 = .ok (.ireturn, 1) := by decide +kernel
set_option maxRecDepth 65536 in
set_option maxHeartbeats 40000000 in
theorem rm_vh2 (l : Launch) (Z : State) (a0 : Array Value) (hw : ∀ d ∈ tables_1, d.before a0 Z = true) (ws : List Jvm.Cond) (tt : Addr) (kt : ClassId) (y1 y2 : Int32) (h0 : Heap) (n0 : Nat) (O : Old Z n0 h0) (V_tt : Arv Z h0 tt kt .byte (2 : Int32) [(.int (StrChars.lo8 y1)), (.int (StrChars.lo8 y2))] (.int 0)) (E_tt : Exa Z h0 tt "[B") :
    MetFree l (⟨"jdk/internal/util/ArraysSupport", "vectorizedHashCode", "(Ljava/lang/Object;IIII)I"⟩ : MethodName) (head1 (Jvm.Cond.code (⟨"jdk/internal/util/ArraysSupport", "vectorizedHashCode", "(Ljava/lang/Object;IIII)I"⟩ : MethodName) jdk_48_method_4_code 5 (some .int) :: ws) ({ frames := 1, cells := 0, slots := 0, locals := 20 } : Room)) (fun aa U => aa = #[(.ref tt), (.int (0 : Int32)), (.int (2 : Int32)), (.int (0 : Int32)), (.int (4 : Int32))] ∧ Z.Warmed39 U.vm ∧ U.heap = h0) (fun _ _ _ _ _ => True) (fun _ U o U' => ∃ v L, o = .returned v ∧ Q_rm_vh2 Z tt kt y1 y2 h0 n0 v U'.heap L ∧ FrameEnd U o U' L ({ frames := 1, cells := 0, slots := 0, locals := 20 } : Room).cells ({ frames := 1, cells := 0, slots := 0, locals := 20 } : Room).slots) := by
  refine MetFree.of_bodySF (plainFor_of_name pn_jdk_internal_util_ArraysSupport) hisR ?_
  intro p e s m args below meth c s₁ Bd hml0 hP hK
  obtain ⟨rfl, hZ, hh⟩ := hP
  have hx := Bd.exec
  have hby := Bd.bytes
  have hml : c.maxLocals = 5 := hml0
  have hown : s.vm.findClass "jdk/internal/util/ArraysSupport" = some m.cls := findClass_of_methodNamed Bd.named
  have hnm := (name_of_methodNamed Bd.named Bd.method).1
  have X0 : Stand p l e ({ frames := 1, cells := 0, slots := 0, locals := 20 } : Room) s m #[(.ref tt), (.int (0 : Int32)), (.int (2 : Int32)), (.int (0 : Int32)), (.int (4 : Int32))] below meth c s₁ [] 0 0 := Stand.of_body Bd
  have e0 : s₁.heap = h0 := by rw [← hh, Bd.state]; rfl
  have N0 := Fr.nil n0
  show Goes p e below s FrameEnd ({ frames := 1, cells := 0, slots := 0, locals := 20 } : Room).cells ({ frames := 1, cells := 0, slots := 0, locals := 20 } : Room).slots (Q_rm_vh2 Z tt kt y1 y2 h0 n0) s₁ (entryFrame m #[(.ref tt), (.int (0 : Int32)), (.int (2 : Int32)), (.int (0 : Int32)), (.int (4 : Int32))] 5)
  refine Goes.cast (ef_rm_vh2 m tt (0 : Int32) (2 : Int32) (0 : Int32) (4 : Int32)) ?_
  refine Goes.to (T' := s₁) (mkF m 2 #[.val (.ref tt), .val (.int (0 : Int32)), .val (.int (2 : Int32)), .val (.int (0 : Int32)), .val (.int (4 : Int32))] [(.int (4 : Int32))]) (fun t k => XS.iload X0.here hx rfl (hb hby d15_0) rfl k) ?_
  refine Goes.to (T' := s₁) (mkF m 44 #[.val (.ref tt), .val (.int (0 : Int32)), .val (.int (2 : Int32)), .val (.int (0 : Int32)), .val (.int (4 : Int32))] []) (fun t k => X0.tableswitchIn hx (g := (mkF m 2 #[.val (.ref tt), .val (.int (0 : Int32)), .val (.int (2 : Int32)), .val (.int (0 : Int32)), .val (.int (4 : Int32))] [(.int (4 : Int32))])) rfl (k := (4 : Int32)) rfl (hb hby d15_2) (by decide) (off := 42) (by decide) (by show (0 : Int) ≤ ((2 : Nat) : Int) + (42); decide) _ k) ?_
  refine Goes.to (T' := s₁) (mkF m 45 #[.val (.ref tt), .val (.int (0 : Int32)), .val (.int (2 : Int32)), .val (.int (0 : Int32)), .val (.int (4 : Int32))] [(.int (0 : Int32))]) (fun t k => XS.iloadN X0.here hx rfl (hb hby d15_44) rfl k) ?_
  refine Goes.to (T' := s₁) (mkF m 46 #[.val (.ref tt), .val (.int (0 : Int32)), .val (.int (2 : Int32)), .val (.int (0 : Int32)), .val (.int (4 : Int32))] [(.ref tt), (.int (0 : Int32))]) (fun t k => XS.aloadN X0.here hx rfl (hb hby d15_45) rfl rfl k) ?_
  obtain ⟨T1, X1, e1, st1⟩ := castY X0 hx hZ hown (hw _ (List.mem_of_getElem? (i := 92) rfl)) e0 (Ins.self E_tt) (g := (mkF m 46 #[.val (.ref tt), .val (.int (0 : Int32)), .val (.int (2 : Int32)), .val (.int (0 : Int32)), .val (.int (4 : Int32))] [(.ref tt), (.int (0 : Int32))])) rfl rfl (hb hby d15_46)
  refine Goes.to (T' := T1) (mkF m 49 #[.val (.ref tt), .val (.int (0 : Int32)), .val (.int (2 : Int32)), .val (.int (0 : Int32)), .val (.int (4 : Int32))] [(.ref tt), (.int (0 : Int32))]) st1 ?_
  refine Goes.to (T' := T1) (mkF m 50 #[.val (.ref tt), .val (.int (0 : Int32)), .val (.int (2 : Int32)), .val (.int (0 : Int32)), .val (.int (4 : Int32))] [(.int (0 : Int32)), (.ref tt), (.int (0 : Int32))]) (fun t k => XS.iloadN X1.here hx rfl (hb hby d15_49) rfl k) ?_
  refine Goes.to (T' := T1) (mkF m 51 #[.val (.ref tt), .val (.int (0 : Int32)), .val (.int (2 : Int32)), .val (.int (0 : Int32)), .val (.int (4 : Int32))] [(.int (2 : Int32)), (.int (0 : Int32)), (.ref tt), (.int (0 : Int32))]) (fun t k => XS.iloadN X1.here hx rfl (hb hby d15_50) rfl k) ?_
  obtain ⟨_, _, ⟨T2, L2, k2, n2⟩, -, X2, ⟨Lc2, hQ2, l2, y2, z2⟩, st2⟩ := Jvm.LawKit.callS X1 hx (y := (⟨"jdk/internal/util/ArraysSupport", "signedHashCode", "(I[BII)I"⟩ : MethodName)) hown (mvT hZ (hw _ (List.mem_of_getElem? (i := 94) rfl))) (mvT hZ (hw _ (List.mem_of_getElem? (i := 95) rfl))) (mvT hZ (hw _ (List.mem_of_getElem? (i := 90) rfl))) (mvT hZ (hw _ (List.mem_of_getElem? (i := 96) rfl))) (by decide) (backOf (W := 0) (rm_sh2 l Z a0 hw [] tt kt y1 y2 h0 n0 O V_tt) hZ (hw _ (List.mem_of_getElem? (i := 96) rfl)) (hw _ (List.mem_of_getElem? (i := 90) rfl)) (by decide) (by decide)) (g := (mkF m 51 #[.val (.ref tt), .val (.int (0 : Int32)), .val (.int (2 : Int32)), .val (.int (0 : Int32)), .val (.int (4 : Int32))] [(.int (2 : Int32)), (.int (0 : Int32)), (.ref tt), (.int (0 : Int32))])) rfl (by rw [hml]; rfl) (argsL := [(.int (0 : Int32)), (.ref tt), (.int (0 : Int32)), (.int (2 : Int32))]) (rest := []) (lenOf pd_2 rfl) rfl (by show 2 * 0 + _ ≤ _; exact Nat.le_of_eq rfl) (hb hby d15_51) (fun _ _ => ⟨rfl, e1, (by decide : 0 + 0 ≤ _), (by decide : 0 + 0 ≤ _)⟩)
  dsimp only [Pt.U, Pt.locs, Pt.cells, Pt.slots] at X2 l2 y2 z2 st2 hQ2
  subst l2 y2 z2
  obtain ⟨⟨r2, rfl⟩, N2, hs2⟩ := hQ2
  have N2' := Fr.app N0 N2
  refine Goes.to (T' := T2) (mkF m 54 #[.val (.ref tt), .val (.int (0 : Int32)), .val (.int (2 : Int32)), .val (.int (0 : Int32)), .val (.int (4 : Int32))] [(.int r2)]) (fun t k => st2 t k) ?_
  refine Goes.to (T' := T2) (mkF m 157 #[.val (.ref tt), .val (.int (0 : Int32)), .val (.int (2 : Int32)), .val (.int (0 : Int32)), .val (.int (4 : Int32))] [(.int r2)]) (fun t k => XS.goto X2.here hx rfl (pc0 := 54) (pc' := 157) rfl (hb hby d15_54) (by decide) (by decide) k) ?_
  refine Goes.retI X2 hx Bd.notSynchronized Bd.returns (hb hby d15_157) (by decide) (by decide) ?_
  rw [hs2]
  exact ⟨⟨_, rfl⟩, N2', rfl⟩
theorem ef_rm_sh3 (m : MethodId) (x0 : Int32) (x1 : Addr) (x2 : Int32) (x3 : Int32) : entryFrame m #[(.int x0), (.ref x1), (.int x2), (.int x3)] 6 = mkF m 0 #[.val (.int x0), .val (.ref x1), .val (.int x2), .val (.int x3), .unset, .unset] [] := by first | (simp [entryFrame, mkF, argsToLocals, Value.category]; done) | rfl
def Q_rm_sh3 (Z : State) (tt : Addr) (kt : ClassId) (y1 y2 y3 : Int32) (h0 : Heap) (n0 : Nat) (v : Option Value) (h : Heap) (L : List Loc) : Prop := (∃ r : Int32, v = some (.int r)) ∧ Fr n0 L ∧ h = h0
set_option maxRecDepth 65536 in
set_option maxHeartbeats 40000000 in
theorem rm_sh3 (l : Launch) (Z : State) (a0 : Array Value) (hw : ∀ d ∈ tables_1, d.before a0 Z = true) (ws : List Jvm.Cond) (tt : Addr) (kt : ClassId) (y1 y2 y3 : Int32) (h0 : Heap) (n0 : Nat) (O : Old Z n0 h0) (V_tt : Arv Z h0 tt kt .byte (3 : Int32) [(.int (StrChars.lo8 y1)), (.int (StrChars.lo8 y2)), (.int (StrChars.lo8 y3))] (.int 0)) :
    MetFree l (⟨"jdk/internal/util/ArraysSupport", "signedHashCode", "(I[BII)I"⟩ : MethodName) (head1 (Jvm.Cond.code (⟨"jdk/internal/util/ArraysSupport", "signedHashCode", "(I[BII)I"⟩ : MethodName) jdk_48_method_5_code 6 (some .int) :: ws) ({ frames := 0, cells := 0, slots := 0, locals := 0 } : Room)) (fun aa U => aa = #[(.int (0 : Int32)), (.ref tt), (.int (0 : Int32)), (.int (3 : Int32))] ∧ Z.Warmed39 U.vm ∧ U.heap = h0) (fun _ _ _ _ _ => True) (fun _ U o U' => ∃ v L, o = .returned v ∧ Q_rm_sh3 Z tt kt y1 y2 y3 h0 n0 v U'.heap L ∧ FrameEnd U o U' L ({ frames := 0, cells := 0, slots := 0, locals := 0 } : Room).cells ({ frames := 0, cells := 0, slots := 0, locals := 0 } : Room).slots) := by
  refine MetFree.of_bodySF (plainFor_of_name pn_jdk_internal_util_ArraysSupport) hisR ?_
  intro p e s m args below meth c s₁ Bd hml0 hP hK
  obtain ⟨rfl, hZ, hh⟩ := hP
  have hx := Bd.exec
  have hby := Bd.bytes
  have hml : c.maxLocals = 6 := hml0
  have hown : s.vm.findClass "jdk/internal/util/ArraysSupport" = some m.cls := findClass_of_methodNamed Bd.named
  have hnm := (name_of_methodNamed Bd.named Bd.method).1
  have X0 : Stand p l e ({ frames := 0, cells := 0, slots := 0, locals := 0 } : Room) s m #[(.int (0 : Int32)), (.ref tt), (.int (0 : Int32)), (.int (3 : Int32))] below meth c s₁ [] 0 0 := Stand.of_body Bd
  have e0 : s₁.heap = h0 := by rw [← hh, Bd.state]; rfl
  have N0 := Fr.nil n0
  show Goes p e below s FrameEnd ({ frames := 0, cells := 0, slots := 0, locals := 0 } : Room).cells ({ frames := 0, cells := 0, slots := 0, locals := 0 } : Room).slots (Q_rm_sh3 Z tt kt y1 y2 y3 h0 n0) s₁ (entryFrame m #[(.int (0 : Int32)), (.ref tt), (.int (0 : Int32)), (.int (3 : Int32))] 6)
  refine Goes.cast (ef_rm_sh3 m (0 : Int32) tt (0 : Int32) (3 : Int32)) ?_
  refine Goes.to (T' := s₁) (mkF m 1 #[.val (.int (0 : Int32)), .val (.ref tt), .val (.int (0 : Int32)), .val (.int (3 : Int32)), .unset, .unset] [(.int (0 : Int32))]) (fun t k => XS.iloadN X0.here hx rfl (hb hby d16_0) rfl k) ?_
  refine Goes.to (T' := s₁) (mkF m 2 #[.val (.int (0 : Int32)), .val (.ref tt), .val (.int (0 : Int32)), .val (.int (3 : Int32)), .unset, .unset] [(.int (3 : Int32)), (.int (0 : Int32))]) (fun t k => XS.iloadN X0.here hx rfl (hb hby d16_1) rfl k) ?_
  refine Goes.to (T' := s₁) (mkF m 3 #[.val (.int (0 : Int32)), .val (.ref tt), .val (.int (0 : Int32)), .val (.int (3 : Int32)), .unset, .unset] [(.int ((0 : Int32) + (3 : Int32)))]) (fun t k => XS.iadd X0.here hx rfl (hb hby d16_2) rfl k) ?_
  refine Goes.to (T' := s₁) (mkF m 5 #[.val (.int (0 : Int32)), .val (.ref tt), .val (.int (0 : Int32)), .val (.int (3 : Int32)), .val (.int ((0 : Int32) + (3 : Int32))), .unset] []) (fun t k => XS.istore X0.here hx rfl (hb hby d16_3) rfl (l' := #[.val (.int (0 : Int32)), .val (.ref tt), .val (.int (0 : Int32)), .val (.int (3 : Int32)), .val (.int ((0 : Int32) + (3 : Int32))), .unset]) rfl k) ?_
  refine Goes.to (T' := s₁) (mkF m 6 #[.val (.int (0 : Int32)), .val (.ref tt), .val (.int (0 : Int32)), .val (.int (3 : Int32)), .val (.int ((0 : Int32) + (3 : Int32))), .unset] [(.int (0 : Int32))]) (fun t k => XS.iloadN X0.here hx rfl (hb hby d16_5) rfl k) ?_
  refine Goes.to (T' := s₁) (mkF m 8 #[.val (.int (0 : Int32)), .val (.ref tt), .val (.int (0 : Int32)), .val (.int (3 : Int32)), .val (.int ((0 : Int32) + (3 : Int32))), .val (.int (0 : Int32))] []) (fun t k => XS.istore X0.here hx rfl (hb hby d16_6) rfl (l' := #[.val (.int (0 : Int32)), .val (.ref tt), .val (.int (0 : Int32)), .val (.int (3 : Int32)), .val (.int ((0 : Int32) + (3 : Int32))), .val (.int (0 : Int32))]) rfl k) ?_
  refine Goes.to (T' := s₁) (mkF m 10 #[.val (.int (0 : Int32)), .val (.ref tt), .val (.int (0 : Int32)), .val (.int (3 : Int32)), .val (.int ((0 : Int32) + (3 : Int32))), .val (.int (0 : Int32))] [(.int (0 : Int32))]) (fun t k => XS.iload X0.here hx rfl (hb hby d16_8) rfl k) ?_
  refine Goes.to (T' := s₁) (mkF m 12 #[.val (.int (0 : Int32)), .val (.ref tt), .val (.int (0 : Int32)), .val (.int (3 : Int32)), .val (.int ((0 : Int32) + (3 : Int32))), .val (.int (0 : Int32))] [(.int ((0 : Int32) + (3 : Int32))), (.int (0 : Int32))]) (fun t k => XS.iload X0.here hx rfl (hb hby d16_10) rfl k) ?_
  refine Goes.to (T' := s₁) (mkF m 15 #[.val (.int (0 : Int32)), .val (.ref tt), .val (.int (0 : Int32)), .val (.int (3 : Int32)), .val (.int ((0 : Int32) + (3 : Int32))), .val (.int (0 : Int32))] []) (fun t k => XS.icmpNo X0.here hx rfl (hb hby d16_12) rfl (tlt (by decide : (0 : Int32) < ((0 : Int32) + (3 : Int32)))).2.1 k) ?_
  refine Goes.to (T' := s₁) (mkF m 17 #[.val (.int (0 : Int32)), .val (.ref tt), .val (.int (0 : Int32)), .val (.int (3 : Int32)), .val (.int ((0 : Int32) + (3 : Int32))), .val (.int (0 : Int32))] [(.int (31 : Int32))]) (fun t k => XS.bipush X0.here hx rfl (hb hby d16_15) k) ?_
  refine Goes.to (T' := s₁) (mkF m 18 #[.val (.int (0 : Int32)), .val (.ref tt), .val (.int (0 : Int32)), .val (.int (3 : Int32)), .val (.int ((0 : Int32) + (3 : Int32))), .val (.int (0 : Int32))] [(.int (0 : Int32)), (.int (31 : Int32))]) (fun t k => XS.iloadN X0.here hx rfl (hb hby d16_17) rfl k) ?_
  refine Goes.to (T' := s₁) (mkF m 19 #[.val (.int (0 : Int32)), .val (.ref tt), .val (.int (0 : Int32)), .val (.int (3 : Int32)), .val (.int ((0 : Int32) + (3 : Int32))), .val (.int (0 : Int32))] [(.int ((31 : Int32) * (0 : Int32)))]) (fun t k => XS.imul X0.here hx rfl (hb hby d16_18) rfl k) ?_
  refine Goes.to (T' := s₁) (mkF m 20 #[.val (.int (0 : Int32)), .val (.ref tt), .val (.int (0 : Int32)), .val (.int (3 : Int32)), .val (.int ((0 : Int32) + (3 : Int32))), .val (.int (0 : Int32))] [(.ref tt), (.int ((31 : Int32) * (0 : Int32)))]) (fun t k => XS.aloadN X0.here hx rfl (hb hby d16_19) rfl rfl k) ?_
  refine Goes.to (T' := s₁) (mkF m 22 #[.val (.int (0 : Int32)), .val (.ref tt), .val (.int (0 : Int32)), .val (.int (3 : Int32)), .val (.int ((0 : Int32) + (3 : Int32))), .val (.int (0 : Int32))] [(.int (0 : Int32)), (.ref tt), (.int ((31 : Int32) * (0 : Int32)))]) (fun t k => XS.iload X0.here hx rfl (hb hby d16_20) rfl k) ?_
  have V'_tt := V_tt
  obtain ⟨cl1, Ar1, -, S1, M1, H1, -⟩ := V'_tt
  have hin1 : ¬ ((0 : Int32) < 0 ∨ cl1.slots.size ≤ ((0 : Int32)).toNatClampNeg) := inb_of S1 ⟨by decide, by decide⟩
  have hat1 : cl1.slots[((0 : Int32)).toNatClampNeg]? = some (.int (StrChars.lo8 y1)) := H1.at hin1 rfl
  refine Goes.to (T' := s₁) (mkF m 23 #[.val (.int (0 : Int32)), .val (.ref tt), .val (.int (0 : Int32)), .val (.int (3 : Int32)), .val (.int ((0 : Int32) + (3 : Int32))), .val (.int (0 : Int32))] [(.int (StrChars.lo8 y1)), (.int ((31 : Int32) * (0 : Int32)))]) (fun t k => X0.baloadBytes hx (j := (0 : Int32)) (v := (.int (StrChars.lo8 y1))) (by rw [e0]; exact Ar1.1) (State.isArrayOf_alike hZ.alike Ar1.2.1) Ar1.2.2 hin1 hat1 (g := (mkF m 22 #[.val (.int (0 : Int32)), .val (.ref tt), .val (.int (0 : Int32)), .val (.int (3 : Int32)), .val (.int ((0 : Int32) + (3 : Int32))), .val (.int (0 : Int32))] [(.int (0 : Int32)), (.ref tt), (.int ((31 : Int32) * (0 : Int32)))])) rfl rfl (hb hby d16_22) _ k) ?_
  refine Goes.to (T' := s₁) (mkF m 26 #[.val (.int (0 : Int32)), .val (.ref tt), .val (.int (0 : Int32)), .val (.int (3 : Int32)), .val (.int ((0 : Int32) + (3 : Int32))), .val (.int (0 : Int32))] [(.int (255 : Int32)), (.int (StrChars.lo8 y1)), (.int ((31 : Int32) * (0 : Int32)))]) (fun t k => XS.sipush X0.here hx rfl (hb hby d16_23) k) ?_
  refine Goes.to (T' := s₁) (mkF m 27 #[.val (.int (0 : Int32)), .val (.ref tt), .val (.int (0 : Int32)), .val (.int (3 : Int32)), .val (.int ((0 : Int32) + (3 : Int32))), .val (.int (0 : Int32))] [(.int ((StrChars.lo8 y1) &&& (255 : Int32))), (.int ((31 : Int32) * (0 : Int32)))]) (fun t k => XS.iand X0.here hx rfl (hb hby d16_26) rfl k) ?_
  refine Goes.to (T' := s₁) (mkF m 28 #[.val (.int (0 : Int32)), .val (.ref tt), .val (.int (0 : Int32)), .val (.int (3 : Int32)), .val (.int ((0 : Int32) + (3 : Int32))), .val (.int (0 : Int32))] [(.int (((31 : Int32) * (0 : Int32)) + ((StrChars.lo8 y1) &&& (255 : Int32))))]) (fun t k => XS.iadd X0.here hx rfl (hb hby d16_27) rfl k) ?_
  refine Goes.to (T' := s₁) (mkF m 29 #[.val (.int (((31 : Int32) * (0 : Int32)) + ((StrChars.lo8 y1) &&& (255 : Int32)))), .val (.ref tt), .val (.int (0 : Int32)), .val (.int (3 : Int32)), .val (.int ((0 : Int32) + (3 : Int32))), .val (.int (0 : Int32))] []) (fun t k => XS.istoreN X0.here hx rfl (hb hby d16_28) rfl (l' := #[.val (.int (((31 : Int32) * (0 : Int32)) + ((StrChars.lo8 y1) &&& (255 : Int32)))), .val (.ref tt), .val (.int (0 : Int32)), .val (.int (3 : Int32)), .val (.int ((0 : Int32) + (3 : Int32))), .val (.int (0 : Int32))]) rfl k) ?_
  refine Goes.to (T' := s₁) (mkF m 32 #[.val (.int (((31 : Int32) * (0 : Int32)) + ((StrChars.lo8 y1) &&& (255 : Int32)))), .val (.ref tt), .val (.int (0 : Int32)), .val (.int (3 : Int32)), .val (.int ((0 : Int32) + (3 : Int32))), .val (.int (1 : Int32))] []) (fun t k => XS.iinc X0.here hx rfl (hb hby d16_29) rfl (l' := #[.val (.int (((31 : Int32) * (0 : Int32)) + ((StrChars.lo8 y1) &&& (255 : Int32)))), .val (.ref tt), .val (.int (0 : Int32)), .val (.int (3 : Int32)), .val (.int ((0 : Int32) + (3 : Int32))), .val (.int (1 : Int32))]) rfl k) ?_
  refine Goes.to (T' := s₁) (mkF m 8 #[.val (.int (((31 : Int32) * (0 : Int32)) + ((StrChars.lo8 y1) &&& (255 : Int32)))), .val (.ref tt), .val (.int (0 : Int32)), .val (.int (3 : Int32)), .val (.int ((0 : Int32) + (3 : Int32))), .val (.int (1 : Int32))] []) (fun t k => XS.goto X0.here hx rfl (pc0 := 32) (pc' := 8) rfl (hb hby d16_32) (by decide) (by decide) k) ?_
  refine Goes.to (T' := s₁) (mkF m 10 #[.val (.int (((31 : Int32) * (0 : Int32)) + ((StrChars.lo8 y1) &&& (255 : Int32)))), .val (.ref tt), .val (.int (0 : Int32)), .val (.int (3 : Int32)), .val (.int ((0 : Int32) + (3 : Int32))), .val (.int (1 : Int32))] [(.int (1 : Int32))]) (fun t k => XS.iload X0.here hx rfl (hb hby d16_8) rfl k) ?_
  refine Goes.to (T' := s₁) (mkF m 12 #[.val (.int (((31 : Int32) * (0 : Int32)) + ((StrChars.lo8 y1) &&& (255 : Int32)))), .val (.ref tt), .val (.int (0 : Int32)), .val (.int (3 : Int32)), .val (.int ((0 : Int32) + (3 : Int32))), .val (.int (1 : Int32))] [(.int ((0 : Int32) + (3 : Int32))), (.int (1 : Int32))]) (fun t k => XS.iload X0.here hx rfl (hb hby d16_10) rfl k) ?_
  refine Goes.to (T' := s₁) (mkF m 15 #[.val (.int (((31 : Int32) * (0 : Int32)) + ((StrChars.lo8 y1) &&& (255 : Int32)))), .val (.ref tt), .val (.int (0 : Int32)), .val (.int (3 : Int32)), .val (.int ((0 : Int32) + (3 : Int32))), .val (.int (1 : Int32))] []) (fun t k => XS.icmpNo X0.here hx rfl (hb hby d16_12) rfl (tlt (by decide : (1 : Int32) < ((0 : Int32) + (3 : Int32)))).2.1 k) ?_
  refine Goes.to (T' := s₁) (mkF m 17 #[.val (.int (((31 : Int32) * (0 : Int32)) + ((StrChars.lo8 y1) &&& (255 : Int32)))), .val (.ref tt), .val (.int (0 : Int32)), .val (.int (3 : Int32)), .val (.int ((0 : Int32) + (3 : Int32))), .val (.int (1 : Int32))] [(.int (31 : Int32))]) (fun t k => XS.bipush X0.here hx rfl (hb hby d16_15) k) ?_
  refine Goes.to (T' := s₁) (mkF m 18 #[.val (.int (((31 : Int32) * (0 : Int32)) + ((StrChars.lo8 y1) &&& (255 : Int32)))), .val (.ref tt), .val (.int (0 : Int32)), .val (.int (3 : Int32)), .val (.int ((0 : Int32) + (3 : Int32))), .val (.int (1 : Int32))] [(.int (((31 : Int32) * (0 : Int32)) + ((StrChars.lo8 y1) &&& (255 : Int32)))), (.int (31 : Int32))]) (fun t k => XS.iloadN X0.here hx rfl (hb hby d16_17) rfl k) ?_
  refine Goes.to (T' := s₁) (mkF m 19 #[.val (.int (((31 : Int32) * (0 : Int32)) + ((StrChars.lo8 y1) &&& (255 : Int32)))), .val (.ref tt), .val (.int (0 : Int32)), .val (.int (3 : Int32)), .val (.int ((0 : Int32) + (3 : Int32))), .val (.int (1 : Int32))] [(.int ((31 : Int32) * (((31 : Int32) * (0 : Int32)) + ((StrChars.lo8 y1) &&& (255 : Int32)))))]) (fun t k => XS.imul X0.here hx rfl (hb hby d16_18) rfl k) ?_
  refine Goes.to (T' := s₁) (mkF m 20 #[.val (.int (((31 : Int32) * (0 : Int32)) + ((StrChars.lo8 y1) &&& (255 : Int32)))), .val (.ref tt), .val (.int (0 : Int32)), .val (.int (3 : Int32)), .val (.int ((0 : Int32) + (3 : Int32))), .val (.int (1 : Int32))] [(.ref tt), (.int ((31 : Int32) * (((31 : Int32) * (0 : Int32)) + ((StrChars.lo8 y1) &&& (255 : Int32)))))]) (fun t k => XS.aloadN X0.here hx rfl (hb hby d16_19) rfl rfl k) ?_
  refine Goes.to (T' := s₁) (mkF m 22 #[.val (.int (((31 : Int32) * (0 : Int32)) + ((StrChars.lo8 y1) &&& (255 : Int32)))), .val (.ref tt), .val (.int (0 : Int32)), .val (.int (3 : Int32)), .val (.int ((0 : Int32) + (3 : Int32))), .val (.int (1 : Int32))] [(.int (1 : Int32)), (.ref tt), (.int ((31 : Int32) * (((31 : Int32) * (0 : Int32)) + ((StrChars.lo8 y1) &&& (255 : Int32)))))]) (fun t k => XS.iload X0.here hx rfl (hb hby d16_20) rfl k) ?_
  have V'_tt := V_tt
  obtain ⟨cl2, Ar2, -, S2, M2, H2, -⟩ := V'_tt
  have hin2 : ¬ ((1 : Int32) < 0 ∨ cl2.slots.size ≤ ((1 : Int32)).toNatClampNeg) := inb_of S2 ⟨by decide, by decide⟩
  have hat2 : cl2.slots[((1 : Int32)).toNatClampNeg]? = some (.int (StrChars.lo8 y2)) := H2.at hin2 rfl
  refine Goes.to (T' := s₁) (mkF m 23 #[.val (.int (((31 : Int32) * (0 : Int32)) + ((StrChars.lo8 y1) &&& (255 : Int32)))), .val (.ref tt), .val (.int (0 : Int32)), .val (.int (3 : Int32)), .val (.int ((0 : Int32) + (3 : Int32))), .val (.int (1 : Int32))] [(.int (StrChars.lo8 y2)), (.int ((31 : Int32) * (((31 : Int32) * (0 : Int32)) + ((StrChars.lo8 y1) &&& (255 : Int32)))))]) (fun t k => X0.baloadBytes hx (j := (1 : Int32)) (v := (.int (StrChars.lo8 y2))) (by rw [e0]; exact Ar2.1) (State.isArrayOf_alike hZ.alike Ar2.2.1) Ar2.2.2 hin2 hat2 (g := (mkF m 22 #[.val (.int (((31 : Int32) * (0 : Int32)) + ((StrChars.lo8 y1) &&& (255 : Int32)))), .val (.ref tt), .val (.int (0 : Int32)), .val (.int (3 : Int32)), .val (.int ((0 : Int32) + (3 : Int32))), .val (.int (1 : Int32))] [(.int (1 : Int32)), (.ref tt), (.int ((31 : Int32) * (((31 : Int32) * (0 : Int32)) + ((StrChars.lo8 y1) &&& (255 : Int32)))))])) rfl rfl (hb hby d16_22) _ k) ?_
  refine Goes.to (T' := s₁) (mkF m 26 #[.val (.int (((31 : Int32) * (0 : Int32)) + ((StrChars.lo8 y1) &&& (255 : Int32)))), .val (.ref tt), .val (.int (0 : Int32)), .val (.int (3 : Int32)), .val (.int ((0 : Int32) + (3 : Int32))), .val (.int (1 : Int32))] [(.int (255 : Int32)), (.int (StrChars.lo8 y2)), (.int ((31 : Int32) * (((31 : Int32) * (0 : Int32)) + ((StrChars.lo8 y1) &&& (255 : Int32)))))]) (fun t k => XS.sipush X0.here hx rfl (hb hby d16_23) k) ?_
  refine Goes.to (T' := s₁) (mkF m 27 #[.val (.int (((31 : Int32) * (0 : Int32)) + ((StrChars.lo8 y1) &&& (255 : Int32)))), .val (.ref tt), .val (.int (0 : Int32)), .val (.int (3 : Int32)), .val (.int ((0 : Int32) + (3 : Int32))), .val (.int (1 : Int32))] [(.int ((StrChars.lo8 y2) &&& (255 : Int32))), (.int ((31 : Int32) * (((31 : Int32) * (0 : Int32)) + ((StrChars.lo8 y1) &&& (255 : Int32)))))]) (fun t k => XS.iand X0.here hx rfl (hb hby d16_26) rfl k) ?_
  refine Goes.to (T' := s₁) (mkF m 28 #[.val (.int (((31 : Int32) * (0 : Int32)) + ((StrChars.lo8 y1) &&& (255 : Int32)))), .val (.ref tt), .val (.int (0 : Int32)), .val (.int (3 : Int32)), .val (.int ((0 : Int32) + (3 : Int32))), .val (.int (1 : Int32))] [(.int (((31 : Int32) * (((31 : Int32) * (0 : Int32)) + ((StrChars.lo8 y1) &&& (255 : Int32)))) + ((StrChars.lo8 y2) &&& (255 : Int32))))]) (fun t k => XS.iadd X0.here hx rfl (hb hby d16_27) rfl k) ?_
  refine Goes.to (T' := s₁) (mkF m 29 #[.val (.int (((31 : Int32) * (((31 : Int32) * (0 : Int32)) + ((StrChars.lo8 y1) &&& (255 : Int32)))) + ((StrChars.lo8 y2) &&& (255 : Int32)))), .val (.ref tt), .val (.int (0 : Int32)), .val (.int (3 : Int32)), .val (.int ((0 : Int32) + (3 : Int32))), .val (.int (1 : Int32))] []) (fun t k => XS.istoreN X0.here hx rfl (hb hby d16_28) rfl (l' := #[.val (.int (((31 : Int32) * (((31 : Int32) * (0 : Int32)) + ((StrChars.lo8 y1) &&& (255 : Int32)))) + ((StrChars.lo8 y2) &&& (255 : Int32)))), .val (.ref tt), .val (.int (0 : Int32)), .val (.int (3 : Int32)), .val (.int ((0 : Int32) + (3 : Int32))), .val (.int (1 : Int32))]) rfl k) ?_
  refine Goes.to (T' := s₁) (mkF m 32 #[.val (.int (((31 : Int32) * (((31 : Int32) * (0 : Int32)) + ((StrChars.lo8 y1) &&& (255 : Int32)))) + ((StrChars.lo8 y2) &&& (255 : Int32)))), .val (.ref tt), .val (.int (0 : Int32)), .val (.int (3 : Int32)), .val (.int ((0 : Int32) + (3 : Int32))), .val (.int (2 : Int32))] []) (fun t k => XS.iinc X0.here hx rfl (hb hby d16_29) rfl (l' := #[.val (.int (((31 : Int32) * (((31 : Int32) * (0 : Int32)) + ((StrChars.lo8 y1) &&& (255 : Int32)))) + ((StrChars.lo8 y2) &&& (255 : Int32)))), .val (.ref tt), .val (.int (0 : Int32)), .val (.int (3 : Int32)), .val (.int ((0 : Int32) + (3 : Int32))), .val (.int (2 : Int32))]) rfl k) ?_
  refine Goes.to (T' := s₁) (mkF m 8 #[.val (.int (((31 : Int32) * (((31 : Int32) * (0 : Int32)) + ((StrChars.lo8 y1) &&& (255 : Int32)))) + ((StrChars.lo8 y2) &&& (255 : Int32)))), .val (.ref tt), .val (.int (0 : Int32)), .val (.int (3 : Int32)), .val (.int ((0 : Int32) + (3 : Int32))), .val (.int (2 : Int32))] []) (fun t k => XS.goto X0.here hx rfl (pc0 := 32) (pc' := 8) rfl (hb hby d16_32) (by decide) (by decide) k) ?_
  refine Goes.to (T' := s₁) (mkF m 10 #[.val (.int (((31 : Int32) * (((31 : Int32) * (0 : Int32)) + ((StrChars.lo8 y1) &&& (255 : Int32)))) + ((StrChars.lo8 y2) &&& (255 : Int32)))), .val (.ref tt), .val (.int (0 : Int32)), .val (.int (3 : Int32)), .val (.int ((0 : Int32) + (3 : Int32))), .val (.int (2 : Int32))] [(.int (2 : Int32))]) (fun t k => XS.iload X0.here hx rfl (hb hby d16_8) rfl k) ?_
  refine Goes.to (T' := s₁) (mkF m 12 #[.val (.int (((31 : Int32) * (((31 : Int32) * (0 : Int32)) + ((StrChars.lo8 y1) &&& (255 : Int32)))) + ((StrChars.lo8 y2) &&& (255 : Int32)))), .val (.ref tt), .val (.int (0 : Int32)), .val (.int (3 : Int32)), .val (.int ((0 : Int32) + (3 : Int32))), .val (.int (2 : Int32))] [(.int ((0 : Int32) + (3 : Int32))), (.int (2 : Int32))]) (fun t k => XS.iload X0.here hx rfl (hb hby d16_10) rfl k) ?_
  refine Goes.to (T' := s₁) (mkF m 15 #[.val (.int (((31 : Int32) * (((31 : Int32) * (0 : Int32)) + ((StrChars.lo8 y1) &&& (255 : Int32)))) + ((StrChars.lo8 y2) &&& (255 : Int32)))), .val (.ref tt), .val (.int (0 : Int32)), .val (.int (3 : Int32)), .val (.int ((0 : Int32) + (3 : Int32))), .val (.int (2 : Int32))] []) (fun t k => XS.icmpNo X0.here hx rfl (hb hby d16_12) rfl (tlt (by decide : (2 : Int32) < ((0 : Int32) + (3 : Int32)))).2.1 k) ?_
  refine Goes.to (T' := s₁) (mkF m 17 #[.val (.int (((31 : Int32) * (((31 : Int32) * (0 : Int32)) + ((StrChars.lo8 y1) &&& (255 : Int32)))) + ((StrChars.lo8 y2) &&& (255 : Int32)))), .val (.ref tt), .val (.int (0 : Int32)), .val (.int (3 : Int32)), .val (.int ((0 : Int32) + (3 : Int32))), .val (.int (2 : Int32))] [(.int (31 : Int32))]) (fun t k => XS.bipush X0.here hx rfl (hb hby d16_15) k) ?_
  refine Goes.to (T' := s₁) (mkF m 18 #[.val (.int (((31 : Int32) * (((31 : Int32) * (0 : Int32)) + ((StrChars.lo8 y1) &&& (255 : Int32)))) + ((StrChars.lo8 y2) &&& (255 : Int32)))), .val (.ref tt), .val (.int (0 : Int32)), .val (.int (3 : Int32)), .val (.int ((0 : Int32) + (3 : Int32))), .val (.int (2 : Int32))] [(.int (((31 : Int32) * (((31 : Int32) * (0 : Int32)) + ((StrChars.lo8 y1) &&& (255 : Int32)))) + ((StrChars.lo8 y2) &&& (255 : Int32)))), (.int (31 : Int32))]) (fun t k => XS.iloadN X0.here hx rfl (hb hby d16_17) rfl k) ?_
  refine Goes.to (T' := s₁) (mkF m 19 #[.val (.int (((31 : Int32) * (((31 : Int32) * (0 : Int32)) + ((StrChars.lo8 y1) &&& (255 : Int32)))) + ((StrChars.lo8 y2) &&& (255 : Int32)))), .val (.ref tt), .val (.int (0 : Int32)), .val (.int (3 : Int32)), .val (.int ((0 : Int32) + (3 : Int32))), .val (.int (2 : Int32))] [(.int ((31 : Int32) * (((31 : Int32) * (((31 : Int32) * (0 : Int32)) + ((StrChars.lo8 y1) &&& (255 : Int32)))) + ((StrChars.lo8 y2) &&& (255 : Int32)))))]) (fun t k => XS.imul X0.here hx rfl (hb hby d16_18) rfl k) ?_
  refine Goes.to (T' := s₁) (mkF m 20 #[.val (.int (((31 : Int32) * (((31 : Int32) * (0 : Int32)) + ((StrChars.lo8 y1) &&& (255 : Int32)))) + ((StrChars.lo8 y2) &&& (255 : Int32)))), .val (.ref tt), .val (.int (0 : Int32)), .val (.int (3 : Int32)), .val (.int ((0 : Int32) + (3 : Int32))), .val (.int (2 : Int32))] [(.ref tt), (.int ((31 : Int32) * (((31 : Int32) * (((31 : Int32) * (0 : Int32)) + ((StrChars.lo8 y1) &&& (255 : Int32)))) + ((StrChars.lo8 y2) &&& (255 : Int32)))))]) (fun t k => XS.aloadN X0.here hx rfl (hb hby d16_19) rfl rfl k) ?_
  refine Goes.to (T' := s₁) (mkF m 22 #[.val (.int (((31 : Int32) * (((31 : Int32) * (0 : Int32)) + ((StrChars.lo8 y1) &&& (255 : Int32)))) + ((StrChars.lo8 y2) &&& (255 : Int32)))), .val (.ref tt), .val (.int (0 : Int32)), .val (.int (3 : Int32)), .val (.int ((0 : Int32) + (3 : Int32))), .val (.int (2 : Int32))] [(.int (2 : Int32)), (.ref tt), (.int ((31 : Int32) * (((31 : Int32) * (((31 : Int32) * (0 : Int32)) + ((StrChars.lo8 y1) &&& (255 : Int32)))) + ((StrChars.lo8 y2) &&& (255 : Int32)))))]) (fun t k => XS.iload X0.here hx rfl (hb hby d16_20) rfl k) ?_
  have V'_tt := V_tt
  obtain ⟨cl3, Ar3, -, S3, M3, H3, -⟩ := V'_tt
  have hin3 : ¬ ((2 : Int32) < 0 ∨ cl3.slots.size ≤ ((2 : Int32)).toNatClampNeg) := inb_of S3 ⟨by decide, by decide⟩
  have hat3 : cl3.slots[((2 : Int32)).toNatClampNeg]? = some (.int (StrChars.lo8 y3)) := H3.at hin3 rfl
  refine Goes.to (T' := s₁) (mkF m 23 #[.val (.int (((31 : Int32) * (((31 : Int32) * (0 : Int32)) + ((StrChars.lo8 y1) &&& (255 : Int32)))) + ((StrChars.lo8 y2) &&& (255 : Int32)))), .val (.ref tt), .val (.int (0 : Int32)), .val (.int (3 : Int32)), .val (.int ((0 : Int32) + (3 : Int32))), .val (.int (2 : Int32))] [(.int (StrChars.lo8 y3)), (.int ((31 : Int32) * (((31 : Int32) * (((31 : Int32) * (0 : Int32)) + ((StrChars.lo8 y1) &&& (255 : Int32)))) + ((StrChars.lo8 y2) &&& (255 : Int32)))))]) (fun t k => X0.baloadBytes hx (j := (2 : Int32)) (v := (.int (StrChars.lo8 y3))) (by rw [e0]; exact Ar3.1) (State.isArrayOf_alike hZ.alike Ar3.2.1) Ar3.2.2 hin3 hat3 (g := (mkF m 22 #[.val (.int (((31 : Int32) * (((31 : Int32) * (0 : Int32)) + ((StrChars.lo8 y1) &&& (255 : Int32)))) + ((StrChars.lo8 y2) &&& (255 : Int32)))), .val (.ref tt), .val (.int (0 : Int32)), .val (.int (3 : Int32)), .val (.int ((0 : Int32) + (3 : Int32))), .val (.int (2 : Int32))] [(.int (2 : Int32)), (.ref tt), (.int ((31 : Int32) * (((31 : Int32) * (((31 : Int32) * (0 : Int32)) + ((StrChars.lo8 y1) &&& (255 : Int32)))) + ((StrChars.lo8 y2) &&& (255 : Int32)))))])) rfl rfl (hb hby d16_22) _ k) ?_
  refine Goes.to (T' := s₁) (mkF m 26 #[.val (.int (((31 : Int32) * (((31 : Int32) * (0 : Int32)) + ((StrChars.lo8 y1) &&& (255 : Int32)))) + ((StrChars.lo8 y2) &&& (255 : Int32)))), .val (.ref tt), .val (.int (0 : Int32)), .val (.int (3 : Int32)), .val (.int ((0 : Int32) + (3 : Int32))), .val (.int (2 : Int32))] [(.int (255 : Int32)), (.int (StrChars.lo8 y3)), (.int ((31 : Int32) * (((31 : Int32) * (((31 : Int32) * (0 : Int32)) + ((StrChars.lo8 y1) &&& (255 : Int32)))) + ((StrChars.lo8 y2) &&& (255 : Int32)))))]) (fun t k => XS.sipush X0.here hx rfl (hb hby d16_23) k) ?_
  refine Goes.to (T' := s₁) (mkF m 27 #[.val (.int (((31 : Int32) * (((31 : Int32) * (0 : Int32)) + ((StrChars.lo8 y1) &&& (255 : Int32)))) + ((StrChars.lo8 y2) &&& (255 : Int32)))), .val (.ref tt), .val (.int (0 : Int32)), .val (.int (3 : Int32)), .val (.int ((0 : Int32) + (3 : Int32))), .val (.int (2 : Int32))] [(.int ((StrChars.lo8 y3) &&& (255 : Int32))), (.int ((31 : Int32) * (((31 : Int32) * (((31 : Int32) * (0 : Int32)) + ((StrChars.lo8 y1) &&& (255 : Int32)))) + ((StrChars.lo8 y2) &&& (255 : Int32)))))]) (fun t k => XS.iand X0.here hx rfl (hb hby d16_26) rfl k) ?_
  refine Goes.to (T' := s₁) (mkF m 28 #[.val (.int (((31 : Int32) * (((31 : Int32) * (0 : Int32)) + ((StrChars.lo8 y1) &&& (255 : Int32)))) + ((StrChars.lo8 y2) &&& (255 : Int32)))), .val (.ref tt), .val (.int (0 : Int32)), .val (.int (3 : Int32)), .val (.int ((0 : Int32) + (3 : Int32))), .val (.int (2 : Int32))] [(.int (((31 : Int32) * (((31 : Int32) * (((31 : Int32) * (0 : Int32)) + ((StrChars.lo8 y1) &&& (255 : Int32)))) + ((StrChars.lo8 y2) &&& (255 : Int32)))) + ((StrChars.lo8 y3) &&& (255 : Int32))))]) (fun t k => XS.iadd X0.here hx rfl (hb hby d16_27) rfl k) ?_
  refine Goes.to (T' := s₁) (mkF m 29 #[.val (.int (((31 : Int32) * (((31 : Int32) * (((31 : Int32) * (0 : Int32)) + ((StrChars.lo8 y1) &&& (255 : Int32)))) + ((StrChars.lo8 y2) &&& (255 : Int32)))) + ((StrChars.lo8 y3) &&& (255 : Int32)))), .val (.ref tt), .val (.int (0 : Int32)), .val (.int (3 : Int32)), .val (.int ((0 : Int32) + (3 : Int32))), .val (.int (2 : Int32))] []) (fun t k => XS.istoreN X0.here hx rfl (hb hby d16_28) rfl (l' := #[.val (.int (((31 : Int32) * (((31 : Int32) * (((31 : Int32) * (0 : Int32)) + ((StrChars.lo8 y1) &&& (255 : Int32)))) + ((StrChars.lo8 y2) &&& (255 : Int32)))) + ((StrChars.lo8 y3) &&& (255 : Int32)))), .val (.ref tt), .val (.int (0 : Int32)), .val (.int (3 : Int32)), .val (.int ((0 : Int32) + (3 : Int32))), .val (.int (2 : Int32))]) rfl k) ?_
  refine Goes.to (T' := s₁) (mkF m 32 #[.val (.int (((31 : Int32) * (((31 : Int32) * (((31 : Int32) * (0 : Int32)) + ((StrChars.lo8 y1) &&& (255 : Int32)))) + ((StrChars.lo8 y2) &&& (255 : Int32)))) + ((StrChars.lo8 y3) &&& (255 : Int32)))), .val (.ref tt), .val (.int (0 : Int32)), .val (.int (3 : Int32)), .val (.int ((0 : Int32) + (3 : Int32))), .val (.int (3 : Int32))] []) (fun t k => XS.iinc X0.here hx rfl (hb hby d16_29) rfl (l' := #[.val (.int (((31 : Int32) * (((31 : Int32) * (((31 : Int32) * (0 : Int32)) + ((StrChars.lo8 y1) &&& (255 : Int32)))) + ((StrChars.lo8 y2) &&& (255 : Int32)))) + ((StrChars.lo8 y3) &&& (255 : Int32)))), .val (.ref tt), .val (.int (0 : Int32)), .val (.int (3 : Int32)), .val (.int ((0 : Int32) + (3 : Int32))), .val (.int (3 : Int32))]) rfl k) ?_
  refine Goes.to (T' := s₁) (mkF m 8 #[.val (.int (((31 : Int32) * (((31 : Int32) * (((31 : Int32) * (0 : Int32)) + ((StrChars.lo8 y1) &&& (255 : Int32)))) + ((StrChars.lo8 y2) &&& (255 : Int32)))) + ((StrChars.lo8 y3) &&& (255 : Int32)))), .val (.ref tt), .val (.int (0 : Int32)), .val (.int (3 : Int32)), .val (.int ((0 : Int32) + (3 : Int32))), .val (.int (3 : Int32))] []) (fun t k => XS.goto X0.here hx rfl (pc0 := 32) (pc' := 8) rfl (hb hby d16_32) (by decide) (by decide) k) ?_
  refine Goes.to (T' := s₁) (mkF m 10 #[.val (.int (((31 : Int32) * (((31 : Int32) * (((31 : Int32) * (0 : Int32)) + ((StrChars.lo8 y1) &&& (255 : Int32)))) + ((StrChars.lo8 y2) &&& (255 : Int32)))) + ((StrChars.lo8 y3) &&& (255 : Int32)))), .val (.ref tt), .val (.int (0 : Int32)), .val (.int (3 : Int32)), .val (.int ((0 : Int32) + (3 : Int32))), .val (.int (3 : Int32))] [(.int (3 : Int32))]) (fun t k => XS.iload X0.here hx rfl (hb hby d16_8) rfl k) ?_
  refine Goes.to (T' := s₁) (mkF m 12 #[.val (.int (((31 : Int32) * (((31 : Int32) * (((31 : Int32) * (0 : Int32)) + ((StrChars.lo8 y1) &&& (255 : Int32)))) + ((StrChars.lo8 y2) &&& (255 : Int32)))) + ((StrChars.lo8 y3) &&& (255 : Int32)))), .val (.ref tt), .val (.int (0 : Int32)), .val (.int (3 : Int32)), .val (.int ((0 : Int32) + (3 : Int32))), .val (.int (3 : Int32))] [(.int ((0 : Int32) + (3 : Int32))), (.int (3 : Int32))]) (fun t k => XS.iload X0.here hx rfl (hb hby d16_10) rfl k) ?_
  refine Goes.to (T' := s₁) (mkF m 35 #[.val (.int (((31 : Int32) * (((31 : Int32) * (((31 : Int32) * (0 : Int32)) + ((StrChars.lo8 y1) &&& (255 : Int32)))) + ((StrChars.lo8 y2) &&& (255 : Int32)))) + ((StrChars.lo8 y3) &&& (255 : Int32)))), .val (.ref tt), .val (.int (0 : Int32)), .val (.int (3 : Int32)), .val (.int ((0 : Int32) + (3 : Int32))), .val (.int (3 : Int32))] []) (fun t k => XS.icmpYes X0.here hx rfl (pc0 := 12) (pc' := 35) rfl (hb hby d16_12) rfl (flt (by decide : ¬ ((3 : Int32) < ((0 : Int32) + (3 : Int32))))).2.1 (by decide) (by decide) k) ?_
  refine Goes.to (T' := s₁) (mkF m 36 #[.val (.int (((31 : Int32) * (((31 : Int32) * (((31 : Int32) * (0 : Int32)) + ((StrChars.lo8 y1) &&& (255 : Int32)))) + ((StrChars.lo8 y2) &&& (255 : Int32)))) + ((StrChars.lo8 y3) &&& (255 : Int32)))), .val (.ref tt), .val (.int (0 : Int32)), .val (.int (3 : Int32)), .val (.int ((0 : Int32) + (3 : Int32))), .val (.int (3 : Int32))] [(.int (((31 : Int32) * (((31 : Int32) * (((31 : Int32) * (0 : Int32)) + ((StrChars.lo8 y1) &&& (255 : Int32)))) + ((StrChars.lo8 y2) &&& (255 : Int32)))) + ((StrChars.lo8 y3) &&& (255 : Int32))))]) (fun t k => XS.iloadN X0.here hx rfl (hb hby d16_35) rfl k) ?_
  refine Goes.retI X0 hx Bd.notSynchronized Bd.returns (hb hby d16_36) (by decide) (by decide) ?_
  rw [e0]
  exact ⟨⟨_, rfl⟩, N0, rfl⟩
theorem ef_rm_vh3 (m : MethodId) (x0 : Addr) (x1 : Int32) (x2 : Int32) (x3 : Int32) (x4 : Int32) : entryFrame m #[(.ref x0), (.int x1), (.int x2), (.int x3), (.int x4)] 5 = mkF m 0 #[.val (.ref x0), .val (.int x1), .val (.int x2), .val (.int x3), .val (.int x4)] [] := by first | (simp [entryFrame, mkF, argsToLocals, Value.category]; done) | rfl
def Q_rm_vh3 (Z : State) (tt : Addr) (kt : ClassId) (y1 y2 y3 : Int32) (h0 : Heap) (n0 : Nat) (v : Option Value) (h : Heap) (L : List Loc) : Prop := (∃ r : Int32, v = some (.int r)) ∧ Fr n0 L ∧ h = h0
set_option maxRecDepth 65536 in
set_option maxHeartbeats 40000000 in
theorem rm_vh3 (l : Launch) (Z : State) (a0 : Array Value) (hw : ∀ d ∈ tables_1, d.before a0 Z = true) (ws : List Jvm.Cond) (tt : Addr) (kt : ClassId) (y1 y2 y3 : Int32) (h0 : Heap) (n0 : Nat) (O : Old Z n0 h0) (V_tt : Arv Z h0 tt kt .byte (3 : Int32) [(.int (StrChars.lo8 y1)), (.int (StrChars.lo8 y2)), (.int (StrChars.lo8 y3))] (.int 0)) (E_tt : Exa Z h0 tt "[B") :
    MetFree l (⟨"jdk/internal/util/ArraysSupport", "vectorizedHashCode", "(Ljava/lang/Object;IIII)I"⟩ : MethodName) (head1 (Jvm.Cond.code (⟨"jdk/internal/util/ArraysSupport", "vectorizedHashCode", "(Ljava/lang/Object;IIII)I"⟩ : MethodName) jdk_48_method_4_code 5 (some .int) :: ws) ({ frames := 1, cells := 0, slots := 0, locals := 20 } : Room)) (fun aa U => aa = #[(.ref tt), (.int (0 : Int32)), (.int (3 : Int32)), (.int (0 : Int32)), (.int (4 : Int32))] ∧ Z.Warmed39 U.vm ∧ U.heap = h0) (fun _ _ _ _ _ => True) (fun _ U o U' => ∃ v L, o = .returned v ∧ Q_rm_vh3 Z tt kt y1 y2 y3 h0 n0 v U'.heap L ∧ FrameEnd U o U' L ({ frames := 1, cells := 0, slots := 0, locals := 20 } : Room).cells ({ frames := 1, cells := 0, slots := 0, locals := 20 } : Room).slots) := by
  refine MetFree.of_bodySF (plainFor_of_name pn_jdk_internal_util_ArraysSupport) hisR ?_
  intro p e s m args below meth c s₁ Bd hml0 hP hK
  obtain ⟨rfl, hZ, hh⟩ := hP
  have hx := Bd.exec
  have hby := Bd.bytes
  have hml : c.maxLocals = 5 := hml0
  have hown : s.vm.findClass "jdk/internal/util/ArraysSupport" = some m.cls := findClass_of_methodNamed Bd.named
  have hnm := (name_of_methodNamed Bd.named Bd.method).1
  have X0 : Stand p l e ({ frames := 1, cells := 0, slots := 0, locals := 20 } : Room) s m #[(.ref tt), (.int (0 : Int32)), (.int (3 : Int32)), (.int (0 : Int32)), (.int (4 : Int32))] below meth c s₁ [] 0 0 := Stand.of_body Bd
  have e0 : s₁.heap = h0 := by rw [← hh, Bd.state]; rfl
  have N0 := Fr.nil n0
  show Goes p e below s FrameEnd ({ frames := 1, cells := 0, slots := 0, locals := 20 } : Room).cells ({ frames := 1, cells := 0, slots := 0, locals := 20 } : Room).slots (Q_rm_vh3 Z tt kt y1 y2 y3 h0 n0) s₁ (entryFrame m #[(.ref tt), (.int (0 : Int32)), (.int (3 : Int32)), (.int (0 : Int32)), (.int (4 : Int32))] 5)
  refine Goes.cast (ef_rm_vh3 m tt (0 : Int32) (3 : Int32) (0 : Int32) (4 : Int32)) ?_
  refine Goes.to (T' := s₁) (mkF m 2 #[.val (.ref tt), .val (.int (0 : Int32)), .val (.int (3 : Int32)), .val (.int (0 : Int32)), .val (.int (4 : Int32))] [(.int (4 : Int32))]) (fun t k => XS.iload X0.here hx rfl (hb hby d15_0) rfl k) ?_
  refine Goes.to (T' := s₁) (mkF m 44 #[.val (.ref tt), .val (.int (0 : Int32)), .val (.int (3 : Int32)), .val (.int (0 : Int32)), .val (.int (4 : Int32))] []) (fun t k => X0.tableswitchIn hx (g := (mkF m 2 #[.val (.ref tt), .val (.int (0 : Int32)), .val (.int (3 : Int32)), .val (.int (0 : Int32)), .val (.int (4 : Int32))] [(.int (4 : Int32))])) rfl (k := (4 : Int32)) rfl (hb hby d15_2) (by decide) (off := 42) (by decide) (by show (0 : Int) ≤ ((2 : Nat) : Int) + (42); decide) _ k) ?_
  refine Goes.to (T' := s₁) (mkF m 45 #[.val (.ref tt), .val (.int (0 : Int32)), .val (.int (3 : Int32)), .val (.int (0 : Int32)), .val (.int (4 : Int32))] [(.int (0 : Int32))]) (fun t k => XS.iloadN X0.here hx rfl (hb hby d15_44) rfl k) ?_
  refine Goes.to (T' := s₁) (mkF m 46 #[.val (.ref tt), .val (.int (0 : Int32)), .val (.int (3 : Int32)), .val (.int (0 : Int32)), .val (.int (4 : Int32))] [(.ref tt), (.int (0 : Int32))]) (fun t k => XS.aloadN X0.here hx rfl (hb hby d15_45) rfl rfl k) ?_
  obtain ⟨T1, X1, e1, st1⟩ := castY X0 hx hZ hown (hw _ (List.mem_of_getElem? (i := 92) rfl)) e0 (Ins.self E_tt) (g := (mkF m 46 #[.val (.ref tt), .val (.int (0 : Int32)), .val (.int (3 : Int32)), .val (.int (0 : Int32)), .val (.int (4 : Int32))] [(.ref tt), (.int (0 : Int32))])) rfl rfl (hb hby d15_46)
  refine Goes.to (T' := T1) (mkF m 49 #[.val (.ref tt), .val (.int (0 : Int32)), .val (.int (3 : Int32)), .val (.int (0 : Int32)), .val (.int (4 : Int32))] [(.ref tt), (.int (0 : Int32))]) st1 ?_
  refine Goes.to (T' := T1) (mkF m 50 #[.val (.ref tt), .val (.int (0 : Int32)), .val (.int (3 : Int32)), .val (.int (0 : Int32)), .val (.int (4 : Int32))] [(.int (0 : Int32)), (.ref tt), (.int (0 : Int32))]) (fun t k => XS.iloadN X1.here hx rfl (hb hby d15_49) rfl k) ?_
  refine Goes.to (T' := T1) (mkF m 51 #[.val (.ref tt), .val (.int (0 : Int32)), .val (.int (3 : Int32)), .val (.int (0 : Int32)), .val (.int (4 : Int32))] [(.int (3 : Int32)), (.int (0 : Int32)), (.ref tt), (.int (0 : Int32))]) (fun t k => XS.iloadN X1.here hx rfl (hb hby d15_50) rfl k) ?_
  obtain ⟨_, _, ⟨T2, L2, k2, n2⟩, -, X2, ⟨Lc2, hQ2, l2, y2, z2⟩, st2⟩ := Jvm.LawKit.callS X1 hx (y := (⟨"jdk/internal/util/ArraysSupport", "signedHashCode", "(I[BII)I"⟩ : MethodName)) hown (mvT hZ (hw _ (List.mem_of_getElem? (i := 94) rfl))) (mvT hZ (hw _ (List.mem_of_getElem? (i := 95) rfl))) (mvT hZ (hw _ (List.mem_of_getElem? (i := 90) rfl))) (mvT hZ (hw _ (List.mem_of_getElem? (i := 96) rfl))) (by decide) (backOf (W := 0) (rm_sh3 l Z a0 hw [] tt kt y1 y2 y3 h0 n0 O V_tt) hZ (hw _ (List.mem_of_getElem? (i := 96) rfl)) (hw _ (List.mem_of_getElem? (i := 90) rfl)) (by decide) (by decide)) (g := (mkF m 51 #[.val (.ref tt), .val (.int (0 : Int32)), .val (.int (3 : Int32)), .val (.int (0 : Int32)), .val (.int (4 : Int32))] [(.int (3 : Int32)), (.int (0 : Int32)), (.ref tt), (.int (0 : Int32))])) rfl (by rw [hml]; rfl) (argsL := [(.int (0 : Int32)), (.ref tt), (.int (0 : Int32)), (.int (3 : Int32))]) (rest := []) (lenOf pd_2 rfl) rfl (by show 2 * 0 + _ ≤ _; exact Nat.le_of_eq rfl) (hb hby d15_51) (fun _ _ => ⟨rfl, e1, (by decide : 0 + 0 ≤ _), (by decide : 0 + 0 ≤ _)⟩)
  dsimp only [Pt.U, Pt.locs, Pt.cells, Pt.slots] at X2 l2 y2 z2 st2 hQ2
  subst l2 y2 z2
  obtain ⟨⟨r2, rfl⟩, N2, hs2⟩ := hQ2
  have N2' := Fr.app N0 N2
  refine Goes.to (T' := T2) (mkF m 54 #[.val (.ref tt), .val (.int (0 : Int32)), .val (.int (3 : Int32)), .val (.int (0 : Int32)), .val (.int (4 : Int32))] [(.int r2)]) (fun t k => st2 t k) ?_
  refine Goes.to (T' := T2) (mkF m 157 #[.val (.ref tt), .val (.int (0 : Int32)), .val (.int (3 : Int32)), .val (.int (0 : Int32)), .val (.int (4 : Int32))] [(.int r2)]) (fun t k => XS.goto X2.here hx rfl (pc0 := 54) (pc' := 157) rfl (hb hby d15_54) (by decide) (by decide) k) ?_
  refine Goes.retI X2 hx Bd.notSynchronized Bd.returns (hb hby d15_157) (by decide) (by decide) ?_
  rw [hs2]
  exact ⟨⟨_, rfl⟩, N2', rfl⟩
theorem pn_java_lang_StringLatin1 : plainName "java/lang/StringLatin1" = true := by first | (simp [plainName, overriddenIn]; done) | decide +kernel
theorem ef_rm_lh (m : MethodId) (x0 : Addr) : entryFrame m #[(.ref x0)] 1 = mkF m 0 #[.val (.ref x0)] [] := by first | (simp [entryFrame, mkF, argsToLocals, Value.category]; done) | rfl
def Q_rm_lh (Z : State) (tt : Addr) (kt : ClassId) (N2 : Int32) (vs : List Value) (cs : List Int32) (h0 : Heap) (n0 : Nat) (v : Option Value) (h : Heap) (L : List Loc) : Prop := (∃ r : Int32, v = some (.int r)) ∧ Fr n0 L ∧ h = h0
theorem d9_0 : decode jdk_43_method_21_code 0 = .ok (.aload_n 0, 1) := by decide +kernel
theorem d9_1 : decode jdk_43_method_21_code 1 = .ok (.arraylength, 1) := by decide +kernel
theorem d9_2 : decode jdk_43_method_21_code 2 = .ok (.lookupswitch 40 #[(0, 26), (1, 30)], 26) := by decide +kernel
theorem d9_28 : decode jdk_43_method_21_code 28 = .ok (.iconst 0, 1) := by decide +kernel
theorem d9_29 : decode jdk_43_method_21_code 29 = .ok (.goto 22, 3) := by decide +kernel
theorem d9_51 : decode jdk_43_method_21_code 51 = .ok (.ireturn, 1) := by decide +kernel
theorem d9_32 : decode jdk_43_method_21_code 32 = .ok (.aload_n 0, 1) := by decide +kernel
theorem d9_33 : decode jdk_43_method_21_code 33 = .ok (.iconst 0, 1) := by decide +kernel
theorem d9_34 : decode jdk_43_method_21_code 34 = .ok (.baload, 1) := by decide +kernel
theorem d9_35 : decode jdk_43_method_21_code 35 = .ok (.sipush 255, 3) := by decide +kernel
theorem d9_38 : decode jdk_43_method_21_code 38 = .ok (.iand, 1) := by decide +kernel
theorem d9_39 : decode jdk_43_method_21_code 39 = .ok (.goto 12, 3) := by decide +kernel
theorem d9_42 : decode jdk_43_method_21_code 42 = .ok (.aload_n 0, 1) := by decide +kernel
theorem d9_43 : decode jdk_43_method_21_code 43 = .ok (.iconst 0, 1) := by decide +kernel
theorem d9_44 : decode jdk_43_method_21_code 44 = .ok (.aload_n 0, 1) := by decide +kernel
theorem d9_45 : decode jdk_43_method_21_code 45 = .ok (.arraylength, 1) := by decide +kernel
theorem d9_46 : decode jdk_43_method_21_code 46 = .ok (.iconst 0, 1) := by decide +kernel
theorem d9_47 : decode jdk_43_method_21_code 47 = .ok (.iconst 4, 1) := by decide +kernel
theorem d9_48 : decode jdk_43_method_21_code 48 = .ok (.invokestatic 84, 3) := by decide +kernel
theorem pd_3 : parseMethodDescriptor "(Ljava/lang/Object;IIII)I" = some ⟨[(.object "java/lang/Object"), .int, .int, .int, .int], some .int⟩ := by decide +kernel
set_option maxRecDepth 65536 in
set_option maxHeartbeats 40000000 in
theorem rm_lh (l : Launch) (Z : State) (a0 : Array Value) (hw : ∀ d ∈ tables_1, d.before a0 Z = true) (ws : List Jvm.Cond) (tt : Addr) (kt : ClassId) (N2 : Int32) (vs : List Value) (cs : List Int32) (h0 : Heap) (n0 : Nat) (O : Old Z n0 h0) (V_tt : Arv Z h0 tt kt .byte N2 vs (.int 0)) (hcd : StrChars.Road.CodA cs 0 N2 vs) (hl : cs.length ≤ 3) (hE : ¬ cs = [] → Exa Z h0 tt "[B") :
    MetFree l (⟨"java/lang/StringLatin1", "hashCode", "([B)I"⟩ : MethodName) (head1 (Jvm.Cond.code (⟨"java/lang/StringLatin1", "hashCode", "([B)I"⟩ : MethodName) jdk_43_method_21_code 1 (some .int) :: ws) ({ frames := 2, cells := 0, slots := 0, locals := 40 } : Room)) (fun aa U => aa = #[(.ref tt)] ∧ Z.Warmed39 U.vm ∧ U.heap = h0) (fun _ _ _ _ _ => True) (fun _ U o U' => ∃ v L, o = .returned v ∧ Q_rm_lh Z tt kt N2 vs cs h0 n0 v U'.heap L ∧ FrameEnd U o U' L ({ frames := 2, cells := 0, slots := 0, locals := 40 } : Room).cells ({ frames := 2, cells := 0, slots := 0, locals := 40 } : Room).slots) := by
  refine MetFree.of_bodySF (plainFor_of_name pn_java_lang_StringLatin1) hisR ?_
  intro p e s m args below meth c s₁ Bd hml0 hP hK
  obtain ⟨rfl, hZ, hh⟩ := hP
  have hx := Bd.exec
  have hby := Bd.bytes
  have hml : c.maxLocals = 1 := hml0
  have hown : s.vm.findClass "java/lang/StringLatin1" = some m.cls := findClass_of_methodNamed Bd.named
  have hnm := (name_of_methodNamed Bd.named Bd.method).1
  have X0 : Stand p l e ({ frames := 2, cells := 0, slots := 0, locals := 40 } : Room) s m #[(.ref tt)] below meth c s₁ [] 0 0 := Stand.of_body Bd
  have e0 : s₁.heap = h0 := by rw [← hh, Bd.state]; rfl
  have N0 := Fr.nil n0
  show Goes p e below s FrameEnd ({ frames := 2, cells := 0, slots := 0, locals := 40 } : Room).cells ({ frames := 2, cells := 0, slots := 0, locals := 40 } : Room).slots (Q_rm_lh Z tt kt N2 vs cs h0 n0) s₁ (entryFrame m #[(.ref tt)] 1)
  refine Goes.cast (ef_rm_lh m tt) ?_
  rcases hcd with ⟨-, rfl, rfl, -⟩ | ⟨q, -⟩
  case inr => exact absurd q (by decide)
  rcases own_len3 hl with rfl | ⟨y1, rfl⟩ | ⟨y1, y2, rfl⟩ | ⟨y1, y2, y3, rfl⟩
  · have V_tt : Arv Z h0 tt kt .byte (0 : Int32) [] (.int 0) := V_tt
    refine Goes.to (T' := s₁) (mkF m 1 #[.val (.ref tt)] [(.ref tt)]) (fun t k => XS.aloadN X0.here hx rfl (hb hby d9_0) rfl rfl k) ?_
    have V'_tt := V_tt
    obtain ⟨cl1, Ar1, -, S1, M1, -, -⟩ := V'_tt
    refine Goes.to (T' := s₁) (mkF m 2 #[.val (.ref tt)] [(.int (0 : Int32))]) (fun t k => X0.arraylength hx (by rw [e0]; exact Ar1.1) (State.isArrayOf_alike hZ.alike Ar1.2.1) (g := (mkF m 1 #[.val (.ref tt)] [(.ref tt)])) rfl rfl (hb hby d9_1) _ (by rw [len_of S1 M1]; exact k)) ?_
    refine Goes.to (T' := s₁) (mkF m 28 #[.val (.ref tt)] []) (fun t k => X0.lookupswitchHit hx (g := (mkF m 2 #[.val (.ref tt)] [(.int (0 : Int32))])) rfl (k := (0 : Int32)) rfl (hb hby d9_2) (by decide) (a := 0) (off := 26) (by decide) (by show (0 : Int) ≤ ((2 : Nat) : Int) + (26); decide) _ k) ?_
    refine Goes.to (T' := s₁) (mkF m 29 #[.val (.ref tt)] [(.int (0 : Int32))]) (fun t k => XS.iconst X0.here hx rfl (hb hby d9_28) k) ?_
    refine Goes.to (T' := s₁) (mkF m 51 #[.val (.ref tt)] [(.int (0 : Int32))]) (fun t k => XS.goto X0.here hx rfl (pc0 := 29) (pc' := 51) rfl (hb hby d9_29) (by decide) (by decide) k) ?_
    refine Goes.retI X0 hx Bd.notSynchronized Bd.returns (hb hby d9_51) (by decide) (by decide) ?_
    rw [e0]
    exact ⟨⟨_, rfl⟩, N0, rfl⟩
  · have V_tt : Arv Z h0 tt kt .byte (1 : Int32) [(.int (StrChars.lo8 y1))] (.int 0) := V_tt
    have E_tt := hE (by simp)
    refine Goes.to (T' := s₁) (mkF m 1 #[.val (.ref tt)] [(.ref tt)]) (fun t k => XS.aloadN X0.here hx rfl (hb hby d9_0) rfl rfl k) ?_
    have V'_tt := V_tt
    obtain ⟨cl2, Ar2, -, S2, M2, -, -⟩ := V'_tt
    refine Goes.to (T' := s₁) (mkF m 2 #[.val (.ref tt)] [(.int (1 : Int32))]) (fun t k => X0.arraylength hx (by rw [e0]; exact Ar2.1) (State.isArrayOf_alike hZ.alike Ar2.2.1) (g := (mkF m 1 #[.val (.ref tt)] [(.ref tt)])) rfl rfl (hb hby d9_1) _ (by rw [len_of S2 M2]; exact k)) ?_
    refine Goes.to (T' := s₁) (mkF m 32 #[.val (.ref tt)] []) (fun t k => X0.lookupswitchHit hx (g := (mkF m 2 #[.val (.ref tt)] [(.int (1 : Int32))])) rfl (k := (1 : Int32)) rfl (hb hby d9_2) (by decide) (a := 1) (off := 30) (by decide) (by show (0 : Int) ≤ ((2 : Nat) : Int) + (30); decide) _ k) ?_
    refine Goes.to (T' := s₁) (mkF m 33 #[.val (.ref tt)] [(.ref tt)]) (fun t k => XS.aloadN X0.here hx rfl (hb hby d9_32) rfl rfl k) ?_
    refine Goes.to (T' := s₁) (mkF m 34 #[.val (.ref tt)] [(.int (0 : Int32)), (.ref tt)]) (fun t k => XS.iconst X0.here hx rfl (hb hby d9_33) k) ?_
    have V'_tt := V_tt
    obtain ⟨cl3, Ar3, -, S3, M3, H3, -⟩ := V'_tt
    have hin3 : ¬ ((0 : Int32) < 0 ∨ cl3.slots.size ≤ ((0 : Int32)).toNatClampNeg) := inb_of S3 ⟨by decide, by decide⟩
    have hat3 : cl3.slots[((0 : Int32)).toNatClampNeg]? = some (.int (StrChars.lo8 y1)) := H3.at hin3 rfl
    refine Goes.to (T' := s₁) (mkF m 35 #[.val (.ref tt)] [(.int (StrChars.lo8 y1))]) (fun t k => X0.baloadBytes hx (j := (0 : Int32)) (v := (.int (StrChars.lo8 y1))) (by rw [e0]; exact Ar3.1) (State.isArrayOf_alike hZ.alike Ar3.2.1) Ar3.2.2 hin3 hat3 (g := (mkF m 34 #[.val (.ref tt)] [(.int (0 : Int32)), (.ref tt)])) rfl rfl (hb hby d9_34) _ k) ?_
    refine Goes.to (T' := s₁) (mkF m 38 #[.val (.ref tt)] [(.int (255 : Int32)), (.int (StrChars.lo8 y1))]) (fun t k => XS.sipush X0.here hx rfl (hb hby d9_35) k) ?_
    refine Goes.to (T' := s₁) (mkF m 39 #[.val (.ref tt)] [(.int ((StrChars.lo8 y1) &&& (255 : Int32)))]) (fun t k => XS.iand X0.here hx rfl (hb hby d9_38) rfl k) ?_
    refine Goes.to (T' := s₁) (mkF m 51 #[.val (.ref tt)] [(.int ((StrChars.lo8 y1) &&& (255 : Int32)))]) (fun t k => XS.goto X0.here hx rfl (pc0 := 39) (pc' := 51) rfl (hb hby d9_39) (by decide) (by decide) k) ?_
    refine Goes.retI X0 hx Bd.notSynchronized Bd.returns (hb hby d9_51) (by decide) (by decide) ?_
    rw [e0]
    exact ⟨⟨_, rfl⟩, N0, rfl⟩
  · have V_tt : Arv Z h0 tt kt .byte (2 : Int32) [(.int (StrChars.lo8 y1)), (.int (StrChars.lo8 y2))] (.int 0) := V_tt
    have E_tt := hE (by simp)
    refine Goes.to (T' := s₁) (mkF m 1 #[.val (.ref tt)] [(.ref tt)]) (fun t k => XS.aloadN X0.here hx rfl (hb hby d9_0) rfl rfl k) ?_
    have V'_tt := V_tt
    obtain ⟨cl4, Ar4, -, S4, M4, -, -⟩ := V'_tt
    refine Goes.to (T' := s₁) (mkF m 2 #[.val (.ref tt)] [(.int (2 : Int32))]) (fun t k => X0.arraylength hx (by rw [e0]; exact Ar4.1) (State.isArrayOf_alike hZ.alike Ar4.2.1) (g := (mkF m 1 #[.val (.ref tt)] [(.ref tt)])) rfl rfl (hb hby d9_1) _ (by rw [len_of S4 M4]; exact k)) ?_
    refine Goes.to (T' := s₁) (mkF m 42 #[.val (.ref tt)] []) (fun t k => X0.lookupswitchMiss hx (g := (mkF m 2 #[.val (.ref tt)] [(.int (2 : Int32))])) rfl (k := (2 : Int32)) rfl (hb hby d9_2) (by decide) (by decide) (by show (0 : Int) ≤ ((2 : Nat) : Int) + (40); decide) _ k) ?_
    refine Goes.to (T' := s₁) (mkF m 43 #[.val (.ref tt)] [(.ref tt)]) (fun t k => XS.aloadN X0.here hx rfl (hb hby d9_42) rfl rfl k) ?_
    refine Goes.to (T' := s₁) (mkF m 44 #[.val (.ref tt)] [(.int (0 : Int32)), (.ref tt)]) (fun t k => XS.iconst X0.here hx rfl (hb hby d9_43) k) ?_
    refine Goes.to (T' := s₁) (mkF m 45 #[.val (.ref tt)] [(.ref tt), (.int (0 : Int32)), (.ref tt)]) (fun t k => XS.aloadN X0.here hx rfl (hb hby d9_44) rfl rfl k) ?_
    have V'_tt := V_tt
    obtain ⟨cl5, Ar5, -, S5, M5, -, -⟩ := V'_tt
    refine Goes.to (T' := s₁) (mkF m 46 #[.val (.ref tt)] [(.int (2 : Int32)), (.int (0 : Int32)), (.ref tt)]) (fun t k => X0.arraylength hx (by rw [e0]; exact Ar5.1) (State.isArrayOf_alike hZ.alike Ar5.2.1) (g := (mkF m 45 #[.val (.ref tt)] [(.ref tt), (.int (0 : Int32)), (.ref tt)])) rfl rfl (hb hby d9_45) _ (by rw [len_of S5 M5]; exact k)) ?_
    refine Goes.to (T' := s₁) (mkF m 47 #[.val (.ref tt)] [(.int (0 : Int32)), (.int (2 : Int32)), (.int (0 : Int32)), (.ref tt)]) (fun t k => XS.iconst X0.here hx rfl (hb hby d9_46) k) ?_
    refine Goes.to (T' := s₁) (mkF m 48 #[.val (.ref tt)] [(.int (4 : Int32)), (.int (0 : Int32)), (.int (2 : Int32)), (.int (0 : Int32)), (.ref tt)]) (fun t k => XS.iconst X0.here hx rfl (hb hby d9_47) k) ?_
    obtain ⟨_, _, ⟨T6, L6, k6, n6⟩, -, X6, ⟨Lc6, hQ6, l6, y6, z6⟩, st6⟩ := Jvm.LawKit.callS X0 hx (y := (⟨"jdk/internal/util/ArraysSupport", "vectorizedHashCode", "(Ljava/lang/Object;IIII)I"⟩ : MethodName)) hown (mvT hZ (hw _ (List.mem_of_getElem? (i := 88) rfl))) (mvT hZ (hw _ (List.mem_of_getElem? (i := 89) rfl))) (mvT hZ (hw _ (List.mem_of_getElem? (i := 90) rfl))) (mvT hZ (hw _ (List.mem_of_getElem? (i := 91) rfl))) (by decide) (backOf (W := 0) (rm_vh2 l Z a0 hw [] tt kt y1 y2 h0 n0 O V_tt E_tt) hZ (hw _ (List.mem_of_getElem? (i := 91) rfl)) (hw _ (List.mem_of_getElem? (i := 90) rfl)) (by decide) (by decide)) (g := (mkF m 48 #[.val (.ref tt)] [(.int (4 : Int32)), (.int (0 : Int32)), (.int (2 : Int32)), (.int (0 : Int32)), (.ref tt)])) rfl (by rw [hml]; rfl) (argsL := [(.ref tt), (.int (0 : Int32)), (.int (2 : Int32)), (.int (0 : Int32)), (.int (4 : Int32))]) (rest := []) (lenOf pd_3 rfl) rfl (by show 2 * 0 + _ ≤ _; exact Nat.le_of_eq rfl) (hb hby d9_48) (fun _ _ => ⟨rfl, e0, (by decide : 0 + 0 ≤ _), (by decide : 0 + 0 ≤ _)⟩)
    dsimp only [Pt.U, Pt.locs, Pt.cells, Pt.slots] at X6 l6 y6 z6 st6 hQ6
    subst l6 y6 z6
    obtain ⟨⟨r6, rfl⟩, N6, hs6⟩ := hQ6
    have N6' := Fr.app N0 N6
    refine Goes.to (T' := T6) (mkF m 51 #[.val (.ref tt)] [(.int r6)]) (fun t k => st6 t k) ?_
    refine Goes.retI X6 hx Bd.notSynchronized Bd.returns (hb hby d9_51) (by decide) (by decide) ?_
    rw [hs6]
    exact ⟨⟨_, rfl⟩, N6', rfl⟩
  · have V_tt : Arv Z h0 tt kt .byte (3 : Int32) [(.int (StrChars.lo8 y1)), (.int (StrChars.lo8 y2)), (.int (StrChars.lo8 y3))] (.int 0) := V_tt
    have E_tt := hE (by simp)
    refine Goes.to (T' := s₁) (mkF m 1 #[.val (.ref tt)] [(.ref tt)]) (fun t k => XS.aloadN X0.here hx rfl (hb hby d9_0) rfl rfl k) ?_
    have V'_tt := V_tt
    obtain ⟨cl7, Ar7, -, S7, M7, -, -⟩ := V'_tt
    refine Goes.to (T' := s₁) (mkF m 2 #[.val (.ref tt)] [(.int (3 : Int32))]) (fun t k => X0.arraylength hx (by rw [e0]; exact Ar7.1) (State.isArrayOf_alike hZ.alike Ar7.2.1) (g := (mkF m 1 #[.val (.ref tt)] [(.ref tt)])) rfl rfl (hb hby d9_1) _ (by rw [len_of S7 M7]; exact k)) ?_
    refine Goes.to (T' := s₁) (mkF m 42 #[.val (.ref tt)] []) (fun t k => X0.lookupswitchMiss hx (g := (mkF m 2 #[.val (.ref tt)] [(.int (3 : Int32))])) rfl (k := (3 : Int32)) rfl (hb hby d9_2) (by decide) (by decide) (by show (0 : Int) ≤ ((2 : Nat) : Int) + (40); decide) _ k) ?_
    refine Goes.to (T' := s₁) (mkF m 43 #[.val (.ref tt)] [(.ref tt)]) (fun t k => XS.aloadN X0.here hx rfl (hb hby d9_42) rfl rfl k) ?_
    refine Goes.to (T' := s₁) (mkF m 44 #[.val (.ref tt)] [(.int (0 : Int32)), (.ref tt)]) (fun t k => XS.iconst X0.here hx rfl (hb hby d9_43) k) ?_
    refine Goes.to (T' := s₁) (mkF m 45 #[.val (.ref tt)] [(.ref tt), (.int (0 : Int32)), (.ref tt)]) (fun t k => XS.aloadN X0.here hx rfl (hb hby d9_44) rfl rfl k) ?_
    have V'_tt := V_tt
    obtain ⟨cl8, Ar8, -, S8, M8, -, -⟩ := V'_tt
    refine Goes.to (T' := s₁) (mkF m 46 #[.val (.ref tt)] [(.int (3 : Int32)), (.int (0 : Int32)), (.ref tt)]) (fun t k => X0.arraylength hx (by rw [e0]; exact Ar8.1) (State.isArrayOf_alike hZ.alike Ar8.2.1) (g := (mkF m 45 #[.val (.ref tt)] [(.ref tt), (.int (0 : Int32)), (.ref tt)])) rfl rfl (hb hby d9_45) _ (by rw [len_of S8 M8]; exact k)) ?_
    refine Goes.to (T' := s₁) (mkF m 47 #[.val (.ref tt)] [(.int (0 : Int32)), (.int (3 : Int32)), (.int (0 : Int32)), (.ref tt)]) (fun t k => XS.iconst X0.here hx rfl (hb hby d9_46) k) ?_
    refine Goes.to (T' := s₁) (mkF m 48 #[.val (.ref tt)] [(.int (4 : Int32)), (.int (0 : Int32)), (.int (3 : Int32)), (.int (0 : Int32)), (.ref tt)]) (fun t k => XS.iconst X0.here hx rfl (hb hby d9_47) k) ?_
    obtain ⟨_, _, ⟨T9, L9, k9, n9⟩, -, X9, ⟨Lc9, hQ9, l9, y9, z9⟩, st9⟩ := Jvm.LawKit.callS X0 hx (y := (⟨"jdk/internal/util/ArraysSupport", "vectorizedHashCode", "(Ljava/lang/Object;IIII)I"⟩ : MethodName)) hown (mvT hZ (hw _ (List.mem_of_getElem? (i := 88) rfl))) (mvT hZ (hw _ (List.mem_of_getElem? (i := 89) rfl))) (mvT hZ (hw _ (List.mem_of_getElem? (i := 90) rfl))) (mvT hZ (hw _ (List.mem_of_getElem? (i := 91) rfl))) (by decide) (backOf (W := 0) (rm_vh3 l Z a0 hw [] tt kt y1 y2 y3 h0 n0 O V_tt E_tt) hZ (hw _ (List.mem_of_getElem? (i := 91) rfl)) (hw _ (List.mem_of_getElem? (i := 90) rfl)) (by decide) (by decide)) (g := (mkF m 48 #[.val (.ref tt)] [(.int (4 : Int32)), (.int (0 : Int32)), (.int (3 : Int32)), (.int (0 : Int32)), (.ref tt)])) rfl (by rw [hml]; rfl) (argsL := [(.ref tt), (.int (0 : Int32)), (.int (3 : Int32)), (.int (0 : Int32)), (.int (4 : Int32))]) (rest := []) (lenOf pd_3 rfl) rfl (by show 2 * 0 + _ ≤ _; exact Nat.le_of_eq rfl) (hb hby d9_48) (fun _ _ => ⟨rfl, e0, (by decide : 0 + 0 ≤ _), (by decide : 0 + 0 ≤ _)⟩)
    dsimp only [Pt.U, Pt.locs, Pt.cells, Pt.slots] at X9 l9 y9 z9 st9 hQ9
    subst l9 y9 z9
    obtain ⟨⟨r9, rfl⟩, N9, hs9⟩ := hQ9
    have N9' := Fr.app N0 N9
    refine Goes.to (T' := T9) (mkF m 51 #[.val (.ref tt)] [(.int r9)]) (fun t k => st9 t k) ?_
    refine Goes.retI X9 hx Bd.notSynchronized Bd.returns (hb hby d9_51) (by decide) (by decide) ?_
    rw [hs9]
    exact ⟨⟨_, rfl⟩, N9', rfl⟩
theorem ef_rm_isl (m : MethodId) (x0 : Addr) : entryFrame m #[(.ref x0)] 1 = mkF m 0 #[.val (.ref x0)] [] := by first | (simp [entryFrame, mkF, argsToLocals, Value.category]; done) | rfl
def Q_rm_isl (Z : State) (a : Addr) (cz : Int32) (h0 : Heap) (n0 : Nat) (v : Option Value) (h : Heap) (L : List Loc) : Prop := v = some (.int 1) ∧ Fr n0 L ∧ h = h0
theorem d8_0 : decode jdk_42_method_154_code 0 = .ok (.getstatic 38, 3) := by decide +kernel
theorem d8_3 : decode jdk_42_method_154_code 3 = .ok (.ifCond .eq 14, 3) := by decide +kernel
theorem d8_6 : decode jdk_42_method_154_code 6 = .ok (.aload_n 0, 1) := by decide +kernel
theorem d8_7 : decode jdk_42_method_154_code 7 = .ok (.getfield 15, 3) := by decide +kernel
theorem d8_10 : decode jdk_42_method_154_code 10 = .ok (.ifCond .ne 7, 3) := by decide +kernel
theorem d8_13 : decode jdk_42_method_154_code 13 = .ok (.iconst 1, 1) := by decide +kernel
theorem d8_14 : decode jdk_42_method_154_code 14 = .ok (.goto 4, 3) := by decide +kernel
theorem d8_18 : decode jdk_42_method_154_code 18 = .ok (.ireturn, 1) := by decide +kernel
set_option maxRecDepth 65536 in
set_option maxHeartbeats 40000000 in
theorem rm_isl (l : Launch) (Z : State) (a0 : Array Value) (hw : ∀ d ∈ tables_1, d.before a0 Z = true) (ws : List Jvm.Cond) (a : Addr) (cz : Int32) (h0 : Heap) (n0 : Nat) (O : Old Z n0 h0) (F_c : Fld Z h0 a "java/lang/String" "coder" "B" (.int 0)) (S_CS : Sta Z Z.heap "java/lang/String" "COMPACT_STRINGS" "Z" (.int cz)) (hcz : ¬ cz = 0) :
    MetFree l (⟨"java/lang/String", "isLatin1", "()Z"⟩ : MethodName) (head1 (Jvm.Cond.code (⟨"java/lang/String", "isLatin1", "()Z"⟩ : MethodName) jdk_42_method_154_code 1 (some .boolean) :: ws) ({ frames := 0, cells := 0, slots := 0, locals := 0 } : Room)) (fun aa U => aa = #[(.ref a)] ∧ Z.Warmed39 U.vm ∧ U.heap = h0) (fun _ _ _ _ _ => True) (fun _ U o U' => ∃ v L, o = .returned v ∧ Q_rm_isl Z a cz h0 n0 v U'.heap L ∧ FrameEnd U o U' L ({ frames := 0, cells := 0, slots := 0, locals := 0 } : Room).cells ({ frames := 0, cells := 0, slots := 0, locals := 0 } : Room).slots) := by
  refine MetFree.of_bodySF (plainFor_of_name pn_java_lang_String) hisR ?_
  intro p e s m args below meth c s₁ Bd hml0 hP hK
  obtain ⟨rfl, hZ, hh⟩ := hP
  have hx := Bd.exec
  have hby := Bd.bytes
  have hml : c.maxLocals = 1 := hml0
  have hown : s.vm.findClass "java/lang/String" = some m.cls := findClass_of_methodNamed Bd.named
  have hnm := (name_of_methodNamed Bd.named Bd.method).1
  have X0 : Stand p l e ({ frames := 0, cells := 0, slots := 0, locals := 0 } : Room) s m #[(.ref a)] below meth c s₁ [] 0 0 := Stand.of_body Bd
  have e0 : s₁.heap = h0 := by rw [← hh, Bd.state]; rfl
  have N0 := Fr.nil n0
  show Goes p e below s FrameEnd ({ frames := 0, cells := 0, slots := 0, locals := 0 } : Room).cells ({ frames := 0, cells := 0, slots := 0, locals := 0 } : Room).slots (Q_rm_isl Z a cz h0 n0) s₁ (entryFrame m #[(.ref a)] 1)
  refine Goes.cast (ef_rm_isl m a) ?_
  obtain ⟨T1, X1, e1, st1⟩ := getS2 X0 hx hZ hown (host := "") (Or.inl (hw _ (List.mem_of_getElem? (i := 57) rfl))) Via.refl e0 (S_CS.ext O.2) (g := (mkF m 0 #[.val (.ref a)] [])) rfl (hb hby d8_0)
  refine Goes.to (T' := T1) (mkF m 3 #[.val (.ref a)] [(.int cz)]) st1 ?_
  refine Goes.to (T' := T1) (mkF m 6 #[.val (.ref a)] []) (fun t k => XS.ifNo X1.here hx rfl (hb hby d8_3) rfl ((if0 _ _).trans (feq (hcz : ¬ (cz = (0 : Int32)))).1) k) ?_
  refine Goes.to (T' := T1) (mkF m 7 #[.val (.ref a)] [(.ref a)]) (fun t k => XS.aloadN X1.here hx rfl (hb hby d8_6) rfl rfl k) ?_
  obtain ⟨T2, X2, e2, st2⟩ := getF X1 hx hZ hown (host := "") (Or.inl (hw _ (List.mem_of_getElem? (i := 25) rfl))) Via.refl e1 F_c (g := (mkF m 7 #[.val (.ref a)] [(.ref a)])) rfl rfl (hb hby d8_7)
  refine Goes.to (T' := T2) (mkF m 10 #[.val (.ref a)] [(.int (0 : Int32))]) st2 ?_
  refine Goes.to (T' := T2) (mkF m 13 #[.val (.ref a)] []) (fun t k => XS.ifNo X2.here hx rfl (hb hby d8_10) rfl ((if0 _ _).trans (teq ((by decide) : (0 : Int32) = (0 : Int32))).2) k) ?_
  refine Goes.to (T' := T2) (mkF m 14 #[.val (.ref a)] [(.int (1 : Int32))]) (fun t k => XS.iconst X2.here hx rfl (hb hby d8_13) k) ?_
  refine Goes.to (T' := T2) (mkF m 18 #[.val (.ref a)] [(.int (1 : Int32))]) (fun t k => XS.goto X2.here hx rfl (pc0 := 14) (pc' := 18) rfl (hb hby d8_14) (by decide) (by decide) k) ?_
  refine Goes.retN X2 hx Bd.notSynchronized (t := .boolean) Bd.returns (by simp) (hb hby d8_18) (by decide) (by decide) ?_
  rw [e2]
  exact ⟨rfl, N0, rfl⟩
theorem ef_rm_hc (m : MethodId) (x0 : Addr) : entryFrame m #[(.ref x0)] 2 = mkF m 0 #[.val (.ref x0), .unset] [] := by first | (simp [entryFrame, mkF, argsToLocals, Value.category]; done) | rfl
def Q_rm_hc (Z : State) (a tt : Addr) (kt : ClassId) (N2 cz : Int32) (vs : List Value) (cs : List Int32) (h0 : Heap) (n0 : Nat) (v : Option Value) (h : Heap) (L : List Loc) : Prop := (∃ r : Int32, v = some (.int r)) ∧ Fr n0 L ∧ Keep h0 h [a] ∧ Fld Z h a "java/lang/String" "value" "[B" (.ref tt) ∧ Fld Z h a "java/lang/String" "coder" "B" (.int 0)
theorem d7_0 : decode jdk_42_method_78_code 0 = .ok (.aload_n 0, 1) := by decide +kernel
theorem d7_1 : decode jdk_42_method_78_code 1 = .ok (.getfield 19, 3) := by decide +kernel
theorem d7_4 : decode jdk_42_method_78_code 4 = .ok (.istore_n 1, 1) := by decide +kernel
theorem d7_5 : decode jdk_42_method_78_code 5 = .ok (.iload_n 1, 1) := by decide +kernel
theorem d7_6 : decode jdk_42_method_78_code 6 = .ok (.ifCond .ne 52, 3) := by decide +kernel
theorem d7_9 : decode jdk_42_method_78_code 9 = .ok (.aload_n 0, 1) := by decide +kernel
theorem d7_10 : decode jdk_42_method_78_code 10 = .ok (.getfield 23, 3) := by decide +kernel
theorem d7_13 : decode jdk_42_method_78_code 13 = .ok (.ifCond .ne 45, 3) := by decide +kernel
theorem d7_16 : decode jdk_42_method_78_code 16 = .ok (.aload_n 0, 1) := by decide +kernel
theorem d7_17 : decode jdk_42_method_78_code 17 = .ok (.invokevirtual 492, 3) := by decide +kernel
theorem pd_4 : parseMethodDescriptor "()Z" = some ⟨[], some .boolean⟩ := by decide +kernel
theorem d7_20 : decode jdk_42_method_78_code 20 = .ok (.ifCond .eq 13, 3) := by decide +kernel
theorem d7_23 : decode jdk_42_method_78_code 23 = .ok (.aload_n 0, 1) := by decide +kernel
theorem d7_24 : decode jdk_42_method_78_code 24 = .ok (.getfield 9, 3) := by decide +kernel
theorem d7_27 : decode jdk_42_method_78_code 27 = .ok (.invokestatic 628, 3) := by decide +kernel
theorem pd_5 : parseMethodDescriptor "([B)I" = some ⟨[(.array .byte)], some .int⟩ := by decide +kernel
theorem d7_30 : decode jdk_42_method_78_code 30 = .ok (.goto 10, 3) := by decide +kernel
theorem d7_40 : decode jdk_42_method_78_code 40 = .ok (.istore_n 1, 1) := by decide +kernel
theorem d7_41 : decode jdk_42_method_78_code 41 = .ok (.iload_n 1, 1) := by decide +kernel
theorem d7_42 : decode jdk_42_method_78_code 42 = .ok (.ifCond .ne 11, 3) := by decide +kernel
theorem d7_45 : decode jdk_42_method_78_code 45 = .ok (.aload_n 0, 1) := by decide +kernel
theorem d7_46 : decode jdk_42_method_78_code 46 = .ok (.iconst 1, 1) := by decide +kernel
theorem d7_47 : decode jdk_42_method_78_code 47 = .ok (.putfield 23, 3) := by decide +kernel
theorem d7_50 : decode jdk_42_method_78_code 50 = .ok (.goto 8, 3) := by decide +kernel
theorem d7_58 : decode jdk_42_method_78_code 58 = .ok (.iload_n 1, 1) := by decide +kernel
theorem d7_59 : decode jdk_42_method_78_code 59 = .ok (.ireturn, 1) := by decide +kernel
theorem d7_53 : decode jdk_42_method_78_code 53 = .ok (.aload_n 0, 1) := by decide +kernel
theorem d7_54 : decode jdk_42_method_78_code 54 = .ok (.iload_n 1, 1) := by decide +kernel
theorem d7_55 : decode jdk_42_method_78_code 55 = .ok (.putfield 19, 3) := by decide +kernel
set_option maxRecDepth 65536 in
set_option maxHeartbeats 40000000 in
theorem rm_hc (l : Launch) (Z : State) (a0 : Array Value) (hw : ∀ d ∈ tables_1, d.before a0 Z = true) (ws : List Jvm.Cond) (a tt : Addr) (kt : ClassId) (N2 cz : Int32) (vs : List Value) (cs : List Int32) (h0 : Heap) (n0 : Nat) (O : Old Z n0 h0) (E_a : Exa Z h0 a "java/lang/String") (F_value_a : Fld Z h0 a "java/lang/String" "value" "[B" (.ref tt)) (F_coder_a : Fld Z h0 a "java/lang/String" "coder" "B" (.int 0)) (F_hash_a : Fld Z h0 a "java/lang/String" "hash" "I" (.int 0)) (F_hashIsZero_a : Fld Z h0 a "java/lang/String" "hashIsZero" "Z" (.int 0)) (V_tt : Arv Z h0 tt kt .byte N2 vs (.int 0)) (hcd : StrChars.Road.CodA cs 0 N2 vs) (hl : cs.length ≤ 3) (hE : ¬ cs = [] → Exa Z h0 tt "[B") (g_a : n0 ≤ a) (S_CS : Sta Z Z.heap "java/lang/String" "COMPACT_STRINGS" "Z" (.int cz)) (hcz : ¬ cz = 0) :
    MetFree l (⟨"java/lang/String", "hashCode", "()I"⟩ : MethodName) (head1 (Jvm.Cond.code (⟨"java/lang/String", "hashCode", "()I"⟩ : MethodName) jdk_42_method_78_code 2 (some .int) :: ws) ({ frames := 3, cells := 0, slots := 0, locals := 60 } : Room)) (fun aa U => aa = #[(.ref a)] ∧ Z.Warmed39 U.vm ∧ U.heap = h0) (fun _ _ _ _ _ => True) (fun _ U o U' => ∃ v L, o = .returned v ∧ Q_rm_hc Z a tt kt N2 cz vs cs h0 n0 v U'.heap L ∧ FrameEnd U o U' L ({ frames := 3, cells := 0, slots := 0, locals := 60 } : Room).cells ({ frames := 3, cells := 0, slots := 0, locals := 60 } : Room).slots) := by
  refine MetFree.of_bodySF (plainFor_of_name pn_java_lang_String) hisR ?_
  intro p e s m args below meth c s₁ Bd hml0 hP hK
  obtain ⟨rfl, hZ, hh⟩ := hP
  have hx := Bd.exec
  have hby := Bd.bytes
  have hml : c.maxLocals = 2 := hml0
  have hown : s.vm.findClass "java/lang/String" = some m.cls := findClass_of_methodNamed Bd.named
  have hnm := (name_of_methodNamed Bd.named Bd.method).1
  have X0 : Stand p l e ({ frames := 3, cells := 0, slots := 0, locals := 60 } : Room) s m #[(.ref a)] below meth c s₁ [] 0 0 := Stand.of_body Bd
  have e0 : s₁.heap = h0 := by rw [← hh, Bd.state]; rfl
  have N0 := Fr.nil n0
  have K : Keep h0 h0 [a] := Keep.refl _ _
  show Goes p e below s FrameEnd ({ frames := 3, cells := 0, slots := 0, locals := 60 } : Room).cells ({ frames := 3, cells := 0, slots := 0, locals := 60 } : Room).slots (Q_rm_hc Z a tt kt N2 cz vs cs h0 n0) s₁ (entryFrame m #[(.ref a)] 2)
  refine Goes.cast (ef_rm_hc m a) ?_
  refine Goes.to (T' := s₁) (mkF m 1 #[.val (.ref a), .unset] [(.ref a)]) (fun t k => XS.aloadN X0.here hx rfl (hb hby d7_0) rfl rfl k) ?_
  obtain ⟨T1, X1, e1, st1⟩ := getF X0 hx hZ hown (host := "") (Or.inl (hw _ (List.mem_of_getElem? (i := 48) rfl))) Via.refl e0 F_hash_a (g := (mkF m 1 #[.val (.ref a), .unset] [(.ref a)])) rfl rfl (hb hby d7_1)
  refine Goes.to (T' := T1) (mkF m 4 #[.val (.ref a), .unset] [(.int (0 : Int32))]) st1 ?_
  refine Goes.to (T' := T1) (mkF m 5 #[.val (.ref a), .val (.int (0 : Int32))] []) (fun t k => XS.istoreN X1.here hx rfl (hb hby d7_4) rfl (l' := #[.val (.ref a), .val (.int (0 : Int32))]) rfl k) ?_
  refine Goes.to (T' := T1) (mkF m 6 #[.val (.ref a), .val (.int (0 : Int32))] [(.int (0 : Int32))]) (fun t k => XS.iloadN X1.here hx rfl (hb hby d7_5) rfl k) ?_
  refine Goes.to (T' := T1) (mkF m 9 #[.val (.ref a), .val (.int (0 : Int32))] []) (fun t k => XS.ifNo X1.here hx rfl (hb hby d7_6) rfl ((if0 _ _).trans (teq ((by decide) : (0 : Int32) = (0 : Int32))).2) k) ?_
  refine Goes.to (T' := T1) (mkF m 10 #[.val (.ref a), .val (.int (0 : Int32))] [(.ref a)]) (fun t k => XS.aloadN X1.here hx rfl (hb hby d7_9) rfl rfl k) ?_
  obtain ⟨T2, X2, e2, st2⟩ := getF X1 hx hZ hown (host := "") (Or.inl (hw _ (List.mem_of_getElem? (i := 50) rfl))) Via.refl e1 F_hashIsZero_a (g := (mkF m 10 #[.val (.ref a), .val (.int (0 : Int32))] [(.ref a)])) rfl rfl (hb hby d7_10)
  refine Goes.to (T' := T2) (mkF m 13 #[.val (.ref a), .val (.int (0 : Int32))] [(.int (0 : Int32))]) st2 ?_
  refine Goes.to (T' := T2) (mkF m 16 #[.val (.ref a), .val (.int (0 : Int32))] []) (fun t k => XS.ifNo X2.here hx rfl (hb hby d7_13) rfl ((if0 _ _).trans (teq ((by decide) : (0 : Int32) = (0 : Int32))).2) k) ?_
  refine Goes.to (T' := T2) (mkF m 17 #[.val (.ref a), .val (.int (0 : Int32))] [(.ref a)]) (fun t k => XS.aloadN X2.here hx rfl (hb hby d7_16) rfl rfl k) ?_
  obtain ⟨cq3, kq3, q3a, q3b, q3c⟩ := isOf hZ e2 E_a
  obtain ⟨_, _, ⟨T3, L3, k3, n3⟩, -, X3, ⟨Lc3, hQ3, l3, y3, z3⟩, st3⟩ := X2.virtualBack hx (y := (⟨"java/lang/String", "isLatin1", "()Z"⟩ : MethodName)) (z := (⟨"java/lang/String", "isLatin1", "()Z"⟩ : MethodName)) hown (mvT hZ (hw _ (List.mem_of_getElem? (i := 52) rfl))) (mvT hZ (hw _ (List.mem_of_getElem? (i := 53) rfl))) (notFace_of_selects (args := #[]) (mvT hZ (hw _ (List.mem_of_getElem? (i := 55) rfl)))) (mvT hZ (hw _ (List.mem_of_getElem? (i := 55) rfl))) (mvT hZ (hw _ (List.mem_of_getElem? (i := 54) rfl))) (by decide) (backOf (W := 0) (rm_isl l Z a0 hw [] a cz h0 n0 O F_coder_a S_CS hcz) hZ (hw _ (List.mem_of_getElem? (i := 56) rfl)) (hw _ (List.mem_of_getElem? (i := 6) rfl)) (by decide) (by decide)) q3a q3c (g := (mkF m 17 #[.val (.ref a), .val (.int (0 : Int32))] [(.ref a)])) rfl (by rw [hml]; rfl) (Steps.refl _) (argsL := []) (rest := []) (lenOf pd_4 rfl) rfl (by show 2 * 0 + _ ≤ _; exact Nat.le_of_eq rfl) (hb hby d7_17) (fun _ _ => ⟨rfl, e2, (by decide : 0 + 0 ≤ _), (by decide : 0 + 0 ≤ _)⟩)
  dsimp only [Pt.U, Pt.locs, Pt.cells, Pt.slots] at X3 l3 y3 z3 st3 hQ3
  subst l3 y3 z3
  obtain ⟨rfl, N3, hs3⟩ := hQ3
  have N3' := Fr.app N0 N3
  refine Goes.to (T' := T3) (mkF m 20 #[.val (.ref a), .val (.int (0 : Int32))] [(.int (1 : Int32))]) (fun t k => st3.trans k) ?_
  refine Goes.to (T' := T3) (mkF m 23 #[.val (.ref a), .val (.int (0 : Int32))] []) (fun t k => XS.ifNo X3.here hx rfl (hb hby d7_20) rfl ((if0 _ _).trans (feq ((by decide) : ¬ ((1 : Int32) = (0 : Int32)))).1) k) ?_
  refine Goes.to (T' := T3) (mkF m 24 #[.val (.ref a), .val (.int (0 : Int32))] [(.ref a)]) (fun t k => XS.aloadN X3.here hx rfl (hb hby d7_23) rfl rfl k) ?_
  obtain ⟨T4, X4, e4, st4⟩ := getF X3 hx hZ hown (host := "") (Or.inl (hw _ (List.mem_of_getElem? (i := 24) rfl))) Via.refl hs3 F_value_a (g := (mkF m 24 #[.val (.ref a), .val (.int (0 : Int32))] [(.ref a)])) rfl rfl (hb hby d7_24)
  refine Goes.to (T' := T4) (mkF m 27 #[.val (.ref a), .val (.int (0 : Int32))] [(.ref tt)]) st4 ?_
  obtain ⟨_, _, ⟨T5, L5, k5, n5⟩, -, X5, ⟨Lc5, hQ5, l5, y5, z5⟩, st5⟩ := Jvm.LawKit.callS X4 hx (y := (⟨"java/lang/StringLatin1", "hashCode", "([B)I"⟩ : MethodName)) hown (mvT hZ (hw _ (List.mem_of_getElem? (i := 58) rfl))) (mvT hZ (hw _ (List.mem_of_getElem? (i := 59) rfl))) (mvT hZ (hw _ (List.mem_of_getElem? (i := 60) rfl))) (mvT hZ (hw _ (List.mem_of_getElem? (i := 61) rfl))) (by decide) (backOf (W := 0) (rm_lh l Z a0 hw [] tt kt N2 vs cs h0 n0 O V_tt hcd hl hE) hZ (hw _ (List.mem_of_getElem? (i := 61) rfl)) (hw _ (List.mem_of_getElem? (i := 60) rfl)) (by decide) (by decide)) (g := (mkF m 27 #[.val (.ref a), .val (.int (0 : Int32))] [(.ref tt)])) rfl (by rw [hml]; rfl) (argsL := [(.ref tt)]) (rest := []) (lenOf pd_5 rfl) rfl (by show 2 * 0 + _ ≤ _; exact Nat.le_of_eq rfl) (hb hby d7_27) (fun _ _ => ⟨rfl, e4, (by decide : 0 + 0 ≤ _), (by decide : 0 + 0 ≤ _)⟩)
  dsimp only [Pt.U, Pt.locs, Pt.cells, Pt.slots] at X5 l5 y5 z5 st5 hQ5
  subst l5 y5 z5
  obtain ⟨⟨r5, rfl⟩, N5, hs5⟩ := hQ5
  have N5' := Fr.app N3' N5
  refine Goes.to (T' := T5) (mkF m 30 #[.val (.ref a), .val (.int (0 : Int32))] [(.int r5)]) (fun t k => st5 t k) ?_
  refine Goes.to (T' := T5) (mkF m 40 #[.val (.ref a), .val (.int (0 : Int32))] [(.int r5)]) (fun t k => XS.goto X5.here hx rfl (pc0 := 30) (pc' := 40) rfl (hb hby d7_30) (by decide) (by decide) k) ?_
  refine Goes.to (T' := T5) (mkF m 41 #[.val (.ref a), .val (.int r5)] []) (fun t k => XS.istoreN X5.here hx rfl (hb hby d7_40) rfl (l' := #[.val (.ref a), .val (.int r5)]) rfl k) ?_
  refine Goes.to (T' := T5) (mkF m 42 #[.val (.ref a), .val (.int r5)] [(.int r5)]) (fun t k => XS.iloadN X5.here hx rfl (hb hby d7_41) rfl k) ?_
  by_cases hc42_6 : r5 = (0 : Int32)
  · refine Goes.to (T' := T5) (mkF m 45 #[.val (.ref a), .val (.int r5)] []) (fun t k => XS.ifNo X5.here hx rfl (hb hby d7_42) rfl ((if0 _ _).trans (teq hc42_6).2) k) ?_
    refine Goes.to (T' := T5) (mkF m 46 #[.val (.ref a), .val (.int r5)] [(.ref a)]) (fun t k => XS.aloadN X5.here hx rfl (hb hby d7_45) rfl rfl k) ?_
    refine Goes.to (T' := T5) (mkF m 47 #[.val (.ref a), .val (.int r5)] [(.int (1 : Int32)), (.ref a)]) (fun t k => XS.iconst X5.here hx rfl (hb hby d7_46) k) ?_
    obtain ⟨T7, h7, X7, e7, W7, st7⟩ := putFN X5 hx hZ hown (hw _ (List.mem_of_getElem? (i := 50) rfl)) Via.refl hs5 F_hashIsZero_a E_a (Or.inl (hw _ (List.mem_of_getElem? (i := 51) rfl))) (hw _ (List.mem_of_getElem? (i := 5) rfl)) (ty := .boolean) (v' := .int (nar .boolean (1 : Int32))) (by decide) rfl (fits_nar_bool _) (g := (mkF m 47 #[.val (.ref a), .val (.int r5)] [(.int (1 : Int32)), (.ref a)])) rfl rfl (hb hby d7_47)
    replace E_a := E_a.wr W7
    replace F_value_a := F_value_a.other W7 (Or.inr (slot_ne (Or.inr (hw _ (List.mem_of_getElem? (i := 20) rfl))) (Or.inl (hw _ (List.mem_of_getElem? (i := 51) rfl))) (by decide) (t := (.array .byte)) (t' := .boolean) (by decide) (by decide)))
    replace F_coder_a := F_coder_a.other W7 (Or.inr (slot_ne (Or.inr (hw _ (List.mem_of_getElem? (i := 21) rfl))) (Or.inl (hw _ (List.mem_of_getElem? (i := 51) rfl))) (by decide) (t := .byte) (t' := .boolean) (by decide) (by decide)))
    replace F_hash_a := F_hash_a.other W7 (Or.inr (slot_ne (Or.inl (hw _ (List.mem_of_getElem? (i := 49) rfl))) (Or.inl (hw _ (List.mem_of_getElem? (i := 51) rfl))) (by decide) (t := .int) (t' := .boolean) (by decide) (by decide)))
    replace F_hashIsZero_a := F_hashIsZero_a.same W7
    replace O := O.wr W7 g_a
    replace K := K.wr W7 (Or.inl (by simp))
    have N7 := Fr.snoc X7 N5' g_a
    refine Goes.to (T' := T7) (mkF m 50 #[.val (.ref a), .val (.int r5)] []) st7 ?_
    refine Goes.to (T' := T7) (mkF m 58 #[.val (.ref a), .val (.int r5)] []) (fun t k => XS.goto X7.here hx rfl (pc0 := 50) (pc' := 58) rfl (hb hby d7_50) (by decide) (by decide) k) ?_
    refine Goes.to (T' := T7) (mkF m 59 #[.val (.ref a), .val (.int r5)] [(.int r5)]) (fun t k => XS.iloadN X7.here hx rfl (hb hby d7_58) rfl k) ?_
    refine Goes.retI X7 hx Bd.notSynchronized Bd.returns (hb hby d7_59) (by decide) (by decide) ?_
    rw [e7]
    exact ⟨⟨_, rfl⟩, N7, K, F_value_a, F_coder_a⟩
  · refine Goes.to (T' := T5) (mkF m 53 #[.val (.ref a), .val (.int r5)] []) (fun t k => XS.ifYes X5.here hx rfl (pc0 := 42) (pc' := 53) rfl (hb hby d7_42) rfl ((if0 _ _).trans (feq hc42_6).2) (by decide) (by decide) k) ?_
    refine Goes.to (T' := T5) (mkF m 54 #[.val (.ref a), .val (.int r5)] [(.ref a)]) (fun t k => XS.aloadN X5.here hx rfl (hb hby d7_53) rfl rfl k) ?_
    refine Goes.to (T' := T5) (mkF m 55 #[.val (.ref a), .val (.int r5)] [(.int r5), (.ref a)]) (fun t k => XS.iloadN X5.here hx rfl (hb hby d7_54) rfl k) ?_
    obtain ⟨T8, h8, X8, e8, W8, st8⟩ := putF X5 hx hZ hown (host := "") (Or.inl (hw _ (List.mem_of_getElem? (i := 48) rfl))) Via.refl hs5 F_hash_a E_a (Or.inl (hw _ (List.mem_of_getElem? (i := 49) rfl))) (hw _ (List.mem_of_getElem? (i := 5) rfl)) (ty := .int) (by decide) rfl rfl (g := (mkF m 55 #[.val (.ref a), .val (.int r5)] [(.int r5), (.ref a)])) rfl rfl (hb hby d7_55)
    replace E_a := E_a.wr W8
    replace F_value_a := F_value_a.other W8 (Or.inr (slot_ne (Or.inr (hw _ (List.mem_of_getElem? (i := 20) rfl))) (Or.inl (hw _ (List.mem_of_getElem? (i := 49) rfl))) (by decide) (t := (.array .byte)) (t' := .int) (by decide) (by decide)))
    replace F_coder_a := F_coder_a.other W8 (Or.inr (slot_ne (Or.inr (hw _ (List.mem_of_getElem? (i := 21) rfl))) (Or.inl (hw _ (List.mem_of_getElem? (i := 49) rfl))) (by decide) (t := .byte) (t' := .int) (by decide) (by decide)))
    replace F_hash_a := F_hash_a.same W8
    replace F_hashIsZero_a := F_hashIsZero_a.other W8 (Or.inr (slot_ne (Or.inl (hw _ (List.mem_of_getElem? (i := 51) rfl))) (Or.inl (hw _ (List.mem_of_getElem? (i := 49) rfl))) (by decide) (t := .boolean) (t' := .int) (by decide) (by decide)))
    replace O := O.wr W8 g_a
    replace K := K.wr W8 (Or.inl (by simp))
    have N8 := Fr.snoc X8 N5' g_a
    refine Goes.to (T' := T8) (mkF m 58 #[.val (.ref a), .val (.int r5)] []) st8 ?_
    refine Goes.to (T' := T8) (mkF m 59 #[.val (.ref a), .val (.int r5)] [(.int r5)]) (fun t k => XS.iloadN X8.here hx rfl (hb hby d7_58) rfl k) ?_
    refine Goes.retI X8 hx Bd.notSynchronized Bd.returns (hb hby d7_59) (by decide) (by decide) ?_
    rw [e8]
    exact ⟨⟨_, rfl⟩, N8, K, F_value_a, F_coder_a⟩
theorem pn_java_util_Objects : plainName "java/util/Objects" = true := by first | (simp [plainName, overriddenIn]; done) | decide +kernel
theorem ef_rm_rnn (m : MethodId) (x0 : Addr) (x1 : Addr) : entryFrame m #[(.ref x0), (.ref x1)] 2 = mkF m 0 #[.val (.ref x0), .val (.ref x1)] [] := by first | (simp [entryFrame, mkF, argsToLocals, Value.category]; done) | rfl
def Q_rm_rnn (Z : State) (a b : Addr) (h0 : Heap) (n0 : Nat) (v : Option Value) (h : Heap) (L : List Loc) : Prop := v = some (.ref a) ∧ Fr n0 L ∧ h = h0
theorem d6_0 : decode jdk_31_method_11_code 0 = .ok (.aload_n 0, 1) := by decide +kernel
theorem d6_1 : decode jdk_31_method_11_code 1 = .ok (.ifnonnull 12, 3) := by decide +kernel
theorem d6_13 : decode jdk_31_method_11_code 13 = .ok (.aload_n 0, 1) := by decide +kernel
theorem d6_14 : decode jdk_31_method_11_code 14 = .ok (.areturn, 1) := by decide +kernel
set_option maxRecDepth 65536 in
set_option maxHeartbeats 40000000 in
theorem rm_rnn (l : Launch) (Z : State) (a0 : Array Value) (hw : ∀ d ∈ tables_1, d.before a0 Z = true) (ws : List Jvm.Cond) (a b : Addr) (h0 : Heap) (n0 : Nat) (O : Old Z n0 h0) :
    MetFree l (⟨"java/util/Objects", "requireNonNull", "(Ljava/lang/Object;Ljava/lang/String;)Ljava/lang/Object;"⟩ : MethodName) (head1 (Jvm.Cond.code (⟨"java/util/Objects", "requireNonNull", "(Ljava/lang/Object;Ljava/lang/String;)Ljava/lang/Object;"⟩ : MethodName) jdk_31_method_11_code 2 (some (.object "java/lang/Object")) :: ws) ({ frames := 0, cells := 0, slots := 0, locals := 0 } : Room)) (fun aa U => aa = #[(.ref a), (.ref b)] ∧ Z.Warmed39 U.vm ∧ U.heap = h0) (fun _ _ _ _ _ => True) (fun _ U o U' => ∃ v L, o = .returned v ∧ Q_rm_rnn Z a b h0 n0 v U'.heap L ∧ FrameEnd U o U' L ({ frames := 0, cells := 0, slots := 0, locals := 0 } : Room).cells ({ frames := 0, cells := 0, slots := 0, locals := 0 } : Room).slots) := by
  refine MetFree.of_bodySF (plainFor_of_name pn_java_util_Objects) hisR ?_
  intro p e s m args below meth c s₁ Bd hml0 hP hK
  obtain ⟨rfl, hZ, hh⟩ := hP
  have hx := Bd.exec
  have hby := Bd.bytes
  have hml : c.maxLocals = 2 := hml0
  have hown : s.vm.findClass "java/util/Objects" = some m.cls := findClass_of_methodNamed Bd.named
  have hnm := (name_of_methodNamed Bd.named Bd.method).1
  have X0 : Stand p l e ({ frames := 0, cells := 0, slots := 0, locals := 0 } : Room) s m #[(.ref a), (.ref b)] below meth c s₁ [] 0 0 := Stand.of_body Bd
  have e0 : s₁.heap = h0 := by rw [← hh, Bd.state]; rfl
  have N0 := Fr.nil n0
  show Goes p e below s FrameEnd ({ frames := 0, cells := 0, slots := 0, locals := 0 } : Room).cells ({ frames := 0, cells := 0, slots := 0, locals := 0 } : Room).slots (Q_rm_rnn Z a b h0 n0) s₁ (entryFrame m #[(.ref a), (.ref b)] 2)
  refine Goes.cast (ef_rm_rnn m a b) ?_
  refine Goes.to (T' := s₁) (mkF m 1 #[.val (.ref a), .val (.ref b)] [(.ref a)]) (fun t k => XS.aloadN X0.here hx rfl (hb hby d6_0) rfl rfl k) ?_
  refine Goes.to (T' := s₁) (mkF m 13 #[.val (.ref a), .val (.ref b)] []) (fun t k => XS.ifnonnullYes X0.here hx rfl (pc0 := 1) (pc' := 13) rfl (hb hby d6_1) rfl (by decide) (by decide) k) ?_
  refine Goes.to (T' := s₁) (mkF m 14 #[.val (.ref a), .val (.ref b)] [(.ref a)]) (fun t k => XS.aloadN X0.here hx rfl (hb hby d6_13) rfl rfl k) ?_
  refine Goes.retA X0 hx Bd.notSynchronized rfl Bd.returns rfl (hb hby d6_14) (by decide) (by decide) ?_
  rw [e0]
  exact ⟨rfl, N0, rfl⟩
theorem pn_com_example_lachesis_lachesis_model_RecordId : plainName "com/example/lachesis/lachesis/model/RecordId" = true := by first | (simp [plainName, overriddenIn]; done) | decide +kernel
theorem ef_rm_rid (m : MethodId) (x0 : Addr) (x1 : Addr) (x2 : Int32) : entryFrame m #[(.ref x0), (.ref x1), (.int x2)] 3 = mkF m 0 #[.val (.ref x0), .val (.ref x1), .val (.int x2)] [] := by first | (simp [entryFrame, mkF, argsToLocals, Value.category]; done) | rfl
def Q_rm_rid (Z : State) (b a tt : Addr) (n : Int32) (kt : ClassId) (N2 cz : Int32) (vs : List Value) (cs : List Int32) (u0 u1 u2 : Value) (h0 : Heap) (n0 : Nat) (v : Option Value) (h : Heap) (L : List Loc) : Prop := v = none ∧ Fr n0 L ∧ Keep h0 h [b, a] ∧ Fld Z h b "com/example/lachesis/lachesis/model/RecordId" "activity" "Ljava/lang/String;" (.ref a) ∧ Fld Z h b "com/example/lachesis/lachesis/model/RecordId" "instance" "I" (.int n) ∧ Fld Z h a "java/lang/String" "value" "[B" (.ref tt) ∧ Fld Z h a "java/lang/String" "coder" "B" (.int 0)
theorem d5_0 : decode prog_53_method_1_code 0 = .ok (.aload_n 0, 1) := by decide +kernel
theorem d5_1 : decode prog_53_method_1_code 1 = .ok (.invokespecial 1, 3) := by decide +kernel
theorem d5_4 : decode prog_53_method_1_code 4 = .ok (.aload_n 0, 1) := by decide +kernel
theorem d5_5 : decode prog_53_method_1_code 5 = .ok (.aload_n 1, 1) := by decide +kernel
theorem d5_6 : decode prog_53_method_1_code 6 = .ok (.ldc 7, 2) := by decide +kernel
theorem d5_8 : decode prog_53_method_1_code 8 = .ok (.invokestatic 9, 3) := by decide +kernel
theorem pd_6 : parseMethodDescriptor "(Ljava/lang/Object;Ljava/lang/String;)Ljava/lang/Object;" = some ⟨[(.object "java/lang/Object"), (.object "java/lang/String")], some (.object "java/lang/Object")⟩ := by decide +kernel
theorem d5_11 : decode prog_53_method_1_code 11 = .ok (.checkcast 15, 3) := by decide +kernel
theorem d5_14 : decode prog_53_method_1_code 14 = .ok (.putfield 17, 3) := by decide +kernel
theorem d5_17 : decode prog_53_method_1_code 17 = .ok (.aload_n 0, 1) := by decide +kernel
theorem d5_18 : decode prog_53_method_1_code 18 = .ok (.iload_n 2, 1) := by decide +kernel
theorem d5_19 : decode prog_53_method_1_code 19 = .ok (.putfield 22, 3) := by decide +kernel
theorem d5_22 : decode prog_53_method_1_code 22 = .ok (.aload_n 0, 1) := by decide +kernel
theorem d5_23 : decode prog_53_method_1_code 23 = .ok (.bipush 31, 2) := by decide +kernel
theorem d5_25 : decode prog_53_method_1_code 25 = .ok (.aload_n 1, 1) := by decide +kernel
theorem d5_26 : decode prog_53_method_1_code 26 = .ok (.invokevirtual 26, 3) := by decide +kernel
theorem pd_7 : parseMethodDescriptor "()I" = some ⟨[], some .int⟩ := by decide +kernel
theorem d5_29 : decode prog_53_method_1_code 29 = .ok (.imul, 1) := by decide +kernel
theorem d5_30 : decode prog_53_method_1_code 30 = .ok (.iload_n 2, 1) := by decide +kernel
theorem d5_31 : decode prog_53_method_1_code 31 = .ok (.iadd, 1) := by decide +kernel
theorem d5_32 : decode prog_53_method_1_code 32 = .ok (.putfield 30, 3) := by decide +kernel
theorem d5_35 : decode prog_53_method_1_code 35 = .ok (.return_, 1) := by decide +kernel
set_option maxRecDepth 65536 in
set_option maxHeartbeats 40000000 in
theorem rm_rid (l : Launch) (Z : State) (a0 : Array Value) (hw : ∀ d ∈ tables_1, d.before a0 Z = true) (ws : List Jvm.Cond) (b a tt : Addr) (n : Int32) (kt : ClassId) (N2 cz : Int32) (vs : List Value) (cs : List Int32) (u0 u1 u2 : Value) (h0 : Heap) (n0 : Nat) (O : Old Z n0 h0) (E_a : Exa Z h0 a "java/lang/String") (F_value_a : Fld Z h0 a "java/lang/String" "value" "[B" (.ref tt)) (F_coder_a : Fld Z h0 a "java/lang/String" "coder" "B" (.int 0)) (F_hash_a : Fld Z h0 a "java/lang/String" "hash" "I" (.int 0)) (F_hashIsZero_a : Fld Z h0 a "java/lang/String" "hashIsZero" "Z" (.int 0)) (V_tt : Arv Z h0 tt kt .byte N2 vs (.int 0)) (hcd : StrChars.Road.CodA cs 0 N2 vs) (hl : cs.length ≤ 3) (hE : ¬ cs = [] → Exa Z h0 tt "[B") (g_a : n0 ≤ a) (S_CS : Sta Z Z.heap "java/lang/String" "COMPACT_STRINGS" "Z" (.int cz)) (hcz : ¬ cz = 0) (E_b : Exa Z h0 b "com/example/lachesis/lachesis/model/RecordId") (g_b : n0 ≤ b) (nab : a ≠ b) (ntb : tt ≠ b) (nta : tt ≠ a) (R_activity : Fld Z h0 b "com/example/lachesis/lachesis/model/RecordId" "activity" "Ljava/lang/String;" u0) (R_instance : Fld Z h0 b "com/example/lachesis/lachesis/model/RecordId" "instance" "I" u1) (R_hash : Fld Z h0 b "com/example/lachesis/lachesis/model/RecordId" "hash" "I" u2) :
    MetFree l (⟨"com/example/lachesis/lachesis/model/RecordId", "<init>", "(Ljava/lang/String;I)V"⟩ : MethodName) (head1 (Jvm.Cond.code (⟨"com/example/lachesis/lachesis/model/RecordId", "<init>", "(Ljava/lang/String;I)V"⟩ : MethodName) prog_53_method_1_code 3 none :: ws) ({ frames := 4, cells := 2, slots := 40, locals := 80 } : Room)) (fun aa U => aa = #[(.ref b), (.ref a), (.int n)] ∧ Z.Warmed39 U.vm ∧ U.heap = h0) (fun _ _ _ _ _ => True) (fun _ U o U' => ∃ v L, o = .returned v ∧ Q_rm_rid Z b a tt n kt N2 cz vs cs u0 u1 u2 h0 n0 v U'.heap L ∧ ReturnedEndW U o U' L ({ frames := 4, cells := 2, slots := 40, locals := 80 } : Room).cells ({ frames := 4, cells := 2, slots := 40, locals := 80 } : Room).slots) := by
  refine MetFree.of_bodySF (plainFor_of_name pn_com_example_lachesis_lachesis_model_RecordId) hisR ?_
  intro p e s m args below meth c s₁ Bd hml0 hP hK
  obtain ⟨rfl, hZ, hh⟩ := hP
  have hx := Bd.exec
  have hby := Bd.bytes
  have hml : c.maxLocals = 3 := hml0
  have hown : s.vm.findClass "com/example/lachesis/lachesis/model/RecordId" = some m.cls := findClass_of_methodNamed Bd.named
  have hnm := (name_of_methodNamed Bd.named Bd.method).1
  have X0 : Stand p l e ({ frames := 4, cells := 2, slots := 40, locals := 80 } : Room) (s.setVm s.vm) m #[(.ref b), (.ref a), (.int n)] below meth c s₁ [] 0 0 := Stand.of_body Bd
  have e0 : s₁.heap = h0 := by rw [← hh, Bd.state]; rfl
  have N0 := Fr.nil n0
  have K : Keep h0 h0 [b, a] := Keep.refl _ _
  have hS0 : s.Since s.vm 0 := (State.WarmedH.refl s).since 0
  have hk0 : 0 ≤ h0.size := Nat.zero_le _
  replace hZ : Z.Warmed39 (s.setVm s.vm).vm := hZ
  replace hown : (s.setVm s.vm).vm.findClass "com/example/lachesis/lachesis/model/RecordId" = some m.cls := hown
  show Goes p e below s ReturnedEndW ({ frames := 4, cells := 2, slots := 40, locals := 80 } : Room).cells ({ frames := 4, cells := 2, slots := 40, locals := 80 } : Room).slots (Q_rm_rid Z b a tt n kt N2 cz vs cs u0 u1 u2 h0 n0) s₁ (entryFrame m #[(.ref b), (.ref a), (.int n)] 3)
  refine Goes.cast (ef_rm_rid m b a n) ?_
  have V0_tt := V_tt
  refine Goes.to (T' := s₁) (mkF m 1 #[.val (.ref b), .val (.ref a), .val (.int n)] [(.ref b)]) (fun t k => XS.aloadN X0.here hx rfl (hb hby d5_0) rfl rfl k) ?_
  obtain ⟨T1, X1, e1, st1⟩ := initO X0 hx hZ hown (hw _ (List.mem_of_getElem? (i := 32) rfl)) (hw _ (List.mem_of_getElem? (i := 16) rfl)) (hw _ (List.mem_of_getElem? (i := 17) rfl)) e0 (g := (mkF m 1 #[.val (.ref b), .val (.ref a), .val (.int n)] [(.ref b)])) rfl (by rw [hml]; rfl) rfl (hb hby d5_1) (by decide) (W := 0) (by show 2 * 0 + _ ≤ _; exact Nat.le_of_eq rfl) (by decide)
  refine Goes.to (T' := T1) (mkF m 4 #[.val (.ref b), .val (.ref a), .val (.int n)] []) st1 ?_
  refine Goes.to (T' := T1) (mkF m 5 #[.val (.ref b), .val (.ref a), .val (.int n)] [(.ref b)]) (fun t k => XS.aloadN X1.here hx rfl (hb hby d5_4) rfl rfl k) ?_
  refine Goes.to (T' := T1) (mkF m 6 #[.val (.ref b), .val (.ref a), .val (.int n)] [(.ref a), (.ref b)]) (fun t k => XS.aloadN X1.here hx rfl (hb hby d5_5) rfl rfl k) ?_
  obtain ⟨str2, T2, h2, k2, X2, e2, E2, hS2, hk2, hZ2, hown2, st2⟩ := ldcS X1 hx hZ hown (hw _ (List.mem_of_getElem? (i := 33) rfl)) (fun a ha => hw a (own_strs a ha)) e1 hS0 hk0 (g := (mkF m 6 #[.val (.ref b), .val (.ref a), .val (.int n)] [(.ref a), (.ref b)])) rfl (hb hby d5_6) (n := 32) (by decide) (by decide) (by decide) (by decide)
  replace O := O.ext E2
  replace E_a := E_a.ext E2
  replace F_value_a := F_value_a.ext E2
  replace F_coder_a := F_coder_a.ext E2
  replace F_hash_a := F_hash_a.ext E2
  replace F_hashIsZero_a := F_hashIsZero_a.ext E2
  replace V_tt := V_tt.ext E2
  replace E_b := E_b.ext E2
  replace R_activity := R_activity.ext E2
  replace R_instance := R_instance.ext E2
  replace R_hash := R_hash.ext E2
  replace K := K.ext E2
  replace hS0 := hS2
  replace hk0 := hk2
  replace hZ := hZ2
  replace hown := hown2
  refine Goes.to (T' := T2) (mkF m 8 #[.val (.ref b), .val (.ref a), .val (.int n)] [(.ref str2), (.ref a), (.ref b)]) st2 ?_
  obtain ⟨_, _, ⟨T3, L3, k3, n3⟩, -, X3, ⟨Lc3, hQ3, l3, y3, z3⟩, st3⟩ := Jvm.LawKit.callS X2 hx (y := (⟨"java/util/Objects", "requireNonNull", "(Ljava/lang/Object;Ljava/lang/String;)Ljava/lang/Object;"⟩ : MethodName)) hown (mvT hZ (hw _ (List.mem_of_getElem? (i := 34) rfl))) (mvT hZ (hw _ (List.mem_of_getElem? (i := 35) rfl))) (mvT hZ (hw _ (List.mem_of_getElem? (i := 36) rfl))) (mvT hZ (hw _ (List.mem_of_getElem? (i := 37) rfl))) (by decide) (backOf (W := 1) (rm_rnn l Z a0 hw [] a str2 h2 n0 O) hZ (hw _ (List.mem_of_getElem? (i := 37) rfl)) (hw _ (List.mem_of_getElem? (i := 36) rfl)) (by decide) (by decide)) (g := (mkF m 8 #[.val (.ref b), .val (.ref a), .val (.int n)] [(.ref str2), (.ref a), (.ref b)])) rfl (by rw [hml]; rfl) (argsL := [(.ref a), (.ref str2)]) (rest := [(.ref b)]) (lenOf pd_6 rfl) rfl (by show 2 * 0 + _ ≤ _; exact Nat.le_of_eq rfl) (hb hby d5_8) (fun _ _ => ⟨rfl, e2, (by decide : 2 + 0 ≤ _), (by decide : 36 + 0 ≤ _)⟩)
  dsimp only [Pt.U, Pt.locs, Pt.cells, Pt.slots] at X3 l3 y3 z3 st3 hQ3
  subst l3 y3 z3
  obtain ⟨rfl, N3, hs3⟩ := hQ3
  have N3' := Fr.app N0 N3
  refine Goes.to (T' := T3) (mkF m 11 #[.val (.ref b), .val (.ref a), .val (.int n)] [(.ref a), (.ref b)]) (fun t k => st3 t k) ?_
  obtain ⟨T4, X4, e4, st4⟩ := castY X3 hx hZ hown (hw _ (List.mem_of_getElem? (i := 38) rfl)) hs3 (Ins.self E_a) (g := (mkF m 11 #[.val (.ref b), .val (.ref a), .val (.int n)] [(.ref a), (.ref b)])) rfl rfl (hb hby d5_11)
  refine Goes.to (T' := T4) (mkF m 14 #[.val (.ref b), .val (.ref a), .val (.int n)] [(.ref a), (.ref b)]) st4 ?_
  obtain ⟨T5, h5, X5, e5, W5, st5⟩ := putF X4 hx hZ hown (host := "") (Or.inl (hw _ (List.mem_of_getElem? (i := 39) rfl))) Via.refl e4 R_activity E_b (Or.inr ⟨(hw _ (List.mem_of_getElem? (i := 40) rfl)), rfl, hnm⟩) (hw _ (List.mem_of_getElem? (i := 27) rfl)) (ty := (.object "java/lang/String")) (by decide) rfl rfl (g := (mkF m 14 #[.val (.ref b), .val (.ref a), .val (.int n)] [(.ref a), (.ref b)])) rfl rfl (hb hby d5_14)
  replace E_a := E_a.wr W5
  replace F_value_a := F_value_a.other W5 (Or.inl nab)
  replace F_coder_a := F_coder_a.other W5 (Or.inl nab)
  replace F_hash_a := F_hash_a.other W5 (Or.inl nab)
  replace F_hashIsZero_a := F_hashIsZero_a.other W5 (Or.inl nab)
  replace V_tt := V_tt.other W5 ntb
  replace E_b := E_b.wr W5
  replace R_activity := R_activity.same W5
  replace R_instance := R_instance.other W5 (Or.inr (slot_ne (Or.inr (hw _ (List.mem_of_getElem? (i := 42) rfl))) (Or.inr (hw _ (List.mem_of_getElem? (i := 40) rfl))) (by decide) (t := .int) (t' := (.object "java/lang/String")) (by decide) (by decide)))
  replace R_hash := R_hash.other W5 (Or.inr (slot_ne (Or.inr (hw _ (List.mem_of_getElem? (i := 63) rfl))) (Or.inr (hw _ (List.mem_of_getElem? (i := 40) rfl))) (by decide) (t := .int) (t' := (.object "java/lang/String")) (by decide) (by decide)))
  replace O := O.wr W5 g_b
  replace hk0 := Nat.le_trans hk0 (Nat.le_of_eq W5.size.symm)
  replace K := K.wr W5 (Or.inl (by simp))
  have N5 := Fr.snoc X5 N3' g_b
  refine Goes.to (T' := T5) (mkF m 17 #[.val (.ref b), .val (.ref a), .val (.int n)] []) st5 ?_
  refine Goes.to (T' := T5) (mkF m 18 #[.val (.ref b), .val (.ref a), .val (.int n)] [(.ref b)]) (fun t k => XS.aloadN X5.here hx rfl (hb hby d5_17) rfl rfl k) ?_
  refine Goes.to (T' := T5) (mkF m 19 #[.val (.ref b), .val (.ref a), .val (.int n)] [(.int n), (.ref b)]) (fun t k => XS.iloadN X5.here hx rfl (hb hby d5_18) rfl k) ?_
  obtain ⟨T6, h6, X6, e6, W6, st6⟩ := putF X5 hx hZ hown (host := "") (Or.inl (hw _ (List.mem_of_getElem? (i := 41) rfl))) Via.refl e5 R_instance E_b (Or.inr ⟨(hw _ (List.mem_of_getElem? (i := 42) rfl)), rfl, hnm⟩) (hw _ (List.mem_of_getElem? (i := 27) rfl)) (ty := .int) (by decide) rfl rfl (g := (mkF m 19 #[.val (.ref b), .val (.ref a), .val (.int n)] [(.int n), (.ref b)])) rfl rfl (hb hby d5_19)
  replace E_a := E_a.wr W6
  replace F_value_a := F_value_a.other W6 (Or.inl nab)
  replace F_coder_a := F_coder_a.other W6 (Or.inl nab)
  replace F_hash_a := F_hash_a.other W6 (Or.inl nab)
  replace F_hashIsZero_a := F_hashIsZero_a.other W6 (Or.inl nab)
  replace V_tt := V_tt.other W6 ntb
  replace E_b := E_b.wr W6
  replace R_activity := R_activity.other W6 (Or.inr (slot_ne (Or.inr (hw _ (List.mem_of_getElem? (i := 40) rfl))) (Or.inr (hw _ (List.mem_of_getElem? (i := 42) rfl))) (by decide) (t := (.object "java/lang/String")) (t' := .int) (by decide) (by decide)))
  replace R_instance := R_instance.same W6
  replace R_hash := R_hash.other W6 (Or.inr (slot_ne (Or.inr (hw _ (List.mem_of_getElem? (i := 63) rfl))) (Or.inr (hw _ (List.mem_of_getElem? (i := 42) rfl))) (by decide) (t := .int) (t' := .int) (by decide) (by decide)))
  replace O := O.wr W6 g_b
  replace hk0 := Nat.le_trans hk0 (Nat.le_of_eq W6.size.symm)
  replace K := K.wr W6 (Or.inl (by simp))
  have N6 := Fr.snoc X6 N5 g_b
  refine Goes.to (T' := T6) (mkF m 22 #[.val (.ref b), .val (.ref a), .val (.int n)] []) st6 ?_
  refine Goes.to (T' := T6) (mkF m 23 #[.val (.ref b), .val (.ref a), .val (.int n)] [(.ref b)]) (fun t k => XS.aloadN X6.here hx rfl (hb hby d5_22) rfl rfl k) ?_
  refine Goes.to (T' := T6) (mkF m 25 #[.val (.ref b), .val (.ref a), .val (.int n)] [(.int (31 : Int32)), (.ref b)]) (fun t k => XS.bipush X6.here hx rfl (hb hby d5_23) k) ?_
  refine Goes.to (T' := T6) (mkF m 26 #[.val (.ref b), .val (.ref a), .val (.int n)] [(.ref a), (.int (31 : Int32)), (.ref b)]) (fun t k => XS.aloadN X6.here hx rfl (hb hby d5_25) rfl rfl k) ?_
  have hE : ¬ cs = [] → Exa Z h6 tt "[B" := fun q => by
    rcases own_keepE V_tt (hE q) V0_tt with z; exact z
  obtain ⟨cq7, kq7, q7a, q7b, q7c⟩ := isOf hZ e6 E_a
  obtain ⟨_, _, ⟨T7, L7, k7, n7⟩, -, X7, ⟨Lc7, hQ7, l7, y7, z7⟩, st7⟩ := X6.virtualBack hx (y := (⟨"java/lang/String", "hashCode", "()I"⟩ : MethodName)) (z := (⟨"java/lang/String", "hashCode", "()I"⟩ : MethodName)) hown (mvT hZ (hw _ (List.mem_of_getElem? (i := 43) rfl))) (mvT hZ (hw _ (List.mem_of_getElem? (i := 44) rfl))) (notFace_of_selects (args := #[]) (mvT hZ (hw _ (List.mem_of_getElem? (i := 46) rfl)))) (mvT hZ (hw _ (List.mem_of_getElem? (i := 46) rfl))) (mvT hZ (hw _ (List.mem_of_getElem? (i := 45) rfl))) (by decide) (backOf (W := 2) (rm_hc l Z a0 hw [] a tt kt N2 cz vs cs h6 n0 O E_a F_value_a F_coder_a F_hash_a F_hashIsZero_a V_tt hcd hl hE g_a S_CS hcz) hZ (hw _ (List.mem_of_getElem? (i := 47) rfl)) (hw _ (List.mem_of_getElem? (i := 6) rfl)) (by decide) (by decide)) q7a q7c (g := (mkF m 26 #[.val (.ref b), .val (.ref a), .val (.int n)] [(.ref a), (.int (31 : Int32)), (.ref b)])) rfl (by rw [hml]; rfl) (Steps.refl _) (argsL := []) (rest := [(.int (31 : Int32)), (.ref b)]) (lenOf pd_7 rfl) rfl (by show 2 * 0 + _ ≤ _; exact Nat.le_of_eq rfl) (hb hby d5_26) (fun _ _ => ⟨rfl, e6, (by decide : 2 + 0 ≤ _), (by decide : 36 + 0 ≤ _)⟩)
  dsimp only [Pt.U, Pt.locs, Pt.cells, Pt.slots] at X7 l7 y7 z7 st7 hQ7
  subst l7 y7 z7
  obtain ⟨⟨r7, rfl⟩, N7, K7, F_value_a, F_coder_a⟩ := hQ7
  have N7' := Fr.app N6 N7
  replace E_a := E_a.keep K7
  replace V_tt := V_tt.keep K7 (ninS nta (nin0))
  replace E_b := E_b.keep K7
  replace R_activity := R_activity.keep K7 (ninS (Ne.symm nab) (nin0))
  replace R_instance := R_instance.keep K7 (ninS (Ne.symm nab) (nin0))
  replace R_hash := R_hash.keep K7 (ninS (Ne.symm nab) (nin0))
  replace O := O.keep K7 (allS g_a all0)
  replace hk0 := Nat.le_trans hk0 K7.1
  replace K := K.trans K7 (allS (Or.inl (by simp)) all0)
  refine Goes.to (T' := T7) (mkF m 29 #[.val (.ref b), .val (.ref a), .val (.int n)] [(.int r7), (.int (31 : Int32)), (.ref b)]) (fun t k => st7.trans k) ?_
  refine Goes.to (T' := T7) (mkF m 30 #[.val (.ref b), .val (.ref a), .val (.int n)] [(.int ((31 : Int32) * r7)), (.ref b)]) (fun t k => XS.imul X7.here hx rfl (hb hby d5_29) rfl k) ?_
  refine Goes.to (T' := T7) (mkF m 31 #[.val (.ref b), .val (.ref a), .val (.int n)] [(.int n), (.int ((31 : Int32) * r7)), (.ref b)]) (fun t k => XS.iloadN X7.here hx rfl (hb hby d5_30) rfl k) ?_
  refine Goes.to (T' := T7) (mkF m 32 #[.val (.ref b), .val (.ref a), .val (.int n)] [(.int (((31 : Int32) * r7) + n)), (.ref b)]) (fun t k => XS.iadd X7.here hx rfl (hb hby d5_31) rfl k) ?_
  obtain ⟨T8, h8, X8, e8, W8, st8⟩ := putF X7 hx hZ hown (host := "") (Or.inl (hw _ (List.mem_of_getElem? (i := 62) rfl))) Via.refl rfl R_hash E_b (Or.inr ⟨(hw _ (List.mem_of_getElem? (i := 63) rfl)), rfl, hnm⟩) (hw _ (List.mem_of_getElem? (i := 27) rfl)) (ty := .int) (by decide) rfl rfl (g := (mkF m 32 #[.val (.ref b), .val (.ref a), .val (.int n)] [(.int (((31 : Int32) * r7) + n)), (.ref b)])) rfl rfl (hb hby d5_32)
  replace E_a := E_a.wr W8
  replace V_tt := V_tt.other W8 ntb
  replace E_b := E_b.wr W8
  replace R_activity := R_activity.other W8 (Or.inr (slot_ne (Or.inr (hw _ (List.mem_of_getElem? (i := 40) rfl))) (Or.inr (hw _ (List.mem_of_getElem? (i := 63) rfl))) (by decide) (t := (.object "java/lang/String")) (t' := .int) (by decide) (by decide)))
  replace R_instance := R_instance.other W8 (Or.inr (slot_ne (Or.inr (hw _ (List.mem_of_getElem? (i := 42) rfl))) (Or.inr (hw _ (List.mem_of_getElem? (i := 63) rfl))) (by decide) (t := .int) (t' := .int) (by decide) (by decide)))
  replace R_hash := R_hash.same W8
  replace F_value_a := F_value_a.other W8 (Or.inl nab)
  replace F_coder_a := F_coder_a.other W8 (Or.inl nab)
  replace O := O.wr W8 g_b
  replace hk0 := Nat.le_trans hk0 (Nat.le_of_eq W8.size.symm)
  replace K := K.wr W8 (Or.inl (by simp))
  have N8 := Fr.snoc X8 N7' g_b
  refine Goes.to (T' := T8) (mkF m 35 #[.val (.ref b), .val (.ref a), .val (.int n)] []) st8 ?_
  refine Goes.retVW X8 hx Bd.notSynchronized hS0 (by rw [e8]; exact hk0) Bd.returns (hb hby d5_35) (by decide) (by decide) ?_
  rw [e8]
  exact ⟨rfl, N8, K, R_activity, R_instance, F_value_a, F_coder_a⟩
theorem ef_rm_eqN (m : MethodId) (x0 : Addr)  : entryFrame m #[(.ref x0), .null] 3 = mkF m 0 #[.val (.ref x0), .val .null, .unset] [] := by first | (simp [entryFrame, mkF, argsToLocals, Value.category]; done) | rfl
def Q_rm_eqN (Z : State) (a : Addr) (h0 : Heap) (n0 : Nat) (v : Option Value) (h : Heap) (L : List Loc) : Prop := v = some (.int 0) ∧ Fr n0 L ∧ h = h0
theorem d10_0 : decode prog_53_method_4_code 0 = .ok (.aload_n 1, 1) := by decide +kernel
theorem d10_1 : decode prog_53_method_4_code 1 = .ok (.instanceof 18, 3) := by decide +kernel
theorem d10_4 : decode prog_53_method_4_code 4 = .ok (.ifCond .eq 37, 3) := by decide +kernel
theorem d10_41 : decode prog_53_method_4_code 41 = .ok (.iconst 0, 1) := by decide +kernel
theorem d10_42 : decode prog_53_method_4_code 42 = .ok (.ireturn, 1) := by decide +kernel
set_option maxRecDepth 65536 in
set_option maxHeartbeats 40000000 in
theorem rm_eqN (l : Launch) (Z : State) (a0 : Array Value) (hw : ∀ d ∈ tables_1, d.before a0 Z = true) (ws : List Jvm.Cond) (a : Addr) (h0 : Heap) (n0 : Nat) (O : Old Z n0 h0) :
    MetFree l (⟨"com/example/lachesis/lachesis/model/RecordId", "equals", "(Ljava/lang/Object;)Z"⟩ : MethodName) (head1 (Jvm.Cond.code (⟨"com/example/lachesis/lachesis/model/RecordId", "equals", "(Ljava/lang/Object;)Z"⟩ : MethodName) prog_53_method_4_code 3 (some .boolean) :: ws) ({ frames := 0, cells := 0, slots := 0, locals := 0 } : Room)) (fun aa U => aa = #[(.ref a), .null] ∧ Z.Warmed39 U.vm ∧ U.heap = h0) (fun _ _ _ _ _ => True) (fun _ U o U' => ∃ v L, o = .returned v ∧ Q_rm_eqN Z a h0 n0 v U'.heap L ∧ FrameEnd U o U' L ({ frames := 0, cells := 0, slots := 0, locals := 0 } : Room).cells ({ frames := 0, cells := 0, slots := 0, locals := 0 } : Room).slots) := by
  refine MetFree.of_bodySF (plainFor_of_name pn_com_example_lachesis_lachesis_model_RecordId) hisR ?_
  intro p e s m args below meth c s₁ Bd hml0 hP hK
  obtain ⟨rfl, hZ, hh⟩ := hP
  have hx := Bd.exec
  have hby := Bd.bytes
  have hml : c.maxLocals = 3 := hml0
  have hown : s.vm.findClass "com/example/lachesis/lachesis/model/RecordId" = some m.cls := findClass_of_methodNamed Bd.named
  have hnm := (name_of_methodNamed Bd.named Bd.method).1
  have X0 : Stand p l e ({ frames := 0, cells := 0, slots := 0, locals := 0 } : Room) s m #[(.ref a), .null] below meth c s₁ [] 0 0 := Stand.of_body Bd
  have e0 : s₁.heap = h0 := by rw [← hh, Bd.state]; rfl
  have N0 := Fr.nil n0
  show Goes p e below s FrameEnd ({ frames := 0, cells := 0, slots := 0, locals := 0 } : Room).cells ({ frames := 0, cells := 0, slots := 0, locals := 0 } : Room).slots (Q_rm_eqN Z a h0 n0) s₁ (entryFrame m #[(.ref a), .null] 3)
  refine Goes.cast (ef_rm_eqN m a) ?_
  refine Goes.to (T' := s₁) (mkF m 1 #[.val (.ref a), .val .null, .unset] [.null]) (fun t k => XS.aloadN X0.here hx rfl (hb hby d10_0) rfl rfl k) ?_
  refine Goes.to (T' := s₁) (mkF m 4 #[.val (.ref a), .val .null, .unset] [(.int (0 : Int32))]) (fun t k => X0.instanceofNull hx (g := (mkF m 1 #[.val (.ref a), .val .null, .unset] [.null])) rfl rfl (hb hby d10_1) _ k) ?_
  refine Goes.to (T' := s₁) (mkF m 41 #[.val (.ref a), .val .null, .unset] []) (fun t k => XS.ifYes X0.here hx rfl (pc0 := 4) (pc' := 41) rfl (hb hby d10_4) rfl ((if0 _ _).trans (teq ((by decide) : (0 : Int32) = (0 : Int32))).1) (by decide) (by decide) k) ?_
  refine Goes.to (T' := s₁) (mkF m 42 #[.val (.ref a), .val .null, .unset] [(.int (0 : Int32))]) (fun t k => XS.iconst X0.here hx rfl (hb hby d10_41) k) ?_
  refine Goes.retN X0 hx Bd.notSynchronized (t := .boolean) Bd.returns (by simp) (hb hby d10_42) (by decide) (by decide) ?_
  rw [e0]
  exact ⟨rfl, N0, rfl⟩
theorem ef_rm_eqS (m : MethodId) (x0 : Addr) (x1 : Addr) : entryFrame m #[(.ref x0), (.ref x1)] 3 = mkF m 0 #[.val (.ref x0), .val (.ref x1), .unset] [] := by first | (simp [entryFrame, mkF, argsToLocals, Value.category]; done) | rfl
def Q_rm_eqS (Z : State) (a b : Addr) (h0 : Heap) (n0 : Nat) (v : Option Value) (h : Heap) (L : List Loc) : Prop := v = some (.int 0) ∧ Fr n0 L ∧ h = h0
theorem own_noRid {Z : State} {a0 : Array Value} (hw : ∀ d ∈ tables_1, d.before a0 Z = true) : ∃ c t, Z.vm.findClass "java/lang/String" = some c ∧ Z.vm.findClass "com/example/lachesis/lachesis/model/RecordId" = some t ∧ Z.vm.assignable c t = false := by
  have w := hw _ (List.mem_of_getElem? (i := 80) rfl)
  have wr := hw _ (List.mem_of_getElem? (i := 81) rfl)
  have wk := hw _ (List.mem_of_getElem? (i := 27) rfl)
  obtain ⟨t, kt, g1, g2, g3, g4, -⟩ := Cond.instantiable_spec wk
  obtain ⟨co, ko, o1, o2, o3, -, -⟩ := Cond.noSuperclass_spec wr
  obtain ⟨cs, h0⟩ := found_sup w
  obtain ⟨p, k, kp, h1, h2, h3, h4, h5, -, h7⟩ := Cond.superclass_spec h0 w
  have e1 : co = p := Option.some.inj (o1.symm.trans h1)
  have ne := ids_ne h0 g1 (by decide)
  have ne2 := ids_ne o1 g1 (by decide)
  refine ⟨cs, t, h0, g1, ?_⟩
  subst e1
  have hs : ∀ fuel, Z.vm.isSubclassAux fuel co t = false := fun fuel => by
    cases fuel with
    | zero => rfl
    | succ f => simp [Vm.isSubclassAux, ne2, o2, o3]
  have hs2 : ∀ fuel, Z.vm.isSubclassAux fuel cs t = false := fun fuel => by
    cases fuel with
    | zero => rfl
    | succ f => simp [Vm.isSubclassAux, ne, h2, h4, hs]
  have gi : kt.isInterface = false := (Bool.or_eq_false_iff.mp g4).1
  show Z.vm.assignableAux (255 + 1) cs t = false
  simp [Vm.assignableAux, ne, h2, g2, h5, g3, gi, Vm.isSubclass, hs2]
set_option maxRecDepth 65536 in
set_option maxHeartbeats 40000000 in
theorem rm_eqS (l : Launch) (Z : State) (a0 : Array Value) (hw : ∀ d ∈ tables_1, d.before a0 Z = true) (ws : List Jvm.Cond) (a b : Addr) (h0 : Heap) (n0 : Nat) (O : Old Z n0 h0) (E_b : Exa Z h0 b "java/lang/String") :
    MetFree l (⟨"com/example/lachesis/lachesis/model/RecordId", "equals", "(Ljava/lang/Object;)Z"⟩ : MethodName) (head1 (Jvm.Cond.code (⟨"com/example/lachesis/lachesis/model/RecordId", "equals", "(Ljava/lang/Object;)Z"⟩ : MethodName) prog_53_method_4_code 3 (some .boolean) :: ws) ({ frames := 0, cells := 0, slots := 0, locals := 0 } : Room)) (fun aa U => aa = #[(.ref a), (.ref b)] ∧ Z.Warmed39 U.vm ∧ U.heap = h0) (fun _ _ _ _ _ => True) (fun _ U o U' => ∃ v L, o = .returned v ∧ Q_rm_eqS Z a b h0 n0 v U'.heap L ∧ FrameEnd U o U' L ({ frames := 0, cells := 0, slots := 0, locals := 0 } : Room).cells ({ frames := 0, cells := 0, slots := 0, locals := 0 } : Room).slots) := by
  refine MetFree.of_bodySF (plainFor_of_name pn_com_example_lachesis_lachesis_model_RecordId) hisR ?_
  intro p e s m args below meth c s₁ Bd hml0 hP hK
  obtain ⟨rfl, hZ, hh⟩ := hP
  have hx := Bd.exec
  have hby := Bd.bytes
  have hml : c.maxLocals = 3 := hml0
  have hown : s.vm.findClass "com/example/lachesis/lachesis/model/RecordId" = some m.cls := findClass_of_methodNamed Bd.named
  have hnm := (name_of_methodNamed Bd.named Bd.method).1
  have X0 : Stand p l e ({ frames := 0, cells := 0, slots := 0, locals := 0 } : Room) s m #[(.ref a), (.ref b)] below meth c s₁ [] 0 0 := Stand.of_body Bd
  have e0 : s₁.heap = h0 := by rw [← hh, Bd.state]; rfl
  have N0 := Fr.nil n0
  show Goes p e below s FrameEnd ({ frames := 0, cells := 0, slots := 0, locals := 0 } : Room).cells ({ frames := 0, cells := 0, slots := 0, locals := 0 } : Room).slots (Q_rm_eqS Z a b h0 n0) s₁ (entryFrame m #[(.ref a), (.ref b)] 3)
  refine Goes.cast (ef_rm_eqS m a b) ?_
  refine Goes.to (T' := s₁) (mkF m 1 #[.val (.ref a), .val (.ref b), .unset] [(.ref b)]) (fun t k => XS.aloadN X0.here hx rfl (hb hby d10_0) rfl rfl k) ?_
  obtain ⟨T1, X1, e1, st1⟩ := instNo X0 hx hZ hown (hw _ (List.mem_of_getElem? (i := 79) rfl)) e0 E_b (own_noRid hw) (g := (mkF m 1 #[.val (.ref a), .val (.ref b), .unset] [(.ref b)])) rfl rfl (hb hby d10_1)
  refine Goes.to (T' := T1) (mkF m 4 #[.val (.ref a), .val (.ref b), .unset] [(.int (0 : Int32))]) st1 ?_
  refine Goes.to (T' := T1) (mkF m 41 #[.val (.ref a), .val (.ref b), .unset] []) (fun t k => XS.ifYes X1.here hx rfl (pc0 := 4) (pc' := 41) rfl (hb hby d10_4) rfl ((if0 _ _).trans (teq ((by decide) : (0 : Int32) = (0 : Int32))).1) (by decide) (by decide) k) ?_
  refine Goes.to (T' := T1) (mkF m 42 #[.val (.ref a), .val (.ref b), .unset] [(.int (0 : Int32))]) (fun t k => XS.iconst X1.here hx rfl (hb hby d10_41) k) ?_
  refine Goes.retN X1 hx Bd.notSynchronized (t := .boolean) Bd.returns (by simp) (hb hby d10_42) (by decide) (by decide) ?_
  rw [e1]
  exact ⟨rfl, N0, rfl⟩
theorem ef_rm_eqR (m : MethodId) (x0 : Addr) (x1 : Addr) : entryFrame m #[(.ref x0), (.ref x1)] 3 = mkF m 0 #[.val (.ref x0), .val (.ref x1), .unset] [] := by first | (simp [entryFrame, mkF, argsToLocals, Value.category]; done) | rfl
def Q_rm_eqR (Z : State) (a b s1 t1 s2 t2 : Addr) (k1 k2 : ClassId) (m1 m2 n1 n2 cz : Int32) (vs1 vs2 : List Value) (cs1 cs2 : List Int32) (h0 : Heap) (n0 : Nat) (v : Option Value) (h : Heap) (L : List Loc) : Prop := v = some (.int (bit (cs2 = cs1 ∧ n2 = n1))) ∧ Fr n0 L ∧ h = h0
theorem d10_7 : decode prog_53_method_4_code 7 = .ok (.aload_n 1, 1) := by decide +kernel
theorem d10_8 : decode prog_53_method_4_code 8 = .ok (.checkcast 18, 3) := by decide +kernel
theorem d10_11 : decode prog_53_method_4_code 11 = .ok (.astore_n 2, 1) := by decide +kernel
theorem d10_12 : decode prog_53_method_4_code 12 = .ok (.aload_n 2, 1) := by decide +kernel
theorem d10_13 : decode prog_53_method_4_code 13 = .ok (.getfield 17, 3) := by decide +kernel
theorem d10_16 : decode prog_53_method_4_code 16 = .ok (.aload_n 0, 1) := by decide +kernel
theorem d10_17 : decode prog_53_method_4_code 17 = .ok (.getfield 17, 3) := by decide +kernel
theorem d10_20 : decode prog_53_method_4_code 20 = .ok (.invokevirtual 33, 3) := by decide +kernel
theorem pd_8 : parseMethodDescriptor "(Ljava/lang/Object;)Z" = some ⟨[(.object "java/lang/Object")], some .boolean⟩ := by decide +kernel
theorem d10_23 : decode prog_53_method_4_code 23 = .ok (.ifCond .eq 18, 3) := by decide +kernel
theorem d10_26 : decode prog_53_method_4_code 26 = .ok (.aload_n 2, 1) := by decide +kernel
theorem d10_27 : decode prog_53_method_4_code 27 = .ok (.getfield 22, 3) := by decide +kernel
theorem d10_30 : decode prog_53_method_4_code 30 = .ok (.aload_n 0, 1) := by decide +kernel
theorem d10_31 : decode prog_53_method_4_code 31 = .ok (.getfield 22, 3) := by decide +kernel
theorem d10_34 : decode prog_53_method_4_code 34 = .ok (.if_icmp .ne 7, 3) := by decide +kernel
theorem d10_37 : decode prog_53_method_4_code 37 = .ok (.iconst 1, 1) := by decide +kernel
theorem d10_38 : decode prog_53_method_4_code 38 = .ok (.goto 4, 3) := by decide +kernel
set_option maxRecDepth 65536 in
set_option maxHeartbeats 40000000 in
theorem rm_eqR (l : Launch) (Z : State) (a0 : Array Value) (hw : ∀ d ∈ tables_1, d.before a0 Z = true) (ws : List Jvm.Cond) (a b s1 t1 s2 t2 : Addr) (k1 k2 : ClassId) (m1 m2 n1 n2 cz : Int32) (vs1 vs2 : List Value) (cs1 cs2 : List Int32) (h0 : Heap) (n0 : Nat) (O : Old Z n0 h0) (F_ta : Fld Z h0 a "com/example/lachesis/lachesis/model/RecordId" "activity" "Ljava/lang/String;" (.ref s1)) (F_ia : Fld Z h0 a "com/example/lachesis/lachesis/model/RecordId" "instance" "I" (.int n1)) (F_tb : Fld Z h0 b "com/example/lachesis/lachesis/model/RecordId" "activity" "Ljava/lang/String;" (.ref s2)) (F_ib : Fld Z h0 b "com/example/lachesis/lachesis/model/RecordId" "instance" "I" (.int n2)) (E_b : Exa Z h0 b "com/example/lachesis/lachesis/model/RecordId") (E_s1 : Exa Z h0 s1 "java/lang/String") (F_v1 : Fld Z h0 s1 "java/lang/String" "value" "[B" (.ref t1)) (F_c1 : Fld Z h0 s1 "java/lang/String" "coder" "B" (.int 0)) (V_t1 : Arv Z h0 t1 k1 .byte m1 vs1 (.int 0)) (hcd1 : StrChars.Road.CodA cs1 0 m1 vs1) (hbd1 : ∀ c ∈ cs1, ¬ c < 0 ∧ ¬ (65535 : Int32) < c) (hl1 : cs1.length ≤ 4000) (E_s2 : Exa Z h0 s2 "java/lang/String") (F_v2 : Fld Z h0 s2 "java/lang/String" "value" "[B" (.ref t2)) (F_c2 : Fld Z h0 s2 "java/lang/String" "coder" "B" (.int 0)) (V_t2 : Arv Z h0 t2 k2 .byte m2 vs2 (.int 0)) (hcd2 : StrChars.Road.CodA cs2 0 m2 vs2) (hbd2 : ∀ c ∈ cs2, ¬ c < 0 ∧ ¬ (65535 : Int32) < c) (hl2 : cs2.length ≤ 4000) (S_CS : Sta Z Z.heap "java/lang/String" "COMPACT_STRINGS" "Z" (.int cz)) (hcz : ¬ cz = 0) :
    MetFree l (⟨"com/example/lachesis/lachesis/model/RecordId", "equals", "(Ljava/lang/Object;)Z"⟩ : MethodName) (head1 (Jvm.Cond.code (⟨"com/example/lachesis/lachesis/model/RecordId", "equals", "(Ljava/lang/Object;)Z"⟩ : MethodName) prog_53_method_4_code 3 (some .boolean) :: ws) ({ frames := 2, cells := 0, slots := 0, locals := 40 } : Room)) (fun aa U => aa = #[(.ref a), (.ref b)] ∧ Z.Warmed39 U.vm ∧ U.heap = h0) (fun _ _ _ _ _ => True) (fun _ U o U' => ∃ v L, o = .returned v ∧ Q_rm_eqR Z a b s1 t1 s2 t2 k1 k2 m1 m2 n1 n2 cz vs1 vs2 cs1 cs2 h0 n0 v U'.heap L ∧ FrameEnd U o U' L ({ frames := 2, cells := 0, slots := 0, locals := 40 } : Room).cells ({ frames := 2, cells := 0, slots := 0, locals := 40 } : Room).slots) := by
  refine MetFree.of_bodySF (plainFor_of_name pn_com_example_lachesis_lachesis_model_RecordId) hisR ?_
  intro p e s m args below meth c s₁ Bd hml0 hP hK
  obtain ⟨rfl, hZ, hh⟩ := hP
  have hx := Bd.exec
  have hby := Bd.bytes
  have hml : c.maxLocals = 3 := hml0
  have hown : s.vm.findClass "com/example/lachesis/lachesis/model/RecordId" = some m.cls := findClass_of_methodNamed Bd.named
  have hnm := (name_of_methodNamed Bd.named Bd.method).1
  have X0 : Stand p l e ({ frames := 2, cells := 0, slots := 0, locals := 40 } : Room) s m #[(.ref a), (.ref b)] below meth c s₁ [] 0 0 := Stand.of_body Bd
  have e0 : s₁.heap = h0 := by rw [← hh, Bd.state]; rfl
  have N0 := Fr.nil n0
  show Goes p e below s FrameEnd ({ frames := 2, cells := 0, slots := 0, locals := 40 } : Room).cells ({ frames := 2, cells := 0, slots := 0, locals := 40 } : Room).slots (Q_rm_eqR Z a b s1 t1 s2 t2 k1 k2 m1 m2 n1 n2 cz vs1 vs2 cs1 cs2 h0 n0) s₁ (entryFrame m #[(.ref a), (.ref b)] 3)
  refine Goes.cast (ef_rm_eqR m a b) ?_
  refine Goes.to (T' := s₁) (mkF m 1 #[.val (.ref a), .val (.ref b), .unset] [(.ref b)]) (fun t k => XS.aloadN X0.here hx rfl (hb hby d10_0) rfl rfl k) ?_
  obtain ⟨T1, X1, e1, st1⟩ := instY X0 hx hZ hown (hw _ (List.mem_of_getElem? (i := 79) rfl)) e0 (Ins.self E_b) (g := (mkF m 1 #[.val (.ref a), .val (.ref b), .unset] [(.ref b)])) rfl rfl (hb hby d10_1)
  refine Goes.to (T' := T1) (mkF m 4 #[.val (.ref a), .val (.ref b), .unset] [(.int (1 : Int32))]) st1 ?_
  refine Goes.to (T' := T1) (mkF m 7 #[.val (.ref a), .val (.ref b), .unset] []) (fun t k => XS.ifNo X1.here hx rfl (hb hby d10_4) rfl ((if0 _ _).trans (feq ((by decide) : ¬ ((1 : Int32) = (0 : Int32)))).1) k) ?_
  refine Goes.to (T' := T1) (mkF m 8 #[.val (.ref a), .val (.ref b), .unset] [(.ref b)]) (fun t k => XS.aloadN X1.here hx rfl (hb hby d10_7) rfl rfl k) ?_
  obtain ⟨T2, X2, e2, st2⟩ := castY X1 hx hZ hown (hw _ (List.mem_of_getElem? (i := 79) rfl)) e1 (Ins.self E_b) (g := (mkF m 8 #[.val (.ref a), .val (.ref b), .unset] [(.ref b)])) rfl rfl (hb hby d10_8)
  refine Goes.to (T' := T2) (mkF m 11 #[.val (.ref a), .val (.ref b), .unset] [(.ref b)]) st2 ?_
  refine Goes.to (T' := T2) (mkF m 12 #[.val (.ref a), .val (.ref b), .val (.ref b)] []) (fun t k => XS.astoreN X2.here hx rfl (hb hby d10_11) rfl rfl (l' := #[.val (.ref a), .val (.ref b), .val (.ref b)]) rfl k) ?_
  refine Goes.to (T' := T2) (mkF m 13 #[.val (.ref a), .val (.ref b), .val (.ref b)] [(.ref b)]) (fun t k => XS.aloadN X2.here hx rfl (hb hby d10_12) rfl rfl k) ?_
  obtain ⟨T3, X3, e3, st3⟩ := getF X2 hx hZ hown (host := "") (Or.inl (hw _ (List.mem_of_getElem? (i := 39) rfl))) Via.refl e2 F_tb (g := (mkF m 13 #[.val (.ref a), .val (.ref b), .val (.ref b)] [(.ref b)])) rfl rfl (hb hby d10_13)
  refine Goes.to (T' := T3) (mkF m 16 #[.val (.ref a), .val (.ref b), .val (.ref b)] [(.ref s2)]) st3 ?_
  refine Goes.to (T' := T3) (mkF m 17 #[.val (.ref a), .val (.ref b), .val (.ref b)] [(.ref a), (.ref s2)]) (fun t k => XS.aloadN X3.here hx rfl (hb hby d10_16) rfl rfl k) ?_
  obtain ⟨T4, X4, e4, st4⟩ := getF X3 hx hZ hown (host := "") (Or.inl (hw _ (List.mem_of_getElem? (i := 39) rfl))) Via.refl e3 F_ta (g := (mkF m 17 #[.val (.ref a), .val (.ref b), .val (.ref b)] [(.ref a), (.ref s2)])) rfl rfl (hb hby d10_17)
  refine Goes.to (T' := T4) (mkF m 20 #[.val (.ref a), .val (.ref b), .val (.ref b)] [(.ref s1), (.ref s2)]) st4 ?_
  obtain ⟨cq5, kq5, q5a, q5b, q5c⟩ := isOf hZ e4 E_s2
  obtain ⟨_, _, ⟨T5, L5, k5, n5⟩, -, X5, ⟨Lc5, hQ5, l5, y5, z5⟩, st5⟩ := X4.virtualBack hx (y := (⟨"java/lang/String", "equals", "(Ljava/lang/Object;)Z"⟩ : MethodName)) (z := (⟨"java/lang/String", "equals", "(Ljava/lang/Object;)Z"⟩ : MethodName)) hown (mvT hZ (hw _ (List.mem_of_getElem? (i := 83) rfl))) (mvT hZ (hw _ (List.mem_of_getElem? (i := 84) rfl))) (notFace_of_selects (args := #[]) (mvT hZ (hw _ (List.mem_of_getElem? (i := 86) rfl)))) (mvT hZ (hw _ (List.mem_of_getElem? (i := 86) rfl))) (mvT hZ (hw _ (List.mem_of_getElem? (i := 85) rfl))) (by decide) (own_eqv (n0 := n0) (StrChars.Road.eqW (W := 0) hZ (fun d hd => hw d (own_wordsE d hd)) (kI := 4) (hw _ (List.mem_of_getElem? (i := 5) rfl)) E_s2 F_v2 F_c2 V_t2 hcd2 hbd2 hl2 E_s1 F_v1 F_c1 V_t1 hcd1 hbd1 hl1 (S_CS.ext O.2) hcz (by decide) (by decide))) q5a q5c (g := (mkF m 20 #[.val (.ref a), .val (.ref b), .val (.ref b)] [(.ref s1), (.ref s2)])) rfl (by rw [hml]; rfl) (Steps.refl _) (argsL := [(.ref s1)]) (rest := []) (lenOf pd_8 rfl) rfl (by show 2 * 0 + _ ≤ _; exact Nat.le_of_eq rfl) (hb hby d10_20) (fun _ _ => ⟨rfl, e4, (by decide : 0 + 0 ≤ _), (by decide : 0 + 0 ≤ _)⟩)
  dsimp only [Pt.U, Pt.locs, Pt.cells, Pt.slots] at X5 l5 y5 z5 st5 hQ5
  subst l5 y5 z5
  obtain ⟨rfl, N5, hs5⟩ := hQ5
  have N5' := Fr.app N0 N5
  refine Goes.to (T' := T5) (mkF m 23 #[.val (.ref a), .val (.ref b), .val (.ref b)] [(.int (bit (cs2 = cs1)))]) (fun t k => st5.trans k) ?_
  by_cases hc23_6 : (bit (cs2 = cs1)) = (0 : Int32)
  · refine Goes.to (T' := T5) (mkF m 41 #[.val (.ref a), .val (.ref b), .val (.ref b)] []) (fun t k => XS.ifYes X5.here hx rfl (pc0 := 23) (pc' := 41) rfl (hb hby d10_23) rfl ((if0 _ _).trans (teq hc23_6).1) (by decide) (by decide) k) ?_
    refine Goes.to (T' := T5) (mkF m 42 #[.val (.ref a), .val (.ref b), .val (.ref b)] [(.int (0 : Int32))]) (fun t k => XS.iconst X5.here hx rfl (hb hby d10_41) k) ?_
    refine Goes.retN X5 hx Bd.notSynchronized (t := .boolean) Bd.returns (by simp) (hb hby d10_42) (by decide) (by decide) ?_
    rw [hs5]
    exact ⟨by rw [bit_f (fun q => own_bit0 hc23_6 q.1)]; rfl, N5', rfl⟩
  · refine Goes.to (T' := T5) (mkF m 26 #[.val (.ref a), .val (.ref b), .val (.ref b)] []) (fun t k => XS.ifNo X5.here hx rfl (hb hby d10_23) rfl ((if0 _ _).trans (feq hc23_6).1) k) ?_
    refine Goes.to (T' := T5) (mkF m 27 #[.val (.ref a), .val (.ref b), .val (.ref b)] [(.ref b)]) (fun t k => XS.aloadN X5.here hx rfl (hb hby d10_26) rfl rfl k) ?_
    obtain ⟨T7, X7, e7, st7⟩ := getF X5 hx hZ hown (host := "") (Or.inl (hw _ (List.mem_of_getElem? (i := 41) rfl))) Via.refl hs5 F_ib (g := (mkF m 27 #[.val (.ref a), .val (.ref b), .val (.ref b)] [(.ref b)])) rfl rfl (hb hby d10_27)
    refine Goes.to (T' := T7) (mkF m 30 #[.val (.ref a), .val (.ref b), .val (.ref b)] [(.int n2)]) st7 ?_
    refine Goes.to (T' := T7) (mkF m 31 #[.val (.ref a), .val (.ref b), .val (.ref b)] [(.ref a), (.int n2)]) (fun t k => XS.aloadN X7.here hx rfl (hb hby d10_30) rfl rfl k) ?_
    obtain ⟨T8, X8, e8, st8⟩ := getF X7 hx hZ hown (host := "") (Or.inl (hw _ (List.mem_of_getElem? (i := 41) rfl))) Via.refl e7 F_ia (g := (mkF m 31 #[.val (.ref a), .val (.ref b), .val (.ref b)] [(.ref a), (.int n2)])) rfl rfl (hb hby d10_31)
    refine Goes.to (T' := T8) (mkF m 34 #[.val (.ref a), .val (.ref b), .val (.ref b)] [(.int n1), (.int n2)]) st8 ?_
    by_cases hc34_9 : n2 = n1
    · refine Goes.to (T' := T8) (mkF m 37 #[.val (.ref a), .val (.ref b), .val (.ref b)] []) (fun t k => XS.icmpNo X8.here hx rfl (hb hby d10_34) rfl (teq hc34_9).2 k) ?_
      refine Goes.to (T' := T8) (mkF m 38 #[.val (.ref a), .val (.ref b), .val (.ref b)] [(.int (1 : Int32))]) (fun t k => XS.iconst X8.here hx rfl (hb hby d10_37) k) ?_
      refine Goes.to (T' := T8) (mkF m 42 #[.val (.ref a), .val (.ref b), .val (.ref b)] [(.int (1 : Int32))]) (fun t k => XS.goto X8.here hx rfl (pc0 := 38) (pc' := 42) rfl (hb hby d10_38) (by decide) (by decide) k) ?_
      refine Goes.retN X8 hx Bd.notSynchronized (t := .boolean) Bd.returns (by simp) (hb hby d10_42) (by decide) (by decide) ?_
      rw [e8]
      exact ⟨by rw [bit_t ⟨own_bit1 hc23_6, hc34_9⟩]; rfl, N5', rfl⟩
    · refine Goes.to (T' := T8) (mkF m 41 #[.val (.ref a), .val (.ref b), .val (.ref b)] []) (fun t k => XS.icmpYes X8.here hx rfl (pc0 := 34) (pc' := 41) rfl (hb hby d10_34) rfl (feq hc34_9).2 (by decide) (by decide) k) ?_
      refine Goes.to (T' := T8) (mkF m 42 #[.val (.ref a), .val (.ref b), .val (.ref b)] [(.int (0 : Int32))]) (fun t k => XS.iconst X8.here hx rfl (hb hby d10_41) k) ?_
      refine Goes.retN X8 hx Bd.notSynchronized (t := .boolean) Bd.returns (by simp) (hb hby d10_42) (by decide) (by decide) ?_
      rw [e8]
      exact ⟨by rw [bit_f (fun q => hc34_9 q.2)]; rfl, N5', rfl⟩
theorem ef_rm_law (m : MethodId) (x0 : Int32) (x1 : Int32) (x2 : Int32) (x3 : Int32) (x4 : Int32) (x5 : Int32) : entryFrame m #[(.int x0), (.int x1), (.int x2), (.int x3), (.int x4), (.int x5)] maxLocals = mkF m 0 #[.val (.int x0), .val (.int x1), .val (.int x2), .val (.int x3), .val (.int x4), .val (.int x5), .unset, .unset, .unset, .unset, .unset, .unset, .unset, .unset, .unset, .unset, .unset, .unset, .unset, .unset, .unset] [] := by first | (simp [entryFrame, mkF, argsToLocals, Value.category, maxLocals]; done) | rfl
def Q_rm_law (Z : State) (p0 p1 p2 p3 p4 p5 cz : Int32) (h0 : Heap) (n0 : Nat) (v : Option Value) (h : Heap) (L : List Loc) : Prop := v = some (.int 1) ∧ Fr n0 L
theorem pd_9 : parseMethodDescriptor "(IIII)Ljava/lang/String;" = some ⟨[.int, .int, .int, .int], some (.object "java/lang/String")⟩ := by decide +kernel
theorem pd_10 : parseMethodDescriptor "(Ljava/lang/String;I)V" = some ⟨[(.object "java/lang/String"), .int], none⟩ := by decide +kernel
set_option maxRecDepth 65536 in
set_option maxHeartbeats 40000000 in
theorem rm_law (l : Launch) (Z : State) (a0 : Array Value) (hw : ∀ d ∈ tables_1, d.before a0 Z = true) (ws : List Jvm.Cond) (p0 p1 p2 p3 p4 p5 cz : Int32) (h0 : Heap) (n0 : Nat) (O : Old Z n0 h0) (S_CS : Sta Z Z.heap "java/lang/String" "COMPACT_STRINGS" "Z" (.int cz)) (hcz : ¬ cz = 0) :
    MetFree l x (head1 (Jvm.Cond.code x code maxLocals ret :: ws) room_1) (fun aa U => aa = #[(.int p0), (.int p1), (.int p2), (.int p3), (.int p4), (.int p5)] ∧ Z.Warmed39 U.vm ∧ U.heap = h0 ∧ CHv Z consts_1 U.vm h0) (fun _ _ _ _ _ => True) (fun _ U o U' => ∃ v L, o = .returned v ∧ Q_rm_law Z p0 p1 p2 p3 p4 p5 cz h0 n0 v U'.heap L ∧ ReturnedEndW U o U' L room_1.cells room_1.slots) := by
  refine MetFree.of_bodySF (plainFor_of_name pn_com_example_lachesis_lachesis_model_RecordIdEqualsPinLaw) hisR ?_
  intro p e s m args below meth c s₁ Bd hml0 hP hK
  obtain ⟨rfl, hZ, hh, hC⟩ := hP
  have hx := Bd.exec
  have hby := Bd.bytes
  have hml : c.maxLocals = 21 := hml0
  have hown : s.vm.findClass "com/example/lachesis/lachesis/model/RecordIdEqualsPinLaw" = some m.cls := findClass_of_methodNamed Bd.named
  have hnm := (name_of_methodNamed Bd.named Bd.method).1
  have X0 : Stand p l e room_1 (s.setVm s.vm) m #[(.int p0), (.int p1), (.int p2), (.int p3), (.int p4), (.int p5)] below meth c s₁ [] 0 0 := Stand.of_body Bd
  have e0 : s₁.heap = h0 := by rw [← hh, Bd.state]; rfl
  have N0 := Fr.nil n0
  have hS0 : s.Since s.vm 0 := (State.WarmedH.refl s).since 0
  have hk0 : 0 ≤ h0.size := Nat.zero_le _
  replace hZ : Z.Warmed39 (s.setVm s.vm).vm := hZ
  replace hown : (s.setVm s.vm).vm.findClass "com/example/lachesis/lachesis/model/RecordIdEqualsPinLaw" = some m.cls := hown
  have C : CHr Z consts_1 s.vm s.heap s.vm h0 := by rw [hh]; exact CHr.refl hC
  have hEL : EW Z a0 consts_1 := own_EW hw
  show Goes p e below s ReturnedEndW room_1.cells room_1.slots (Q_rm_law Z p0 p1 p2 p3 p4 p5 cz h0 n0) s₁ (entryFrame m #[(.int p0), (.int p1), (.int p2), (.int p3), (.int p4), (.int p5)] maxLocals)
  refine Goes.cast (ef_rm_law m p0 p1 p2 p3 p4 p5) ?_
  refine Goes.to (T' := s₁) (mkF m 1 #[.val (.int p0), .val (.int p1), .val (.int p2), .val (.int p3), .val (.int p4), .val (.int p5), .unset, .unset, .unset, .unset, .unset, .unset, .unset, .unset, .unset, .unset, .unset, .unset, .unset, .unset, .unset] [(.int p0)]) (fun t k => XS.iloadN X0.here hx rfl (hb hby at_0) rfl k) ?_
  refine Goes.to (T' := s₁) (mkF m 2 #[.val (.int p0), .val (.int p1), .val (.int p2), .val (.int p3), .val (.int p4), .val (.int p5), .unset, .unset, .unset, .unset, .unset, .unset, .unset, .unset, .unset, .unset, .unset, .unset, .unset, .unset, .unset] [(.int (3 : Int32)), (.int p0)]) (fun t k => XS.iconst X0.here hx rfl (hb hby at_1) k) ?_
  refine Goes.to (T' := s₁) (mkF m 3 #[.val (.int p0), .val (.int p1), .val (.int p2), .val (.int p3), .val (.int p4), .val (.int p5), .unset, .unset, .unset, .unset, .unset, .unset, .unset, .unset, .unset, .unset, .unset, .unset, .unset, .unset, .unset] [(.int (p0 &&& (3 : Int32)))]) (fun t k => XS.iand X0.here hx rfl (hb hby at_2) rfl k) ?_
  obtain ⟨la, la_eq⟩ : ∃ z, z = (p0 &&& (3 : Int32)) := ⟨_, rfl⟩
  rw [← la_eq]
  have hla : la = 0 ∨ la = 1 ∨ la = 2 ∨ la = 3 := by rw [la_eq]; exact own_m4 _
  refine Goes.to (T' := s₁) (mkF m 5 #[.val (.int p0), .val (.int p1), .val (.int p2), .val (.int p3), .val (.int p4), .val (.int p5), .val (.int la), .unset, .unset, .unset, .unset, .unset, .unset, .unset, .unset, .unset, .unset, .unset, .unset, .unset, .unset] []) (fun t k => XS.istore X0.here hx rfl (hb hby at_3) rfl (l' := #[.val (.int p0), .val (.int p1), .val (.int p2), .val (.int p3), .val (.int p4), .val (.int p5), .val (.int la), .unset, .unset, .unset, .unset, .unset, .unset, .unset, .unset, .unset, .unset, .unset, .unset, .unset, .unset]) rfl k) ?_
  refine Goes.to (T' := s₁) (mkF m 6 #[.val (.int p0), .val (.int p1), .val (.int p2), .val (.int p3), .val (.int p4), .val (.int p5), .val (.int la), .unset, .unset, .unset, .unset, .unset, .unset, .unset, .unset, .unset, .unset, .unset, .unset, .unset, .unset] [(.int p0)]) (fun t k => XS.iloadN X0.here hx rfl (hb hby at_5) rfl k) ?_
  refine Goes.to (T' := s₁) (mkF m 7 #[.val (.int p0), .val (.int p1), .val (.int p2), .val (.int p3), .val (.int p4), .val (.int p5), .val (.int la), .unset, .unset, .unset, .unset, .unset, .unset, .unset, .unset, .unset, .unset, .unset, .unset, .unset, .unset] [(.int (2 : Int32)), (.int p0)]) (fun t k => XS.iconst X0.here hx rfl (hb hby at_6) k) ?_
  refine Goes.to (T' := s₁) (mkF m 8 #[.val (.int p0), .val (.int p1), .val (.int p2), .val (.int p3), .val (.int p4), .val (.int p5), .val (.int la), .unset, .unset, .unset, .unset, .unset, .unset, .unset, .unset, .unset, .unset, .unset, .unset, .unset, .unset] [(.int ((p0.toUInt32 >>> ((2 : Int32) &&& 31).toUInt32).toInt32))]) (fun t k => XS.iushr X0.here hx rfl (hb hby at_7) rfl k) ?_
  refine Goes.to (T' := s₁) (mkF m 9 #[.val (.int p0), .val (.int p1), .val (.int p2), .val (.int p3), .val (.int p4), .val (.int p5), .val (.int la), .unset, .unset, .unset, .unset, .unset, .unset, .unset, .unset, .unset, .unset, .unset, .unset, .unset, .unset] [(.int (3 : Int32)), (.int ((p0.toUInt32 >>> ((2 : Int32) &&& 31).toUInt32).toInt32))]) (fun t k => XS.iconst X0.here hx rfl (hb hby at_8) k) ?_
  refine Goes.to (T' := s₁) (mkF m 10 #[.val (.int p0), .val (.int p1), .val (.int p2), .val (.int p3), .val (.int p4), .val (.int p5), .val (.int la), .unset, .unset, .unset, .unset, .unset, .unset, .unset, .unset, .unset, .unset, .unset, .unset, .unset, .unset] [(.int (((p0.toUInt32 >>> ((2 : Int32) &&& 31).toUInt32).toInt32) &&& (3 : Int32)))]) (fun t k => XS.iand X0.here hx rfl (hb hby at_9) rfl k) ?_
  obtain ⟨lb, lb_eq⟩ : ∃ z, z = (((p0.toUInt32 >>> ((2 : Int32) &&& 31).toUInt32).toInt32) &&& (3 : Int32)) := ⟨_, rfl⟩
  rw [← lb_eq]
  have hlb : lb = 0 ∨ lb = 1 ∨ lb = 2 ∨ lb = 3 := by rw [lb_eq]; exact own_m4 _
  refine Goes.to (T' := s₁) (mkF m 12 #[.val (.int p0), .val (.int p1), .val (.int p2), .val (.int p3), .val (.int p4), .val (.int p5), .val (.int la), .val (.int lb), .unset, .unset, .unset, .unset, .unset, .unset, .unset, .unset, .unset, .unset, .unset, .unset, .unset] []) (fun t k => XS.istore X0.here hx rfl (hb hby at_10) rfl (l' := #[.val (.int p0), .val (.int p1), .val (.int p2), .val (.int p3), .val (.int p4), .val (.int p5), .val (.int la), .val (.int lb), .unset, .unset, .unset, .unset, .unset, .unset, .unset, .unset, .unset, .unset, .unset, .unset, .unset]) rfl k) ?_
  refine Goes.to (T' := s₁) (mkF m 13 #[.val (.int p0), .val (.int p1), .val (.int p2), .val (.int p3), .val (.int p4), .val (.int p5), .val (.int la), .val (.int lb), .unset, .unset, .unset, .unset, .unset, .unset, .unset, .unset, .unset, .unset, .unset, .unset, .unset] [(.int p1)]) (fun t k => XS.iloadN X0.here hx rfl (hb hby at_12) rfl k) ?_
  refine Goes.to (T' := s₁) (mkF m 16 #[.val (.int p0), .val (.int p1), .val (.int p2), .val (.int p3), .val (.int p4), .val (.int p5), .val (.int la), .val (.int lb), .unset, .unset, .unset, .unset, .unset, .unset, .unset, .unset, .unset, .unset, .unset, .unset, .unset] [(.int (255 : Int32)), (.int p1)]) (fun t k => XS.sipush X0.here hx rfl (hb hby at_13) k) ?_
  refine Goes.to (T' := s₁) (mkF m 17 #[.val (.int p0), .val (.int p1), .val (.int p2), .val (.int p3), .val (.int p4), .val (.int p5), .val (.int la), .val (.int lb), .unset, .unset, .unset, .unset, .unset, .unset, .unset, .unset, .unset, .unset, .unset, .unset, .unset] [(.int (p1 &&& (255 : Int32)))]) (fun t k => XS.iand X0.here hx rfl (hb hby at_16) rfl k) ?_
  obtain ⟨c0, c0_eq⟩ : ∃ z, z = (p1 &&& (255 : Int32)) := ⟨_, rfl⟩
  rw [← c0_eq]
  have hx0 : ¬ c0 < 0 ∧ ¬ (255 : Int32) < c0 := by rw [c0_eq]; exact own_a255 _
  refine Goes.to (T' := s₁) (mkF m 19 #[.val (.int p0), .val (.int p1), .val (.int p2), .val (.int p3), .val (.int p4), .val (.int p5), .val (.int la), .val (.int lb), .val (.int c0), .unset, .unset, .unset, .unset, .unset, .unset, .unset, .unset, .unset, .unset, .unset, .unset] []) (fun t k => XS.istore X0.here hx rfl (hb hby at_17) rfl (l' := #[.val (.int p0), .val (.int p1), .val (.int p2), .val (.int p3), .val (.int p4), .val (.int p5), .val (.int la), .val (.int lb), .val (.int c0), .unset, .unset, .unset, .unset, .unset, .unset, .unset, .unset, .unset, .unset, .unset, .unset]) rfl k) ?_
  refine Goes.to (T' := s₁) (mkF m 20 #[.val (.int p0), .val (.int p1), .val (.int p2), .val (.int p3), .val (.int p4), .val (.int p5), .val (.int la), .val (.int lb), .val (.int c0), .unset, .unset, .unset, .unset, .unset, .unset, .unset, .unset, .unset, .unset, .unset, .unset] [(.int p1)]) (fun t k => XS.iloadN X0.here hx rfl (hb hby at_19) rfl k) ?_
  refine Goes.to (T' := s₁) (mkF m 22 #[.val (.int p0), .val (.int p1), .val (.int p2), .val (.int p3), .val (.int p4), .val (.int p5), .val (.int la), .val (.int lb), .val (.int c0), .unset, .unset, .unset, .unset, .unset, .unset, .unset, .unset, .unset, .unset, .unset, .unset] [(.int (8 : Int32)), (.int p1)]) (fun t k => XS.bipush X0.here hx rfl (hb hby at_20) k) ?_
  refine Goes.to (T' := s₁) (mkF m 23 #[.val (.int p0), .val (.int p1), .val (.int p2), .val (.int p3), .val (.int p4), .val (.int p5), .val (.int la), .val (.int lb), .val (.int c0), .unset, .unset, .unset, .unset, .unset, .unset, .unset, .unset, .unset, .unset, .unset, .unset] [(.int ((p1.toUInt32 >>> ((8 : Int32) &&& 31).toUInt32).toInt32))]) (fun t k => XS.iushr X0.here hx rfl (hb hby at_22) rfl k) ?_
  refine Goes.to (T' := s₁) (mkF m 26 #[.val (.int p0), .val (.int p1), .val (.int p2), .val (.int p3), .val (.int p4), .val (.int p5), .val (.int la), .val (.int lb), .val (.int c0), .unset, .unset, .unset, .unset, .unset, .unset, .unset, .unset, .unset, .unset, .unset, .unset] [(.int (255 : Int32)), (.int ((p1.toUInt32 >>> ((8 : Int32) &&& 31).toUInt32).toInt32))]) (fun t k => XS.sipush X0.here hx rfl (hb hby at_23) k) ?_
  refine Goes.to (T' := s₁) (mkF m 27 #[.val (.int p0), .val (.int p1), .val (.int p2), .val (.int p3), .val (.int p4), .val (.int p5), .val (.int la), .val (.int lb), .val (.int c0), .unset, .unset, .unset, .unset, .unset, .unset, .unset, .unset, .unset, .unset, .unset, .unset] [(.int (((p1.toUInt32 >>> ((8 : Int32) &&& 31).toUInt32).toInt32) &&& (255 : Int32)))]) (fun t k => XS.iand X0.here hx rfl (hb hby at_26) rfl k) ?_
  obtain ⟨c1, c1_eq⟩ : ∃ z, z = (((p1.toUInt32 >>> ((8 : Int32) &&& 31).toUInt32).toInt32) &&& (255 : Int32)) := ⟨_, rfl⟩
  rw [← c1_eq]
  have hx1 : ¬ c1 < 0 ∧ ¬ (255 : Int32) < c1 := by rw [c1_eq]; exact own_a255 _
  refine Goes.to (T' := s₁) (mkF m 29 #[.val (.int p0), .val (.int p1), .val (.int p2), .val (.int p3), .val (.int p4), .val (.int p5), .val (.int la), .val (.int lb), .val (.int c0), .val (.int c1), .unset, .unset, .unset, .unset, .unset, .unset, .unset, .unset, .unset, .unset, .unset] []) (fun t k => XS.istore X0.here hx rfl (hb hby at_27) rfl (l' := #[.val (.int p0), .val (.int p1), .val (.int p2), .val (.int p3), .val (.int p4), .val (.int p5), .val (.int la), .val (.int lb), .val (.int c0), .val (.int c1), .unset, .unset, .unset, .unset, .unset, .unset, .unset, .unset, .unset, .unset, .unset]) rfl k) ?_
  refine Goes.to (T' := s₁) (mkF m 30 #[.val (.int p0), .val (.int p1), .val (.int p2), .val (.int p3), .val (.int p4), .val (.int p5), .val (.int la), .val (.int lb), .val (.int c0), .val (.int c1), .unset, .unset, .unset, .unset, .unset, .unset, .unset, .unset, .unset, .unset, .unset] [(.int p1)]) (fun t k => XS.iloadN X0.here hx rfl (hb hby at_29) rfl k) ?_
  refine Goes.to (T' := s₁) (mkF m 32 #[.val (.int p0), .val (.int p1), .val (.int p2), .val (.int p3), .val (.int p4), .val (.int p5), .val (.int la), .val (.int lb), .val (.int c0), .val (.int c1), .unset, .unset, .unset, .unset, .unset, .unset, .unset, .unset, .unset, .unset, .unset] [(.int (16 : Int32)), (.int p1)]) (fun t k => XS.bipush X0.here hx rfl (hb hby at_30) k) ?_
  refine Goes.to (T' := s₁) (mkF m 33 #[.val (.int p0), .val (.int p1), .val (.int p2), .val (.int p3), .val (.int p4), .val (.int p5), .val (.int la), .val (.int lb), .val (.int c0), .val (.int c1), .unset, .unset, .unset, .unset, .unset, .unset, .unset, .unset, .unset, .unset, .unset] [(.int ((p1.toUInt32 >>> ((16 : Int32) &&& 31).toUInt32).toInt32))]) (fun t k => XS.iushr X0.here hx rfl (hb hby at_32) rfl k) ?_
  refine Goes.to (T' := s₁) (mkF m 36 #[.val (.int p0), .val (.int p1), .val (.int p2), .val (.int p3), .val (.int p4), .val (.int p5), .val (.int la), .val (.int lb), .val (.int c0), .val (.int c1), .unset, .unset, .unset, .unset, .unset, .unset, .unset, .unset, .unset, .unset, .unset] [(.int (255 : Int32)), (.int ((p1.toUInt32 >>> ((16 : Int32) &&& 31).toUInt32).toInt32))]) (fun t k => XS.sipush X0.here hx rfl (hb hby at_33) k) ?_
  refine Goes.to (T' := s₁) (mkF m 37 #[.val (.int p0), .val (.int p1), .val (.int p2), .val (.int p3), .val (.int p4), .val (.int p5), .val (.int la), .val (.int lb), .val (.int c0), .val (.int c1), .unset, .unset, .unset, .unset, .unset, .unset, .unset, .unset, .unset, .unset, .unset] [(.int (((p1.toUInt32 >>> ((16 : Int32) &&& 31).toUInt32).toInt32) &&& (255 : Int32)))]) (fun t k => XS.iand X0.here hx rfl (hb hby at_36) rfl k) ?_
  obtain ⟨c2, c2_eq⟩ : ∃ z, z = (((p1.toUInt32 >>> ((16 : Int32) &&& 31).toUInt32).toInt32) &&& (255 : Int32)) := ⟨_, rfl⟩
  rw [← c2_eq]
  have hx2 : ¬ c2 < 0 ∧ ¬ (255 : Int32) < c2 := by rw [c2_eq]; exact own_a255 _
  refine Goes.to (T' := s₁) (mkF m 39 #[.val (.int p0), .val (.int p1), .val (.int p2), .val (.int p3), .val (.int p4), .val (.int p5), .val (.int la), .val (.int lb), .val (.int c0), .val (.int c1), .val (.int c2), .unset, .unset, .unset, .unset, .unset, .unset, .unset, .unset, .unset, .unset] []) (fun t k => XS.istore X0.here hx rfl (hb hby at_37) rfl (l' := #[.val (.int p0), .val (.int p1), .val (.int p2), .val (.int p3), .val (.int p4), .val (.int p5), .val (.int la), .val (.int lb), .val (.int c0), .val (.int c1), .val (.int c2), .unset, .unset, .unset, .unset, .unset, .unset, .unset, .unset, .unset, .unset]) rfl k) ?_
  refine Goes.to (T' := s₁) (mkF m 41 #[.val (.int p0), .val (.int p1), .val (.int p2), .val (.int p3), .val (.int p4), .val (.int p5), .val (.int la), .val (.int lb), .val (.int c0), .val (.int c1), .val (.int c2), .unset, .unset, .unset, .unset, .unset, .unset, .unset, .unset, .unset, .unset] [(.int c0)]) (fun t k => XS.iload X0.here hx rfl (hb hby at_39) rfl k) ?_
  refine Goes.to (T' := s₁) (mkF m 42 #[.val (.int p0), .val (.int p1), .val (.int p2), .val (.int p3), .val (.int p4), .val (.int p5), .val (.int la), .val (.int lb), .val (.int c0), .val (.int c1), .val (.int c2), .unset, .unset, .unset, .unset, .unset, .unset, .unset, .unset, .unset, .unset] [(.int p2), (.int c0)]) (fun t k => XS.iloadN X0.here hx rfl (hb hby at_41) rfl k) ?_
  refine Goes.to (T' := s₁) (mkF m 45 #[.val (.int p0), .val (.int p1), .val (.int p2), .val (.int p3), .val (.int p4), .val (.int p5), .val (.int la), .val (.int lb), .val (.int c0), .val (.int c1), .val (.int c2), .unset, .unset, .unset, .unset, .unset, .unset, .unset, .unset, .unset, .unset] [(.int (255 : Int32)), (.int p2), (.int c0)]) (fun t k => XS.sipush X0.here hx rfl (hb hby at_42) k) ?_
  refine Goes.to (T' := s₁) (mkF m 46 #[.val (.int p0), .val (.int p1), .val (.int p2), .val (.int p3), .val (.int p4), .val (.int p5), .val (.int la), .val (.int lb), .val (.int c0), .val (.int c1), .val (.int c2), .unset, .unset, .unset, .unset, .unset, .unset, .unset, .unset, .unset, .unset] [(.int (p2 &&& (255 : Int32))), (.int c0)]) (fun t k => XS.iand X0.here hx rfl (hb hby at_45) rfl k) ?_
  refine Goes.to (T' := s₁) (mkF m 47 #[.val (.int p0), .val (.int p1), .val (.int p2), .val (.int p3), .val (.int p4), .val (.int p5), .val (.int la), .val (.int lb), .val (.int c0), .val (.int c1), .val (.int c2), .unset, .unset, .unset, .unset, .unset, .unset, .unset, .unset, .unset, .unset] [(.int (c0 ^^^ (p2 &&& (255 : Int32))))]) (fun t k => XS.ixor X0.here hx rfl (hb hby at_46) rfl k) ?_
  obtain ⟨d0, d0_eq⟩ : ∃ z, z = (c0 ^^^ (p2 &&& (255 : Int32))) := ⟨_, rfl⟩
  rw [← d0_eq]
  have hy0 : ¬ d0 < 0 ∧ ¬ (255 : Int32) < d0 := by rw [d0_eq, c0_eq, own_xand]; exact own_a255 _
  refine Goes.to (T' := s₁) (mkF m 49 #[.val (.int p0), .val (.int p1), .val (.int p2), .val (.int p3), .val (.int p4), .val (.int p5), .val (.int la), .val (.int lb), .val (.int c0), .val (.int c1), .val (.int c2), .val (.int d0), .unset, .unset, .unset, .unset, .unset, .unset, .unset, .unset, .unset] []) (fun t k => XS.istore X0.here hx rfl (hb hby at_47) rfl (l' := #[.val (.int p0), .val (.int p1), .val (.int p2), .val (.int p3), .val (.int p4), .val (.int p5), .val (.int la), .val (.int lb), .val (.int c0), .val (.int c1), .val (.int c2), .val (.int d0), .unset, .unset, .unset, .unset, .unset, .unset, .unset, .unset, .unset]) rfl k) ?_
  refine Goes.to (T' := s₁) (mkF m 51 #[.val (.int p0), .val (.int p1), .val (.int p2), .val (.int p3), .val (.int p4), .val (.int p5), .val (.int la), .val (.int lb), .val (.int c0), .val (.int c1), .val (.int c2), .val (.int d0), .unset, .unset, .unset, .unset, .unset, .unset, .unset, .unset, .unset] [(.int c1)]) (fun t k => XS.iload X0.here hx rfl (hb hby at_49) rfl k) ?_
  refine Goes.to (T' := s₁) (mkF m 52 #[.val (.int p0), .val (.int p1), .val (.int p2), .val (.int p3), .val (.int p4), .val (.int p5), .val (.int la), .val (.int lb), .val (.int c0), .val (.int c1), .val (.int c2), .val (.int d0), .unset, .unset, .unset, .unset, .unset, .unset, .unset, .unset, .unset] [(.int p2), (.int c1)]) (fun t k => XS.iloadN X0.here hx rfl (hb hby at_51) rfl k) ?_
  refine Goes.to (T' := s₁) (mkF m 54 #[.val (.int p0), .val (.int p1), .val (.int p2), .val (.int p3), .val (.int p4), .val (.int p5), .val (.int la), .val (.int lb), .val (.int c0), .val (.int c1), .val (.int c2), .val (.int d0), .unset, .unset, .unset, .unset, .unset, .unset, .unset, .unset, .unset] [(.int (8 : Int32)), (.int p2), (.int c1)]) (fun t k => XS.bipush X0.here hx rfl (hb hby at_52) k) ?_
  refine Goes.to (T' := s₁) (mkF m 55 #[.val (.int p0), .val (.int p1), .val (.int p2), .val (.int p3), .val (.int p4), .val (.int p5), .val (.int la), .val (.int lb), .val (.int c0), .val (.int c1), .val (.int c2), .val (.int d0), .unset, .unset, .unset, .unset, .unset, .unset, .unset, .unset, .unset] [(.int ((p2.toUInt32 >>> ((8 : Int32) &&& 31).toUInt32).toInt32)), (.int c1)]) (fun t k => XS.iushr X0.here hx rfl (hb hby at_54) rfl k) ?_
  refine Goes.to (T' := s₁) (mkF m 58 #[.val (.int p0), .val (.int p1), .val (.int p2), .val (.int p3), .val (.int p4), .val (.int p5), .val (.int la), .val (.int lb), .val (.int c0), .val (.int c1), .val (.int c2), .val (.int d0), .unset, .unset, .unset, .unset, .unset, .unset, .unset, .unset, .unset] [(.int (255 : Int32)), (.int ((p2.toUInt32 >>> ((8 : Int32) &&& 31).toUInt32).toInt32)), (.int c1)]) (fun t k => XS.sipush X0.here hx rfl (hb hby at_55) k) ?_
  refine Goes.to (T' := s₁) (mkF m 59 #[.val (.int p0), .val (.int p1), .val (.int p2), .val (.int p3), .val (.int p4), .val (.int p5), .val (.int la), .val (.int lb), .val (.int c0), .val (.int c1), .val (.int c2), .val (.int d0), .unset, .unset, .unset, .unset, .unset, .unset, .unset, .unset, .unset] [(.int (((p2.toUInt32 >>> ((8 : Int32) &&& 31).toUInt32).toInt32) &&& (255 : Int32))), (.int c1)]) (fun t k => XS.iand X0.here hx rfl (hb hby at_58) rfl k) ?_
  refine Goes.to (T' := s₁) (mkF m 60 #[.val (.int p0), .val (.int p1), .val (.int p2), .val (.int p3), .val (.int p4), .val (.int p5), .val (.int la), .val (.int lb), .val (.int c0), .val (.int c1), .val (.int c2), .val (.int d0), .unset, .unset, .unset, .unset, .unset, .unset, .unset, .unset, .unset] [(.int (c1 ^^^ (((p2.toUInt32 >>> ((8 : Int32) &&& 31).toUInt32).toInt32) &&& (255 : Int32))))]) (fun t k => XS.ixor X0.here hx rfl (hb hby at_59) rfl k) ?_
  obtain ⟨d1, d1_eq⟩ : ∃ z, z = (c1 ^^^ (((p2.toUInt32 >>> ((8 : Int32) &&& 31).toUInt32).toInt32) &&& (255 : Int32))) := ⟨_, rfl⟩
  rw [← d1_eq]
  have hy1 : ¬ d1 < 0 ∧ ¬ (255 : Int32) < d1 := by rw [d1_eq, c1_eq, own_xand]; exact own_a255 _
  refine Goes.to (T' := s₁) (mkF m 62 #[.val (.int p0), .val (.int p1), .val (.int p2), .val (.int p3), .val (.int p4), .val (.int p5), .val (.int la), .val (.int lb), .val (.int c0), .val (.int c1), .val (.int c2), .val (.int d0), .val (.int d1), .unset, .unset, .unset, .unset, .unset, .unset, .unset, .unset] []) (fun t k => XS.istore X0.here hx rfl (hb hby at_60) rfl (l' := #[.val (.int p0), .val (.int p1), .val (.int p2), .val (.int p3), .val (.int p4), .val (.int p5), .val (.int la), .val (.int lb), .val (.int c0), .val (.int c1), .val (.int c2), .val (.int d0), .val (.int d1), .unset, .unset, .unset, .unset, .unset, .unset, .unset, .unset]) rfl k) ?_
  refine Goes.to (T' := s₁) (mkF m 64 #[.val (.int p0), .val (.int p1), .val (.int p2), .val (.int p3), .val (.int p4), .val (.int p5), .val (.int la), .val (.int lb), .val (.int c0), .val (.int c1), .val (.int c2), .val (.int d0), .val (.int d1), .unset, .unset, .unset, .unset, .unset, .unset, .unset, .unset] [(.int c2)]) (fun t k => XS.iload X0.here hx rfl (hb hby at_62) rfl k) ?_
  refine Goes.to (T' := s₁) (mkF m 65 #[.val (.int p0), .val (.int p1), .val (.int p2), .val (.int p3), .val (.int p4), .val (.int p5), .val (.int la), .val (.int lb), .val (.int c0), .val (.int c1), .val (.int c2), .val (.int d0), .val (.int d1), .unset, .unset, .unset, .unset, .unset, .unset, .unset, .unset] [(.int p2), (.int c2)]) (fun t k => XS.iloadN X0.here hx rfl (hb hby at_64) rfl k) ?_
  refine Goes.to (T' := s₁) (mkF m 67 #[.val (.int p0), .val (.int p1), .val (.int p2), .val (.int p3), .val (.int p4), .val (.int p5), .val (.int la), .val (.int lb), .val (.int c0), .val (.int c1), .val (.int c2), .val (.int d0), .val (.int d1), .unset, .unset, .unset, .unset, .unset, .unset, .unset, .unset] [(.int (16 : Int32)), (.int p2), (.int c2)]) (fun t k => XS.bipush X0.here hx rfl (hb hby at_65) k) ?_
  refine Goes.to (T' := s₁) (mkF m 68 #[.val (.int p0), .val (.int p1), .val (.int p2), .val (.int p3), .val (.int p4), .val (.int p5), .val (.int la), .val (.int lb), .val (.int c0), .val (.int c1), .val (.int c2), .val (.int d0), .val (.int d1), .unset, .unset, .unset, .unset, .unset, .unset, .unset, .unset] [(.int ((p2.toUInt32 >>> ((16 : Int32) &&& 31).toUInt32).toInt32)), (.int c2)]) (fun t k => XS.iushr X0.here hx rfl (hb hby at_67) rfl k) ?_
  refine Goes.to (T' := s₁) (mkF m 71 #[.val (.int p0), .val (.int p1), .val (.int p2), .val (.int p3), .val (.int p4), .val (.int p5), .val (.int la), .val (.int lb), .val (.int c0), .val (.int c1), .val (.int c2), .val (.int d0), .val (.int d1), .unset, .unset, .unset, .unset, .unset, .unset, .unset, .unset] [(.int (255 : Int32)), (.int ((p2.toUInt32 >>> ((16 : Int32) &&& 31).toUInt32).toInt32)), (.int c2)]) (fun t k => XS.sipush X0.here hx rfl (hb hby at_68) k) ?_
  refine Goes.to (T' := s₁) (mkF m 72 #[.val (.int p0), .val (.int p1), .val (.int p2), .val (.int p3), .val (.int p4), .val (.int p5), .val (.int la), .val (.int lb), .val (.int c0), .val (.int c1), .val (.int c2), .val (.int d0), .val (.int d1), .unset, .unset, .unset, .unset, .unset, .unset, .unset, .unset] [(.int (((p2.toUInt32 >>> ((16 : Int32) &&& 31).toUInt32).toInt32) &&& (255 : Int32))), (.int c2)]) (fun t k => XS.iand X0.here hx rfl (hb hby at_71) rfl k) ?_
  refine Goes.to (T' := s₁) (mkF m 73 #[.val (.int p0), .val (.int p1), .val (.int p2), .val (.int p3), .val (.int p4), .val (.int p5), .val (.int la), .val (.int lb), .val (.int c0), .val (.int c1), .val (.int c2), .val (.int d0), .val (.int d1), .unset, .unset, .unset, .unset, .unset, .unset, .unset, .unset] [(.int (c2 ^^^ (((p2.toUInt32 >>> ((16 : Int32) &&& 31).toUInt32).toInt32) &&& (255 : Int32))))]) (fun t k => XS.ixor X0.here hx rfl (hb hby at_72) rfl k) ?_
  obtain ⟨d2, d2_eq⟩ : ∃ z, z = (c2 ^^^ (((p2.toUInt32 >>> ((16 : Int32) &&& 31).toUInt32).toInt32) &&& (255 : Int32))) := ⟨_, rfl⟩
  rw [← d2_eq]
  have hy2 : ¬ d2 < 0 ∧ ¬ (255 : Int32) < d2 := by rw [d2_eq, c2_eq, own_xand]; exact own_a255 _
  refine Goes.to (T' := s₁) (mkF m 75 #[.val (.int p0), .val (.int p1), .val (.int p2), .val (.int p3), .val (.int p4), .val (.int p5), .val (.int la), .val (.int lb), .val (.int c0), .val (.int c1), .val (.int c2), .val (.int d0), .val (.int d1), .val (.int d2), .unset, .unset, .unset, .unset, .unset, .unset, .unset] []) (fun t k => XS.istore X0.here hx rfl (hb hby at_73) rfl (l' := #[.val (.int p0), .val (.int p1), .val (.int p2), .val (.int p3), .val (.int p4), .val (.int p5), .val (.int la), .val (.int lb), .val (.int c0), .val (.int c1), .val (.int c2), .val (.int d0), .val (.int d1), .val (.int d2), .unset, .unset, .unset, .unset, .unset, .unset, .unset]) rfl k) ?_
  refine Goes.to (T' := s₁) (mkF m 77 #[.val (.int p0), .val (.int p1), .val (.int p2), .val (.int p3), .val (.int p4), .val (.int p5), .val (.int la), .val (.int lb), .val (.int c0), .val (.int c1), .val (.int c2), .val (.int d0), .val (.int d1), .val (.int d2), .unset, .unset, .unset, .unset, .unset, .unset, .unset] [(.int la)]) (fun t k => XS.iload X0.here hx rfl (hb hby at_75) rfl k) ?_
  refine Goes.to (T' := s₁) (mkF m 79 #[.val (.int p0), .val (.int p1), .val (.int p2), .val (.int p3), .val (.int p4), .val (.int p5), .val (.int la), .val (.int lb), .val (.int c0), .val (.int c1), .val (.int c2), .val (.int d0), .val (.int d1), .val (.int d2), .unset, .unset, .unset, .unset, .unset, .unset, .unset] [(.int c0), (.int la)]) (fun t k => XS.iload X0.here hx rfl (hb hby at_77) rfl k) ?_
  refine Goes.to (T' := s₁) (mkF m 81 #[.val (.int p0), .val (.int p1), .val (.int p2), .val (.int p3), .val (.int p4), .val (.int p5), .val (.int la), .val (.int lb), .val (.int c0), .val (.int c1), .val (.int c2), .val (.int d0), .val (.int d1), .val (.int d2), .unset, .unset, .unset, .unset, .unset, .unset, .unset] [(.int c1), (.int c0), (.int la)]) (fun t k => XS.iload X0.here hx rfl (hb hby at_79) rfl k) ?_
  refine Goes.to (T' := s₁) (mkF m 83 #[.val (.int p0), .val (.int p1), .val (.int p2), .val (.int p3), .val (.int p4), .val (.int p5), .val (.int la), .val (.int lb), .val (.int c0), .val (.int c1), .val (.int c2), .val (.int d0), .val (.int d1), .val (.int d2), .unset, .unset, .unset, .unset, .unset, .unset, .unset] [(.int c2), (.int c1), (.int c0), (.int la)]) (fun t k => XS.iload X0.here hx rfl (hb hby at_81) rfl k) ?_
  obtain ⟨_, _, ⟨T1, L1, k1, n1⟩, -, X1, hT1, hG1, ⟨Lc1, hQ1, l1, y1, z1, R1⟩, st1⟩ := callSS X0 hx (y := (⟨"com/example/lachesis/lachesis/model/RecordIdEqualsPinLaw", "mk", "(IIII)Ljava/lang/String;"⟩ : MethodName)) hown (mvT hZ (hw _ (List.mem_of_getElem? (i := 0) rfl))) (mvT hZ (hw _ (List.mem_of_getElem? (i := 1) rfl))) (mvT hZ (hw _ (List.mem_of_getElem? (i := 2) rfl))) (mvT hZ (hw _ (List.mem_of_getElem? (i := 3) rfl))) (by decide) (backOfSH (W := 0) (rm_mk l Z a0 hw [] la c0 c1 c2 cz h0 n0 O hx0 hx1 hx2 S_CS hcz) hZ (hw _ (List.mem_of_getElem? (i := 3) rfl)) (hw _ (List.mem_of_getElem? (i := 2) rfl)) (by decide) (by decide) hEL C.1) (g := (mkF m 83 #[.val (.int p0), .val (.int p1), .val (.int p2), .val (.int p3), .val (.int p4), .val (.int p5), .val (.int la), .val (.int lb), .val (.int c0), .val (.int c1), .val (.int c2), .val (.int d0), .val (.int d1), .val (.int d2), .unset, .unset, .unset, .unset, .unset, .unset, .unset] [(.int c2), (.int c1), (.int c0), (.int la)])) rfl (by rw [hml]; rfl) (argsL := [(.int la), (.int c0), (.int c1), (.int c2)]) (rest := []) (lenOf pd_9 rfl) rfl (by show 2 * 0 + _ ≤ _; exact Nat.le_of_eq rfl) (hb hby at_83) (fun _ _ => ⟨rfl, e0, (by decide : 0 + 6 ≤ _), (by decide : 0 + 12 ≤ _)⟩)
  dsimp only [Pt.U, Pt.locs, Pt.cells, Pt.slots] at X1 l1 y1 z1 st1 hQ1 hT1 hG1 R1
  subst l1 y1 z1
  obtain ⟨X1, hT1, hZ', hown'⟩ := rebS hS0 (show _ ≤ s₁.heap.size by rw [e0]; exact hk0) X1 hT1 hG1 hZ hown
  replace C := C.trans R1
  replace hS0 := hT1
  replace hk0 := Nat.le_refl T1.heap.size
  replace hZ := hZ'
  replace hown := hown'
  obtain ⟨N1, K1, s1, t1, k1, m1, vs1, rfl, g_s1, sz_s1, E_s1, F_value_s1, F_coder_s1, F_hash_s1, F_hashIsZero_s1, V_t1, hcd1, hE1⟩ := hQ1
  have N1' := Fr.app N0 N1
  replace O := O.keep K1 all0
  have nts1 : t1 ≠ s1 := (own_neA (hw _ (List.mem_of_getElem? (i := 5) rfl)) E_s1 V_t1).symm
  have V0_t1 := V_t1
  refine Goes.to (T' := T1) (mkF m 86 #[.val (.int p0), .val (.int p1), .val (.int p2), .val (.int p3), .val (.int p4), .val (.int p5), .val (.int la), .val (.int lb), .val (.int c0), .val (.int c1), .val (.int c2), .val (.int d0), .val (.int d1), .val (.int d2), .unset, .unset, .unset, .unset, .unset, .unset, .unset] [(.ref s1)]) (fun t k => st1.trans k) ?_
  refine Goes.to (T' := T1) (mkF m 88 #[.val (.int p0), .val (.int p1), .val (.int p2), .val (.int p3), .val (.int p4), .val (.int p5), .val (.int la), .val (.int lb), .val (.int c0), .val (.int c1), .val (.int c2), .val (.int d0), .val (.int d1), .val (.int d2), .val (.ref s1), .unset, .unset, .unset, .unset, .unset, .unset] []) (fun t k => XS.astore X1.here hx rfl (hb hby at_86) rfl rfl (l' := #[.val (.int p0), .val (.int p1), .val (.int p2), .val (.int p3), .val (.int p4), .val (.int p5), .val (.int la), .val (.int lb), .val (.int c0), .val (.int c1), .val (.int c2), .val (.int d0), .val (.int d1), .val (.int d2), .val (.ref s1), .unset, .unset, .unset, .unset, .unset, .unset]) rfl k) ?_
  refine Goes.to (T' := T1) (mkF m 90 #[.val (.int p0), .val (.int p1), .val (.int p2), .val (.int p3), .val (.int p4), .val (.int p5), .val (.int la), .val (.int lb), .val (.int c0), .val (.int c1), .val (.int c2), .val (.int d0), .val (.int d1), .val (.int d2), .val (.ref s1), .unset, .unset, .unset, .unset, .unset, .unset] [(.int lb)]) (fun t k => XS.iload X1.here hx rfl (hb hby at_88) rfl k) ?_
  refine Goes.to (T' := T1) (mkF m 92 #[.val (.int p0), .val (.int p1), .val (.int p2), .val (.int p3), .val (.int p4), .val (.int p5), .val (.int la), .val (.int lb), .val (.int c0), .val (.int c1), .val (.int c2), .val (.int d0), .val (.int d1), .val (.int d2), .val (.ref s1), .unset, .unset, .unset, .unset, .unset, .unset] [(.int d0), (.int lb)]) (fun t k => XS.iload X1.here hx rfl (hb hby at_90) rfl k) ?_
  refine Goes.to (T' := T1) (mkF m 94 #[.val (.int p0), .val (.int p1), .val (.int p2), .val (.int p3), .val (.int p4), .val (.int p5), .val (.int la), .val (.int lb), .val (.int c0), .val (.int c1), .val (.int c2), .val (.int d0), .val (.int d1), .val (.int d2), .val (.ref s1), .unset, .unset, .unset, .unset, .unset, .unset] [(.int d1), (.int d0), (.int lb)]) (fun t k => XS.iload X1.here hx rfl (hb hby at_92) rfl k) ?_
  refine Goes.to (T' := T1) (mkF m 96 #[.val (.int p0), .val (.int p1), .val (.int p2), .val (.int p3), .val (.int p4), .val (.int p5), .val (.int la), .val (.int lb), .val (.int c0), .val (.int c1), .val (.int c2), .val (.int d0), .val (.int d1), .val (.int d2), .val (.ref s1), .unset, .unset, .unset, .unset, .unset, .unset] [(.int d2), (.int d1), (.int d0), (.int lb)]) (fun t k => XS.iload X1.here hx rfl (hb hby at_94) rfl k) ?_
  have lt_s1 := E_s1.lt
  have lt_t1 := V_t1.lt
  obtain ⟨_, _, ⟨T2, L2, k2, n2⟩, -, X2, hT2, hG2, ⟨Lc2, hQ2, l2, y2, z2, R2⟩, st2⟩ := callSS X1 hx (y := (⟨"com/example/lachesis/lachesis/model/RecordIdEqualsPinLaw", "mk", "(IIII)Ljava/lang/String;"⟩ : MethodName)) hown (mvT hZ (hw _ (List.mem_of_getElem? (i := 0) rfl))) (mvT hZ (hw _ (List.mem_of_getElem? (i := 1) rfl))) (mvT hZ (hw _ (List.mem_of_getElem? (i := 2) rfl))) (mvT hZ (hw _ (List.mem_of_getElem? (i := 3) rfl))) (by decide) (backOfSH (W := 0) (rm_mk l Z a0 hw [] lb d0 d1 d2 cz T1.heap n0 O hy0 hy1 hy2 S_CS hcz) hZ (hw _ (List.mem_of_getElem? (i := 3) rfl)) (hw _ (List.mem_of_getElem? (i := 2) rfl)) (by decide) (by decide) hEL C.1) (g := (mkF m 96 #[.val (.int p0), .val (.int p1), .val (.int p2), .val (.int p3), .val (.int p4), .val (.int p5), .val (.int la), .val (.int lb), .val (.int c0), .val (.int c1), .val (.int c2), .val (.int d0), .val (.int d1), .val (.int d2), .val (.ref s1), .unset, .unset, .unset, .unset, .unset, .unset] [(.int d2), (.int d1), (.int d0), (.int lb)])) rfl (by rw [hml]; rfl) (argsL := [(.int lb), (.int d0), (.int d1), (.int d2)]) (rest := []) (lenOf pd_9 rfl) rfl (by show 2 * 0 + _ ≤ _; exact Nat.le_of_eq rfl) (hb hby at_96) (fun _ _ => ⟨rfl, rfl, (by decide : 6 + 6 ≤ _), (by decide : 12 + 12 ≤ _)⟩)
  dsimp only [Pt.U, Pt.locs, Pt.cells, Pt.slots] at X2 l2 y2 z2 st2 hQ2 hT2 hG2 R2
  subst l2 y2 z2
  obtain ⟨X2, hT2, hZ', hown'⟩ := rebS hS0 hk0 X2 hT2 hG2 hZ hown
  replace C := C.trans R2
  replace hS0 := hT2
  replace hk0 := Nat.le_refl T2.heap.size
  replace hZ := hZ'
  replace hown := hown'
  obtain ⟨N2, K2, s2, t2, k2, m2, vs2, rfl, g_s2, sz_s2, E_s2, F_value_s2, F_coder_s2, F_hash_s2, F_hashIsZero_s2, V_t2, hcd2, hE2⟩ := hQ2
  have N2' := Fr.app N1' N2
  replace E_s1 := E_s1.keep K2
  replace F_value_s1 := F_value_s1.keep K2 nin0
  replace F_coder_s1 := F_coder_s1.keep K2 nin0
  replace F_hash_s1 := F_hash_s1.keep K2 nin0
  replace F_hashIsZero_s1 := F_hashIsZero_s1.keep K2 nin0
  replace V_t1 := V_t1.keep K2 nin0
  replace O := O.keep K2 all0
  have nts2 : t2 ≠ s2 := (own_neA (hw _ (List.mem_of_getElem? (i := 5) rfl)) E_s2 V_t2).symm
  have V0_t2 := V_t2
  have n12 : s1 ≠ s2 := Nat.ne_of_lt (Nat.lt_of_lt_of_le lt_s1 sz_s2)
  have nt1s2 : t1 ≠ s2 := Nat.ne_of_lt (Nat.lt_of_lt_of_le lt_t1 sz_s2)
  have nt2s1 : t2 ≠ s1 := (own_neA (hw _ (List.mem_of_getElem? (i := 5) rfl)) E_s1 V_t2).symm
  refine Goes.to (T' := T2) (mkF m 99 #[.val (.int p0), .val (.int p1), .val (.int p2), .val (.int p3), .val (.int p4), .val (.int p5), .val (.int la), .val (.int lb), .val (.int c0), .val (.int c1), .val (.int c2), .val (.int d0), .val (.int d1), .val (.int d2), .val (.ref s1), .unset, .unset, .unset, .unset, .unset, .unset] [(.ref s2)]) (fun t k => st2.trans k) ?_
  refine Goes.to (T' := T2) (mkF m 101 #[.val (.int p0), .val (.int p1), .val (.int p2), .val (.int p3), .val (.int p4), .val (.int p5), .val (.int la), .val (.int lb), .val (.int c0), .val (.int c1), .val (.int c2), .val (.int d0), .val (.int d1), .val (.int d2), .val (.ref s1), .val (.ref s2), .unset, .unset, .unset, .unset, .unset] []) (fun t k => XS.astore X2.here hx rfl (hb hby at_99) rfl rfl (l' := #[.val (.int p0), .val (.int p1), .val (.int p2), .val (.int p3), .val (.int p4), .val (.int p5), .val (.int la), .val (.int lb), .val (.int c0), .val (.int c1), .val (.int c2), .val (.int d0), .val (.int d1), .val (.int d2), .val (.ref s1), .val (.ref s2), .unset, .unset, .unset, .unset, .unset]) rfl k) ?_
  refine Goes.to (T' := T2) (mkF m 103 #[.val (.int p0), .val (.int p1), .val (.int p2), .val (.int p3), .val (.int p4), .val (.int p5), .val (.int la), .val (.int lb), .val (.int c0), .val (.int c1), .val (.int c2), .val (.int d0), .val (.int d1), .val (.int d2), .val (.ref s1), .val (.ref s2), .unset, .unset, .unset, .unset, .unset] [(.int p5)]) (fun t k => XS.iload X2.here hx rfl (hb hby at_101) rfl k) ?_
  refine Goes.to (T' := T2) (mkF m 104 #[.val (.int p0), .val (.int p1), .val (.int p2), .val (.int p3), .val (.int p4), .val (.int p5), .val (.int la), .val (.int lb), .val (.int c0), .val (.int c1), .val (.int c2), .val (.int d0), .val (.int d1), .val (.int d2), .val (.ref s1), .val (.ref s2), .unset, .unset, .unset, .unset, .unset] [(.int (1 : Int32)), (.int p5)]) (fun t k => XS.iconst X2.here hx rfl (hb hby at_103) k) ?_
  refine Goes.to (T' := T2) (mkF m 105 #[.val (.int p0), .val (.int p1), .val (.int p2), .val (.int p3), .val (.int p4), .val (.int p5), .val (.int la), .val (.int lb), .val (.int c0), .val (.int c1), .val (.int c2), .val (.int d0), .val (.int d1), .val (.int d2), .val (.ref s1), .val (.ref s2), .unset, .unset, .unset, .unset, .unset] [(.int (p5 &&& (1 : Int32)))]) (fun t k => XS.iand X2.here hx rfl (hb hby at_104) rfl k) ?_
  have D105_3 : ∀ t, Steps p.tables e below (T2.setTop (mkF m 114 #[.val (.int p0), .val (.int p1), .val (.int p2), .val (.int p3), .val (.int p4), .val (.int p5), .val (.int la), .val (.int lb), .val (.int c0), .val (.int c1), .val (.int c2), .val (.int d0), .val (.int d1), .val (.int d2), .val (.ref s1), .val (.ref s2), .unset, .unset, .unset, .unset, .unset] [(.int (if (p5 &&& (1 : Int32)) = (0 : Int32) then p4 else p3))])) t → Steps p.tables e below (T2.setTop (mkF m 105 #[.val (.int p0), .val (.int p1), .val (.int p2), .val (.int p3), .val (.int p4), .val (.int p5), .val (.int la), .val (.int lb), .val (.int c0), .val (.int c1), .val (.int c2), .val (.int d0), .val (.int d1), .val (.int d2), .val (.ref s1), .val (.ref s2), .unset, .unset, .unset, .unset, .unset] [(.int (p5 &&& (1 : Int32)))])) t := by
    intro t k
    by_cases hq : (p5 &&& (1 : Int32)) = (0 : Int32)
    · simp only [if_pos hq] at k
      refine XS.ifYes X2.here hx rfl (pc0 := 105) (pc' := 112) rfl (hb hby at_105) rfl ((if0 _ _).trans (teq hq).1) (by decide) (by decide) ?_
      show Steps p.tables e below (T2.setTop (mkF m 112 #[.val (.int p0), .val (.int p1), .val (.int p2), .val (.int p3), .val (.int p4), .val (.int p5), .val (.int la), .val (.int lb), .val (.int c0), .val (.int c1), .val (.int c2), .val (.int d0), .val (.int d1), .val (.int d2), .val (.ref s1), .val (.ref s2), .unset, .unset, .unset, .unset, .unset] [])) _
      refine XS.iload X2.here hx rfl (hb hby at_112) rfl ?_
      show Steps p.tables e below (T2.setTop (mkF m 114 #[.val (.int p0), .val (.int p1), .val (.int p2), .val (.int p3), .val (.int p4), .val (.int p5), .val (.int la), .val (.int lb), .val (.int c0), .val (.int c1), .val (.int c2), .val (.int d0), .val (.int d1), .val (.int d2), .val (.ref s1), .val (.ref s2), .unset, .unset, .unset, .unset, .unset] [(.int p4)])) _
      exact k
    · simp only [if_neg hq] at k
      refine XS.ifNo X2.here hx rfl (hb hby at_105) rfl ((if0 _ _).trans (feq hq).1) ?_
      show Steps p.tables e below (T2.setTop (mkF m 108 #[.val (.int p0), .val (.int p1), .val (.int p2), .val (.int p3), .val (.int p4), .val (.int p5), .val (.int la), .val (.int lb), .val (.int c0), .val (.int c1), .val (.int c2), .val (.int d0), .val (.int d1), .val (.int d2), .val (.ref s1), .val (.ref s2), .unset, .unset, .unset, .unset, .unset] [])) _
      refine XS.iloadN X2.here hx rfl (hb hby at_108) rfl ?_
      show Steps p.tables e below (T2.setTop (mkF m 109 #[.val (.int p0), .val (.int p1), .val (.int p2), .val (.int p3), .val (.int p4), .val (.int p5), .val (.int la), .val (.int lb), .val (.int c0), .val (.int c1), .val (.int c2), .val (.int d0), .val (.int d1), .val (.int d2), .val (.ref s1), .val (.ref s2), .unset, .unset, .unset, .unset, .unset] [(.int p3)])) _
      refine XS.goto X2.here hx rfl (pc0 := 109) (pc' := 114) rfl (hb hby at_109) (by decide) (by decide) ?_
      show Steps p.tables e below (T2.setTop (mkF m 114 #[.val (.int p0), .val (.int p1), .val (.int p2), .val (.int p3), .val (.int p4), .val (.int p5), .val (.int la), .val (.int lb), .val (.int c0), .val (.int c1), .val (.int c2), .val (.int d0), .val (.int d1), .val (.int d2), .val (.ref s1), .val (.ref s2), .unset, .unset, .unset, .unset, .unset] [(.int p3)])) _
      exact k
  refine Goes.to (T' := T2) (mkF m 114 #[.val (.int p0), .val (.int p1), .val (.int p2), .val (.int p3), .val (.int p4), .val (.int p5), .val (.int la), .val (.int lb), .val (.int c0), .val (.int c1), .val (.int c2), .val (.int d0), .val (.int d1), .val (.int d2), .val (.ref s1), .val (.ref s2), .unset, .unset, .unset, .unset, .unset] [(.int (if (p5 &&& (1 : Int32)) = (0 : Int32) then p4 else p3))]) D105_3 ?_
  obtain ⟨i2, i2_eq⟩ : ∃ z, z = (if (p5 &&& (1 : Int32)) = (0 : Int32) then p4 else p3) := ⟨_, rfl⟩
  rw [← i2_eq]
  refine Goes.to (T' := T2) (mkF m 116 #[.val (.int p0), .val (.int p1), .val (.int p2), .val (.int p3), .val (.int p4), .val (.int p5), .val (.int la), .val (.int lb), .val (.int c0), .val (.int c1), .val (.int c2), .val (.int d0), .val (.int d1), .val (.int d2), .val (.ref s1), .val (.ref s2), .val (.int i2), .unset, .unset, .unset, .unset] []) (fun t k => XS.istore X2.here hx rfl (hb hby at_114) rfl (l' := #[.val (.int p0), .val (.int p1), .val (.int p2), .val (.int p3), .val (.int p4), .val (.int p5), .val (.int la), .val (.int lb), .val (.int c0), .val (.int c1), .val (.int c2), .val (.int d0), .val (.int d1), .val (.int d2), .val (.ref s1), .val (.ref s2), .val (.int i2), .unset, .unset, .unset, .unset]) rfl k) ?_
  obtain ⟨T5, h5, X5, e5, E5, A5, D5, -, st5⟩ := newO X2 hx hZ hown (hw _ (List.mem_of_getElem? (i := 26) rfl)) (hw _ (List.mem_of_getElem? (i := 27) rfl)) (hw _ (List.mem_of_getElem? (i := 28) rfl)) rfl (g := (mkF m 116 #[.val (.int p0), .val (.int p1), .val (.int p2), .val (.int p3), .val (.int p4), .val (.int p5), .val (.int la), .val (.int lb), .val (.int c0), .val (.int c1), .val (.int c2), .val (.int d0), .val (.int d1), .val (.int d2), .val (.ref s1), .val (.ref s2), .val (.int i2), .unset, .unset, .unset, .unset] [])) rfl (hb hby at_116) (by decide) (by decide)
  obtain ⟨b5, g5⟩ : ∃ z, z = T2.heap.size := ⟨_, rfl⟩
  rw [← g5] at A5 D5 st5
  have g_b5 : n0 ≤ b5 := Nat.le_trans (O.1 ▸ O.2.1) (Nat.le_of_eq g5.symm)
  have ne_s1_b5 : s1 ≠ b5 := Nat.ne_of_lt (Nat.lt_of_lt_of_le E_s1.lt (Nat.le_of_eq g5.symm))
  have ne_t1_b5 : t1 ≠ b5 := Nat.ne_of_lt (Nat.lt_of_lt_of_le V_t1.lt (Nat.le_of_eq g5.symm))
  have ne_s2_b5 : s2 ≠ b5 := Nat.ne_of_lt (Nat.lt_of_lt_of_le E_s2.lt (Nat.le_of_eq g5.symm))
  have ne_t2_b5 : t2 ≠ b5 := Nat.ne_of_lt (Nat.lt_of_lt_of_le V_t2.lt (Nat.le_of_eq g5.symm))
  replace O := O.ext E5
  replace hk0 := Nat.le_trans hk0 E5.1
  replace E_s1 := E_s1.ext E5
  replace F_value_s1 := F_value_s1.ext E5
  replace F_coder_s1 := F_coder_s1.ext E5
  replace F_hash_s1 := F_hash_s1.ext E5
  replace F_hashIsZero_s1 := F_hashIsZero_s1.ext E5
  replace V_t1 := V_t1.ext E5
  replace E_s2 := E_s2.ext E5
  replace F_value_s2 := F_value_s2.ext E5
  replace F_coder_s2 := F_coder_s2.ext E5
  replace F_hash_s2 := F_hash_s2.ext E5
  replace F_hashIsZero_s2 := F_hashIsZero_s2.ext E5
  replace V_t2 := V_t2.ext E5
  have E_b5 : Exa Z h5 b5 "com/example/lachesis/lachesis/model/RecordId" := A5
  have F_activity_b5 : Fld Z h5 b5 "com/example/lachesis/lachesis/model/RecordId" "activity" "Ljava/lang/String;" .null := D5 (Or.inr (hw _ (List.mem_of_getElem? (i := 40) rfl))) (ty := (.object "java/lang/String")) (by decide)
  have F_instance_b5 : Fld Z h5 b5 "com/example/lachesis/lachesis/model/RecordId" "instance" "I" (.int (0 : Int32)) := D5 (Or.inr (hw _ (List.mem_of_getElem? (i := 42) rfl))) (ty := .int) (by decide)
  have F_hash_b5 : Fld Z h5 b5 "com/example/lachesis/lachesis/model/RecordId" "hash" "I" (.int (0 : Int32)) := D5 (Or.inr (hw _ (List.mem_of_getElem? (i := 63) rfl))) (ty := .int) (by decide)
  refine Goes.to (T' := T5) (mkF m 119 #[.val (.int p0), .val (.int p1), .val (.int p2), .val (.int p3), .val (.int p4), .val (.int p5), .val (.int la), .val (.int lb), .val (.int c0), .val (.int c1), .val (.int c2), .val (.int d0), .val (.int d1), .val (.int d2), .val (.ref s1), .val (.ref s2), .val (.int i2), .unset, .unset, .unset, .unset] [(.ref b5)]) st5 ?_
  refine Goes.to (T' := T5) (mkF m 120 #[.val (.int p0), .val (.int p1), .val (.int p2), .val (.int p3), .val (.int p4), .val (.int p5), .val (.int la), .val (.int lb), .val (.int c0), .val (.int c1), .val (.int c2), .val (.int d0), .val (.int d1), .val (.int d2), .val (.ref s1), .val (.ref s2), .val (.int i2), .unset, .unset, .unset, .unset] [(.ref b5), (.ref b5)]) (fun t k => XS.dup X5.here hx rfl (hb hby at_119) rfl rfl k) ?_
  refine Goes.to (T' := T5) (mkF m 122 #[.val (.int p0), .val (.int p1), .val (.int p2), .val (.int p3), .val (.int p4), .val (.int p5), .val (.int la), .val (.int lb), .val (.int c0), .val (.int c1), .val (.int c2), .val (.int d0), .val (.int d1), .val (.int d2), .val (.ref s1), .val (.ref s2), .val (.int i2), .unset, .unset, .unset, .unset] [(.ref s1), (.ref b5), (.ref b5)]) (fun t k => XS.aload X5.here hx rfl (hb hby at_120) rfl rfl k) ?_
  refine Goes.to (T' := T5) (mkF m 123 #[.val (.int p0), .val (.int p1), .val (.int p2), .val (.int p3), .val (.int p4), .val (.int p5), .val (.int la), .val (.int lb), .val (.int c0), .val (.int c1), .val (.int c2), .val (.int d0), .val (.int d1), .val (.int d2), .val (.ref s1), .val (.ref s2), .val (.int i2), .unset, .unset, .unset, .unset] [(.int p3), (.ref s1), (.ref b5), (.ref b5)]) (fun t k => XS.iloadN X5.here hx rfl (hb hby at_122) rfl k) ?_
  have hEr1 : ¬ _ = ([] : List Int32) → Exa Z h5 t1 "[B" := fun q => own_keepE V_t1 (hE1 q) V0_t1
  obtain ⟨_, _, ⟨T6, L6, k6, n6⟩, -, X6, hT6, hG6, ⟨Lc6, hQ6, l6, y6, z6⟩, st6⟩ := X5.specialBackS hx (y := (⟨"com/example/lachesis/lachesis/model/RecordId", "<init>", "(Ljava/lang/String;I)V"⟩ : MethodName)) rfl hown (mvT hZ (hw _ (List.mem_of_getElem? (i := 29) rfl))) (mvT hZ (hw _ (List.mem_of_getElem? (i := 30) rfl))) (mvT hZ (hw _ (List.mem_of_getElem? (i := 31) rfl))) (by decide) (backOfS (W := 1) (rm_rid l Z a0 hw [] b5 s1 t1 p3 _ _ cz _ _ _ _ _ h5 n0 O E_s1 F_value_s1 F_coder_s1 F_hash_s1 F_hashIsZero_s1 V_t1 hcd1 (own_csl _ _ _ _) hEr1 g_s1 S_CS hcz E_b5 g_b5 ne_s1_b5 ne_t1_b5 nts1 F_activity_b5 F_instance_b5 F_hash_b5) hZ (hw _ (List.mem_of_getElem? (i := 31) rfl)) (hw _ (List.mem_of_getElem? (i := 28) rfl)) (by decide) (by decide)) (g := (mkF m 123 #[.val (.int p0), .val (.int p1), .val (.int p2), .val (.int p3), .val (.int p4), .val (.int p5), .val (.int la), .val (.int lb), .val (.int c0), .val (.int c1), .val (.int c2), .val (.int d0), .val (.int d1), .val (.int d2), .val (.ref s1), .val (.ref s2), .val (.int i2), .unset, .unset, .unset, .unset] [(.int p3), (.ref s1), (.ref b5), (.ref b5)])) rfl (by rw [hml]; rfl) (Steps.refl _) (a := b5) (argsL := [(.ref s1), (.int p3)]) (rest := [(.ref b5)]) (lenOf pd_10 rfl) rfl (by show 2 * 0 + _ ≤ _; exact Nat.le_of_eq rfl) (hb hby at_123) (fun _ _ => ⟨rfl, e5, (by decide : 13 + 2 ≤ _), (by decide : 27 + 40 ≤ _)⟩)
  dsimp only [Pt.U, Pt.locs, Pt.cells, Pt.slots] at X6 l6 y6 z6 st6 hQ6 hT6 hG6
  subst l6 y6 z6
  obtain ⟨X6, hT6, hZ', hown'⟩ := rebS hS0 (show _ ≤ T5.heap.size by rw [e5]; exact hk0) X6 hT6 hG6 hZ hown
  replace hS0 := hT6
  replace hk0 := Nat.le_refl T6.heap.size
  replace hZ := hZ'
  replace hown := hown'
  obtain ⟨rfl, N6, K6, F_activity_b5, F_instance_b5, F_value_s1, F_coder_s1⟩ := hQ6
  have N6' := Fr.app N2' N6
  replace E_s1 := E_s1.keep K6
  replace V_t1 := V_t1.keep K6 (ninS ne_t1_b5 (ninS nts1 (nin0)))
  replace E_s2 := E_s2.keep K6
  replace F_value_s2 := F_value_s2.keep K6 (ninS ne_s2_b5 (ninS (Ne.symm n12) (nin0)))
  replace F_coder_s2 := F_coder_s2.keep K6 (ninS ne_s2_b5 (ninS (Ne.symm n12) (nin0)))
  replace F_hash_s2 := F_hash_s2.keep K6 (ninS ne_s2_b5 (ninS (Ne.symm n12) (nin0)))
  replace F_hashIsZero_s2 := F_hashIsZero_s2.keep K6 (ninS ne_s2_b5 (ninS (Ne.symm n12) (nin0)))
  replace V_t2 := V_t2.keep K6 (ninS ne_t2_b5 (ninS nt2s1 (nin0)))
  replace E_b5 := E_b5.keep K6
  replace O := O.keep K6 (allS g_b5 (allS g_s1 all0))
  refine Goes.to (T' := T6) (mkF m 126 #[.val (.int p0), .val (.int p1), .val (.int p2), .val (.int p3), .val (.int p4), .val (.int p5), .val (.int la), .val (.int lb), .val (.int c0), .val (.int c1), .val (.int c2), .val (.int d0), .val (.int d1), .val (.int d2), .val (.ref s1), .val (.ref s2), .val (.int i2), .unset, .unset, .unset, .unset] [(.ref b5)]) (fun t k => st6.trans k) ?_
  refine Goes.to (T' := T6) (mkF m 128 #[.val (.int p0), .val (.int p1), .val (.int p2), .val (.int p3), .val (.int p4), .val (.int p5), .val (.int la), .val (.int lb), .val (.int c0), .val (.int c1), .val (.int c2), .val (.int d0), .val (.int d1), .val (.int d2), .val (.ref s1), .val (.ref s2), .val (.int i2), .val (.ref b5), .unset, .unset, .unset] []) (fun t k => XS.astore X6.here hx rfl (hb hby at_126) rfl rfl (l' := #[.val (.int p0), .val (.int p1), .val (.int p2), .val (.int p3), .val (.int p4), .val (.int p5), .val (.int la), .val (.int lb), .val (.int c0), .val (.int c1), .val (.int c2), .val (.int d0), .val (.int d1), .val (.int d2), .val (.ref s1), .val (.ref s2), .val (.int i2), .val (.ref b5), .unset, .unset, .unset]) rfl k) ?_
  refine Goes.to (T' := T6) (mkF m 130 #[.val (.int p0), .val (.int p1), .val (.int p2), .val (.int p3), .val (.int p4), .val (.int p5), .val (.int la), .val (.int lb), .val (.int c0), .val (.int c1), .val (.int c2), .val (.int d0), .val (.int d1), .val (.int d2), .val (.ref s1), .val (.ref s2), .val (.int i2), .val (.ref b5), .unset, .unset, .unset] [(.int p5)]) (fun t k => XS.iload X6.here hx rfl (hb hby at_128) rfl k) ?_
  refine Goes.to (T' := T6) (mkF m 131 #[.val (.int p0), .val (.int p1), .val (.int p2), .val (.int p3), .val (.int p4), .val (.int p5), .val (.int la), .val (.int lb), .val (.int c0), .val (.int c1), .val (.int c2), .val (.int d0), .val (.int d1), .val (.int d2), .val (.ref s1), .val (.ref s2), .val (.int i2), .val (.ref b5), .unset, .unset, .unset] [(.int (1 : Int32)), (.int p5)]) (fun t k => XS.iconst X6.here hx rfl (hb hby at_130) k) ?_
  refine Goes.to (T' := T6) (mkF m 132 #[.val (.int p0), .val (.int p1), .val (.int p2), .val (.int p3), .val (.int p4), .val (.int p5), .val (.int la), .val (.int lb), .val (.int c0), .val (.int c1), .val (.int c2), .val (.int d0), .val (.int d1), .val (.int d2), .val (.ref s1), .val (.ref s2), .val (.int i2), .val (.ref b5), .unset, .unset, .unset] [(.int ((p5.toUInt32 >>> ((1 : Int32) &&& 31).toUInt32).toInt32))]) (fun t k => XS.iushr X6.here hx rfl (hb hby at_131) rfl k) ?_
  refine Goes.to (T' := T6) (mkF m 133 #[.val (.int p0), .val (.int p1), .val (.int p2), .val (.int p3), .val (.int p4), .val (.int p5), .val (.int la), .val (.int lb), .val (.int c0), .val (.int c1), .val (.int c2), .val (.int d0), .val (.int d1), .val (.int d2), .val (.ref s1), .val (.ref s2), .val (.int i2), .val (.ref b5), .unset, .unset, .unset] [(.int (3 : Int32)), (.int ((p5.toUInt32 >>> ((1 : Int32) &&& 31).toUInt32).toInt32))]) (fun t k => XS.iconst X6.here hx rfl (hb hby at_132) k) ?_
  refine Goes.to (T' := T6) (mkF m 134 #[.val (.int p0), .val (.int p1), .val (.int p2), .val (.int p3), .val (.int p4), .val (.int p5), .val (.int la), .val (.int lb), .val (.int c0), .val (.int c1), .val (.int c2), .val (.int d0), .val (.int d1), .val (.int d2), .val (.ref s1), .val (.ref s2), .val (.int i2), .val (.ref b5), .unset, .unset, .unset] [(.int (((p5.toUInt32 >>> ((1 : Int32) &&& 31).toUInt32).toInt32) &&& (3 : Int32)))]) (fun t k => XS.iand X6.here hx rfl (hb hby at_133) rfl k) ?_
  refine Goes.to (T' := T6) (mkF m 136 #[.val (.int p0), .val (.int p1), .val (.int p2), .val (.int p3), .val (.int p4), .val (.int p5), .val (.int la), .val (.int lb), .val (.int c0), .val (.int c1), .val (.int c2), .val (.int d0), .val (.int d1), .val (.int d2), .val (.ref s1), .val (.ref s2), .val (.int i2), .val (.ref b5), .val (.int (((p5.toUInt32 >>> ((1 : Int32) &&& 31).toUInt32).toInt32) &&& (3 : Int32))), .unset, .unset] []) (fun t k => XS.istore X6.here hx rfl (hb hby at_134) rfl (l' := #[.val (.int p0), .val (.int p1), .val (.int p2), .val (.int p3), .val (.int p4), .val (.int p5), .val (.int la), .val (.int lb), .val (.int c0), .val (.int c1), .val (.int c2), .val (.int d0), .val (.int d1), .val (.int d2), .val (.ref s1), .val (.ref s2), .val (.int i2), .val (.ref b5), .val (.int (((p5.toUInt32 >>> ((1 : Int32) &&& 31).toUInt32).toInt32) &&& (3 : Int32))), .unset, .unset]) rfl k) ?_
  refine Goes.to (T' := T6) (mkF m 138 #[.val (.int p0), .val (.int p1), .val (.int p2), .val (.int p3), .val (.int p4), .val (.int p5), .val (.int la), .val (.int lb), .val (.int c0), .val (.int c1), .val (.int c2), .val (.int d0), .val (.int d1), .val (.int d2), .val (.ref s1), .val (.ref s2), .val (.int i2), .val (.ref b5), .val (.int (((p5.toUInt32 >>> ((1 : Int32) &&& 31).toUInt32).toInt32) &&& (3 : Int32))), .unset, .unset] [(.int (((p5.toUInt32 >>> ((1 : Int32) &&& 31).toUInt32).toInt32) &&& (3 : Int32)))]) (fun t k => XS.iload X6.here hx rfl (hb hby at_136) rfl k) ?_
  refine Goes.to (T' := T6) (mkF m 139 #[.val (.int p0), .val (.int p1), .val (.int p2), .val (.int p3), .val (.int p4), .val (.int p5), .val (.int la), .val (.int lb), .val (.int c0), .val (.int c1), .val (.int c2), .val (.int d0), .val (.int d1), .val (.int d2), .val (.ref s1), .val (.ref s2), .val (.int i2), .val (.ref b5), .val (.int (((p5.toUInt32 >>> ((1 : Int32) &&& 31).toUInt32).toInt32) &&& (3 : Int32))), .unset, .unset] [(.int (1 : Int32)), (.int (((p5.toUInt32 >>> ((1 : Int32) &&& 31).toUInt32).toInt32) &&& (3 : Int32)))]) (fun t k => XS.iconst X6.here hx rfl (hb hby at_138) k) ?_
  by_cases hc139_7 : (((p5.toUInt32 >>> ((1 : Int32) &&& 31).toUInt32).toInt32) &&& (3 : Int32)) = (1 : Int32)
  · refine Goes.to (T' := T6) (mkF m 142 #[.val (.int p0), .val (.int p1), .val (.int p2), .val (.int p3), .val (.int p4), .val (.int p5), .val (.int la), .val (.int lb), .val (.int c0), .val (.int c1), .val (.int c2), .val (.int d0), .val (.int d1), .val (.int d2), .val (.ref s1), .val (.ref s2), .val (.int i2), .val (.ref b5), .val (.int (((p5.toUInt32 >>> ((1 : Int32) &&& 31).toUInt32).toInt32) &&& (3 : Int32))), .unset, .unset] []) (fun t k => XS.icmpNo X6.here hx rfl (hb hby at_139) rfl (teq hc139_7).2 k) ?_
    refine Goes.to (T' := T6) (mkF m 144 #[.val (.int p0), .val (.int p1), .val (.int p2), .val (.int p3), .val (.int p4), .val (.int p5), .val (.int la), .val (.int lb), .val (.int c0), .val (.int c1), .val (.int c2), .val (.int d0), .val (.int d1), .val (.int d2), .val (.ref s1), .val (.ref s2), .val (.int i2), .val (.ref b5), .val (.int (((p5.toUInt32 >>> ((1 : Int32) &&& 31).toUInt32).toInt32) &&& (3 : Int32))), .unset, .unset] [(.ref b5)]) (fun t k => XS.aload X6.here hx rfl (hb hby at_142) rfl rfl k) ?_
    refine Goes.to (T' := T6) (mkF m 145 #[.val (.int p0), .val (.int p1), .val (.int p2), .val (.int p3), .val (.int p4), .val (.int p5), .val (.int la), .val (.int lb), .val (.int c0), .val (.int c1), .val (.int c2), .val (.int d0), .val (.int d1), .val (.int d2), .val (.ref s1), .val (.ref s2), .val (.int i2), .val (.ref b5), .val (.int (((p5.toUInt32 >>> ((1 : Int32) &&& 31).toUInt32).toInt32) &&& (3 : Int32))), .unset, .unset] [.null, (.ref b5)]) (fun t k => XS.aconstNull X6.here hx rfl (hb hby at_144) k) ?_
    obtain ⟨cq8, kq8, q8a, q8b, q8c⟩ := isOf hZ rfl E_b5
    obtain ⟨_, _, ⟨T8, L8, k8, n8⟩, -, X8, ⟨Lc8, hQ8, l8, y8, z8⟩, st8⟩ := X6.virtualBack hx (y := (⟨"com/example/lachesis/lachesis/model/RecordId", "equals", "(Ljava/lang/Object;)Z"⟩ : MethodName)) (z := (⟨"com/example/lachesis/lachesis/model/RecordId", "equals", "(Ljava/lang/Object;)Z"⟩ : MethodName)) hown (mvT hZ (hw _ (List.mem_of_getElem? (i := 64) rfl))) (mvT hZ (hw _ (List.mem_of_getElem? (i := 65) rfl))) (notFace_of_selects (args := #[]) (mvT hZ (hw _ (List.mem_of_getElem? (i := 67) rfl)))) (mvT hZ (hw _ (List.mem_of_getElem? (i := 67) rfl))) (mvT hZ (hw _ (List.mem_of_getElem? (i := 66) rfl))) (by decide) (backOf (W := 0) (rm_eqN l Z a0 hw [] b5 T6.heap n0 O) hZ (hw _ (List.mem_of_getElem? (i := 68) rfl)) (hw _ (List.mem_of_getElem? (i := 28) rfl)) (by decide) (by decide)) q8a q8c (g := (mkF m 145 #[.val (.int p0), .val (.int p1), .val (.int p2), .val (.int p3), .val (.int p4), .val (.int p5), .val (.int la), .val (.int lb), .val (.int c0), .val (.int c1), .val (.int c2), .val (.int d0), .val (.int d1), .val (.int d2), .val (.ref s1), .val (.ref s2), .val (.int i2), .val (.ref b5), .val (.int (((p5.toUInt32 >>> ((1 : Int32) &&& 31).toUInt32).toInt32) &&& (3 : Int32))), .unset, .unset] [.null, (.ref b5)])) rfl (by rw [hml]; rfl) (Steps.refl _) (argsL := [.null]) (rest := []) (lenOf pd_8 rfl) rfl (by show 2 * 0 + _ ≤ _; exact Nat.le_of_eq rfl) (hb hby at_145) (fun _ _ => ⟨rfl, rfl, (by decide : 15 + 0 ≤ _), (by decide : 67 + 0 ≤ _)⟩)
    dsimp only [Pt.U, Pt.locs, Pt.cells, Pt.slots] at X8 l8 y8 z8 st8 hQ8
    subst l8 y8 z8
    obtain ⟨rfl, N8, hs8⟩ := hQ8
    have N8' := Fr.app N6' N8
    refine Goes.to (T' := T8) (mkF m 148 #[.val (.int p0), .val (.int p1), .val (.int p2), .val (.int p3), .val (.int p4), .val (.int p5), .val (.int la), .val (.int lb), .val (.int c0), .val (.int c1), .val (.int c2), .val (.int d0), .val (.int d1), .val (.int d2), .val (.ref s1), .val (.ref s2), .val (.int i2), .val (.ref b5), .val (.int (((p5.toUInt32 >>> ((1 : Int32) &&& 31).toUInt32).toInt32) &&& (3 : Int32))), .unset, .unset] [(.int (0 : Int32))]) (fun t k => st8.trans k) ?_
    refine Goes.to (T' := T8) (mkF m 151 #[.val (.int p0), .val (.int p1), .val (.int p2), .val (.int p3), .val (.int p4), .val (.int p5), .val (.int la), .val (.int lb), .val (.int c0), .val (.int c1), .val (.int c2), .val (.int d0), .val (.int d1), .val (.int d2), .val (.ref s1), .val (.ref s2), .val (.int i2), .val (.ref b5), .val (.int (((p5.toUInt32 >>> ((1 : Int32) &&& 31).toUInt32).toInt32) &&& (3 : Int32))), .unset, .unset] []) (fun t k => XS.ifNo X8.here hx rfl (hb hby at_148) rfl ((if0 _ _).trans (teq ((by decide) : (0 : Int32) = (0 : Int32))).2) k) ?_
    refine Goes.to (T' := T8) (mkF m 152 #[.val (.int p0), .val (.int p1), .val (.int p2), .val (.int p3), .val (.int p4), .val (.int p5), .val (.int la), .val (.int lb), .val (.int c0), .val (.int c1), .val (.int c2), .val (.int d0), .val (.int d1), .val (.int d2), .val (.ref s1), .val (.ref s2), .val (.int i2), .val (.ref b5), .val (.int (((p5.toUInt32 >>> ((1 : Int32) &&& 31).toUInt32).toInt32) &&& (3 : Int32))), .unset, .unset] [(.int (1 : Int32))]) (fun t k => XS.iconst X8.here hx rfl (hb hby at_151) k) ?_
    refine Goes.to (T' := T8) (mkF m 156 #[.val (.int p0), .val (.int p1), .val (.int p2), .val (.int p3), .val (.int p4), .val (.int p5), .val (.int la), .val (.int lb), .val (.int c0), .val (.int c1), .val (.int c2), .val (.int d0), .val (.int d1), .val (.int d2), .val (.ref s1), .val (.ref s2), .val (.int i2), .val (.ref b5), .val (.int (((p5.toUInt32 >>> ((1 : Int32) &&& 31).toUInt32).toInt32) &&& (3 : Int32))), .unset, .unset] [(.int (1 : Int32))]) (fun t k => XS.goto X8.here hx rfl (pc0 := 152) (pc' := 156) rfl (hb hby at_152) (by decide) (by decide) k) ?_
    refine Goes.retNW X8 hx Bd.notSynchronized hS0 (by rw [hs8]; exact hk0) (t := .boolean) Bd.returns (by simp) (hb hby at_156) (by decide) (by decide) ?_
    rw [hs8]
    exact ⟨rfl, N8'⟩
  · refine Goes.to (T' := T6) (mkF m 157 #[.val (.int p0), .val (.int p1), .val (.int p2), .val (.int p3), .val (.int p4), .val (.int p5), .val (.int la), .val (.int lb), .val (.int c0), .val (.int c1), .val (.int c2), .val (.int d0), .val (.int d1), .val (.int d2), .val (.ref s1), .val (.ref s2), .val (.int i2), .val (.ref b5), .val (.int (((p5.toUInt32 >>> ((1 : Int32) &&& 31).toUInt32).toInt32) &&& (3 : Int32))), .unset, .unset] []) (fun t k => XS.icmpYes X6.here hx rfl (pc0 := 139) (pc' := 157) rfl (hb hby at_139) rfl (feq hc139_7).2 (by decide) (by decide) k) ?_
    refine Goes.to (T' := T6) (mkF m 159 #[.val (.int p0), .val (.int p1), .val (.int p2), .val (.int p3), .val (.int p4), .val (.int p5), .val (.int la), .val (.int lb), .val (.int c0), .val (.int c1), .val (.int c2), .val (.int d0), .val (.int d1), .val (.int d2), .val (.ref s1), .val (.ref s2), .val (.int i2), .val (.ref b5), .val (.int (((p5.toUInt32 >>> ((1 : Int32) &&& 31).toUInt32).toInt32) &&& (3 : Int32))), .unset, .unset] [(.int (((p5.toUInt32 >>> ((1 : Int32) &&& 31).toUInt32).toInt32) &&& (3 : Int32)))]) (fun t k => XS.iload X6.here hx rfl (hb hby at_157) rfl k) ?_
    refine Goes.to (T' := T6) (mkF m 160 #[.val (.int p0), .val (.int p1), .val (.int p2), .val (.int p3), .val (.int p4), .val (.int p5), .val (.int la), .val (.int lb), .val (.int c0), .val (.int c1), .val (.int c2), .val (.int d0), .val (.int d1), .val (.int d2), .val (.ref s1), .val (.ref s2), .val (.int i2), .val (.ref b5), .val (.int (((p5.toUInt32 >>> ((1 : Int32) &&& 31).toUInt32).toInt32) &&& (3 : Int32))), .unset, .unset] [(.int (2 : Int32)), (.int (((p5.toUInt32 >>> ((1 : Int32) &&& 31).toUInt32).toInt32) &&& (3 : Int32)))]) (fun t k => XS.iconst X6.here hx rfl (hb hby at_159) k) ?_
    by_cases hc160_9 : (((p5.toUInt32 >>> ((1 : Int32) &&& 31).toUInt32).toInt32) &&& (3 : Int32)) = (2 : Int32)
    · refine Goes.to (T' := T6) (mkF m 163 #[.val (.int p0), .val (.int p1), .val (.int p2), .val (.int p3), .val (.int p4), .val (.int p5), .val (.int la), .val (.int lb), .val (.int c0), .val (.int c1), .val (.int c2), .val (.int d0), .val (.int d1), .val (.int d2), .val (.ref s1), .val (.ref s2), .val (.int i2), .val (.ref b5), .val (.int (((p5.toUInt32 >>> ((1 : Int32) &&& 31).toUInt32).toInt32) &&& (3 : Int32))), .unset, .unset] []) (fun t k => XS.icmpNo X6.here hx rfl (hb hby at_160) rfl (teq hc160_9).2 k) ?_
      refine Goes.to (T' := T6) (mkF m 165 #[.val (.int p0), .val (.int p1), .val (.int p2), .val (.int p3), .val (.int p4), .val (.int p5), .val (.int la), .val (.int lb), .val (.int c0), .val (.int c1), .val (.int c2), .val (.int d0), .val (.int d1), .val (.int d2), .val (.ref s1), .val (.ref s2), .val (.int i2), .val (.ref b5), .val (.int (((p5.toUInt32 >>> ((1 : Int32) &&& 31).toUInt32).toInt32) &&& (3 : Int32))), .unset, .unset] [(.ref b5)]) (fun t k => XS.aload X6.here hx rfl (hb hby at_163) rfl rfl k) ?_
      refine Goes.to (T' := T6) (mkF m 167 #[.val (.int p0), .val (.int p1), .val (.int p2), .val (.int p3), .val (.int p4), .val (.int p5), .val (.int la), .val (.int lb), .val (.int c0), .val (.int c1), .val (.int c2), .val (.int d0), .val (.int d1), .val (.int d2), .val (.ref s1), .val (.ref s2), .val (.int i2), .val (.ref b5), .val (.int (((p5.toUInt32 >>> ((1 : Int32) &&& 31).toUInt32).toInt32) &&& (3 : Int32))), .unset, .unset] [(.ref s2), (.ref b5)]) (fun t k => XS.aload X6.here hx rfl (hb hby at_165) rfl rfl k) ?_
      obtain ⟨cq10, kq10, q10a, q10b, q10c⟩ := isOf hZ rfl E_b5
      obtain ⟨_, _, ⟨T10, L10, k10, n10⟩, -, X10, ⟨Lc10, hQ10, l10, y10, z10⟩, st10⟩ := X6.virtualBack hx (y := (⟨"com/example/lachesis/lachesis/model/RecordId", "equals", "(Ljava/lang/Object;)Z"⟩ : MethodName)) (z := (⟨"com/example/lachesis/lachesis/model/RecordId", "equals", "(Ljava/lang/Object;)Z"⟩ : MethodName)) hown (mvT hZ (hw _ (List.mem_of_getElem? (i := 64) rfl))) (mvT hZ (hw _ (List.mem_of_getElem? (i := 65) rfl))) (notFace_of_selects (args := #[]) (mvT hZ (hw _ (List.mem_of_getElem? (i := 67) rfl)))) (mvT hZ (hw _ (List.mem_of_getElem? (i := 67) rfl))) (mvT hZ (hw _ (List.mem_of_getElem? (i := 66) rfl))) (by decide) (backOf (W := 0) (rm_eqS l Z a0 hw [] b5 s2 T6.heap n0 O E_s2) hZ (hw _ (List.mem_of_getElem? (i := 68) rfl)) (hw _ (List.mem_of_getElem? (i := 28) rfl)) (by decide) (by decide)) q10a q10c (g := (mkF m 167 #[.val (.int p0), .val (.int p1), .val (.int p2), .val (.int p3), .val (.int p4), .val (.int p5), .val (.int la), .val (.int lb), .val (.int c0), .val (.int c1), .val (.int c2), .val (.int d0), .val (.int d1), .val (.int d2), .val (.ref s1), .val (.ref s2), .val (.int i2), .val (.ref b5), .val (.int (((p5.toUInt32 >>> ((1 : Int32) &&& 31).toUInt32).toInt32) &&& (3 : Int32))), .unset, .unset] [(.ref s2), (.ref b5)])) rfl (by rw [hml]; rfl) (Steps.refl _) (argsL := [(.ref s2)]) (rest := []) (lenOf pd_8 rfl) rfl (by show 2 * 0 + _ ≤ _; exact Nat.le_of_eq rfl) (hb hby at_167) (fun _ _ => ⟨rfl, rfl, (by decide : 15 + 0 ≤ _), (by decide : 67 + 0 ≤ _)⟩)
      dsimp only [Pt.U, Pt.locs, Pt.cells, Pt.slots] at X10 l10 y10 z10 st10 hQ10
      subst l10 y10 z10
      obtain ⟨rfl, N10, hs10⟩ := hQ10
      have N10' := Fr.app N6' N10
      refine Goes.to (T' := T10) (mkF m 170 #[.val (.int p0), .val (.int p1), .val (.int p2), .val (.int p3), .val (.int p4), .val (.int p5), .val (.int la), .val (.int lb), .val (.int c0), .val (.int c1), .val (.int c2), .val (.int d0), .val (.int d1), .val (.int d2), .val (.ref s1), .val (.ref s2), .val (.int i2), .val (.ref b5), .val (.int (((p5.toUInt32 >>> ((1 : Int32) &&& 31).toUInt32).toInt32) &&& (3 : Int32))), .unset, .unset] [(.int (0 : Int32))]) (fun t k => st10.trans k) ?_
      refine Goes.to (T' := T10) (mkF m 173 #[.val (.int p0), .val (.int p1), .val (.int p2), .val (.int p3), .val (.int p4), .val (.int p5), .val (.int la), .val (.int lb), .val (.int c0), .val (.int c1), .val (.int c2), .val (.int d0), .val (.int d1), .val (.int d2), .val (.ref s1), .val (.ref s2), .val (.int i2), .val (.ref b5), .val (.int (((p5.toUInt32 >>> ((1 : Int32) &&& 31).toUInt32).toInt32) &&& (3 : Int32))), .unset, .unset] []) (fun t k => XS.ifNo X10.here hx rfl (hb hby at_170) rfl ((if0 _ _).trans (teq ((by decide) : (0 : Int32) = (0 : Int32))).2) k) ?_
      refine Goes.to (T' := T10) (mkF m 174 #[.val (.int p0), .val (.int p1), .val (.int p2), .val (.int p3), .val (.int p4), .val (.int p5), .val (.int la), .val (.int lb), .val (.int c0), .val (.int c1), .val (.int c2), .val (.int d0), .val (.int d1), .val (.int d2), .val (.ref s1), .val (.ref s2), .val (.int i2), .val (.ref b5), .val (.int (((p5.toUInt32 >>> ((1 : Int32) &&& 31).toUInt32).toInt32) &&& (3 : Int32))), .unset, .unset] [(.int (1 : Int32))]) (fun t k => XS.iconst X10.here hx rfl (hb hby at_173) k) ?_
      refine Goes.to (T' := T10) (mkF m 178 #[.val (.int p0), .val (.int p1), .val (.int p2), .val (.int p3), .val (.int p4), .val (.int p5), .val (.int la), .val (.int lb), .val (.int c0), .val (.int c1), .val (.int c2), .val (.int d0), .val (.int d1), .val (.int d2), .val (.ref s1), .val (.ref s2), .val (.int i2), .val (.ref b5), .val (.int (((p5.toUInt32 >>> ((1 : Int32) &&& 31).toUInt32).toInt32) &&& (3 : Int32))), .unset, .unset] [(.int (1 : Int32))]) (fun t k => XS.goto X10.here hx rfl (pc0 := 174) (pc' := 178) rfl (hb hby at_174) (by decide) (by decide) k) ?_
      refine Goes.retNW X10 hx Bd.notSynchronized hS0 (by rw [hs10]; exact hk0) (t := .boolean) Bd.returns (by simp) (hb hby at_178) (by decide) (by decide) ?_
      rw [hs10]
      exact ⟨rfl, N10'⟩
    · refine Goes.to (T' := T6) (mkF m 179 #[.val (.int p0), .val (.int p1), .val (.int p2), .val (.int p3), .val (.int p4), .val (.int p5), .val (.int la), .val (.int lb), .val (.int c0), .val (.int c1), .val (.int c2), .val (.int d0), .val (.int d1), .val (.int d2), .val (.ref s1), .val (.ref s2), .val (.int i2), .val (.ref b5), .val (.int (((p5.toUInt32 >>> ((1 : Int32) &&& 31).toUInt32).toInt32) &&& (3 : Int32))), .unset, .unset] []) (fun t k => XS.icmpYes X6.here hx rfl (pc0 := 160) (pc' := 179) rfl (hb hby at_160) rfl (feq hc160_9).2 (by decide) (by decide) k) ?_
      refine Goes.to (T' := T6) (mkF m 181 #[.val (.int p0), .val (.int p1), .val (.int p2), .val (.int p3), .val (.int p4), .val (.int p5), .val (.int la), .val (.int lb), .val (.int c0), .val (.int c1), .val (.int c2), .val (.int d0), .val (.int d1), .val (.int d2), .val (.ref s1), .val (.ref s2), .val (.int i2), .val (.ref b5), .val (.int (((p5.toUInt32 >>> ((1 : Int32) &&& 31).toUInt32).toInt32) &&& (3 : Int32))), .unset, .unset] [(.int (((p5.toUInt32 >>> ((1 : Int32) &&& 31).toUInt32).toInt32) &&& (3 : Int32)))]) (fun t k => XS.iload X6.here hx rfl (hb hby at_179) rfl k) ?_
      refine Goes.to (T' := T6) (mkF m 182 #[.val (.int p0), .val (.int p1), .val (.int p2), .val (.int p3), .val (.int p4), .val (.int p5), .val (.int la), .val (.int lb), .val (.int c0), .val (.int c1), .val (.int c2), .val (.int d0), .val (.int d1), .val (.int d2), .val (.ref s1), .val (.ref s2), .val (.int i2), .val (.ref b5), .val (.int (((p5.toUInt32 >>> ((1 : Int32) &&& 31).toUInt32).toInt32) &&& (3 : Int32))), .unset, .unset] [(.int (3 : Int32)), (.int (((p5.toUInt32 >>> ((1 : Int32) &&& 31).toUInt32).toInt32) &&& (3 : Int32)))]) (fun t k => XS.iconst X6.here hx rfl (hb hby at_181) k) ?_
      by_cases hc182_11 : (((p5.toUInt32 >>> ((1 : Int32) &&& 31).toUInt32).toInt32) &&& (3 : Int32)) = (3 : Int32)
      · refine Goes.to (T' := T6) (mkF m 185 #[.val (.int p0), .val (.int p1), .val (.int p2), .val (.int p3), .val (.int p4), .val (.int p5), .val (.int la), .val (.int lb), .val (.int c0), .val (.int c1), .val (.int c2), .val (.int d0), .val (.int d1), .val (.int d2), .val (.ref s1), .val (.ref s2), .val (.int i2), .val (.ref b5), .val (.int (((p5.toUInt32 >>> ((1 : Int32) &&& 31).toUInt32).toInt32) &&& (3 : Int32))), .unset, .unset] []) (fun t k => XS.icmpNo X6.here hx rfl (hb hby at_182) rfl (teq hc182_11).2 k) ?_
        refine Goes.to (T' := T6) (mkF m 187 #[.val (.int p0), .val (.int p1), .val (.int p2), .val (.int p3), .val (.int p4), .val (.int p5), .val (.int la), .val (.int lb), .val (.int c0), .val (.int c1), .val (.int c2), .val (.int d0), .val (.int d1), .val (.int d2), .val (.ref s1), .val (.ref s2), .val (.int i2), .val (.ref b5), .val (.int (((p5.toUInt32 >>> ((1 : Int32) &&& 31).toUInt32).toInt32) &&& (3 : Int32))), .unset, .unset] [(.ref b5)]) (fun t k => XS.aload X6.here hx rfl (hb hby at_185) rfl rfl k) ?_
        refine Goes.to (T' := T6) (mkF m 189 #[.val (.int p0), .val (.int p1), .val (.int p2), .val (.int p3), .val (.int p4), .val (.int p5), .val (.int la), .val (.int lb), .val (.int c0), .val (.int c1), .val (.int c2), .val (.int d0), .val (.int d1), .val (.int d2), .val (.ref s1), .val (.ref s2), .val (.int i2), .val (.ref b5), .val (.int (((p5.toUInt32 >>> ((1 : Int32) &&& 31).toUInt32).toInt32) &&& (3 : Int32))), .unset, .unset] [(.ref b5), (.ref b5)]) (fun t k => XS.aload X6.here hx rfl (hb hby at_187) rfl rfl k) ?_
        obtain ⟨cq12, kq12, q12a, q12b, q12c⟩ := isOf hZ rfl E_b5
        obtain ⟨_, _, ⟨T12, L12, k12, n12⟩, -, X12, ⟨Lc12, hQ12, l12, y12, z12⟩, st12⟩ := X6.virtualBack hx (y := (⟨"com/example/lachesis/lachesis/model/RecordId", "equals", "(Ljava/lang/Object;)Z"⟩ : MethodName)) (z := (⟨"com/example/lachesis/lachesis/model/RecordId", "equals", "(Ljava/lang/Object;)Z"⟩ : MethodName)) hown (mvT hZ (hw _ (List.mem_of_getElem? (i := 64) rfl))) (mvT hZ (hw _ (List.mem_of_getElem? (i := 65) rfl))) (notFace_of_selects (args := #[]) (mvT hZ (hw _ (List.mem_of_getElem? (i := 67) rfl)))) (mvT hZ (hw _ (List.mem_of_getElem? (i := 67) rfl))) (mvT hZ (hw _ (List.mem_of_getElem? (i := 66) rfl))) (by decide) (backOf (W := 0) (rm_eqR l Z a0 hw [] b5 b5 s1 t1 s1 t1 k1 k1 m1 m1 p3 p3 cz _ _ _ _ T6.heap n0 O F_activity_b5 F_instance_b5 F_activity_b5 F_instance_b5 E_b5 E_s1 F_value_s1 F_coder_s1 V_t1 hcd1 (own_csb hx0 hx1 hx2) (own_csl2 _ _ _ _) E_s1 F_value_s1 F_coder_s1 V_t1 hcd1 (own_csb hx0 hx1 hx2) (own_csl2 _ _ _ _) S_CS hcz) hZ (hw _ (List.mem_of_getElem? (i := 68) rfl)) (hw _ (List.mem_of_getElem? (i := 28) rfl)) (by decide) (by decide)) q12a q12c (g := (mkF m 189 #[.val (.int p0), .val (.int p1), .val (.int p2), .val (.int p3), .val (.int p4), .val (.int p5), .val (.int la), .val (.int lb), .val (.int c0), .val (.int c1), .val (.int c2), .val (.int d0), .val (.int d1), .val (.int d2), .val (.ref s1), .val (.ref s2), .val (.int i2), .val (.ref b5), .val (.int (((p5.toUInt32 >>> ((1 : Int32) &&& 31).toUInt32).toInt32) &&& (3 : Int32))), .unset, .unset] [(.ref b5), (.ref b5)])) rfl (by rw [hml]; rfl) (Steps.refl _) (argsL := [(.ref b5)]) (rest := []) (lenOf pd_8 rfl) rfl (by show 2 * 0 + _ ≤ _; exact Nat.le_of_eq rfl) (hb hby at_189) (fun _ _ => ⟨rfl, rfl, (by decide : 15 + 0 ≤ _), (by decide : 67 + 0 ≤ _)⟩)
        dsimp only [Pt.U, Pt.locs, Pt.cells, Pt.slots] at X12 l12 y12 z12 st12 hQ12
        subst l12 y12 z12
        obtain ⟨rfl, N12, hs12⟩ := hQ12
        have N12' := Fr.app N6' N12
        refine Goes.to (T' := T12) (mkF m 192 #[.val (.int p0), .val (.int p1), .val (.int p2), .val (.int p3), .val (.int p4), .val (.int p5), .val (.int la), .val (.int lb), .val (.int c0), .val (.int c1), .val (.int c2), .val (.int d0), .val (.int d1), .val (.int d2), .val (.ref s1), .val (.ref s2), .val (.int i2), .val (.ref b5), .val (.int (((p5.toUInt32 >>> ((1 : Int32) &&& 31).toUInt32).toInt32) &&& (3 : Int32))), .unset, .unset] [(.int (bit (own_cs la c0 c1 c2 = own_cs la c0 c1 c2 ∧ p3 = p3)))]) (fun t k => st12.trans k) ?_
        refine Goes.retNW X12 hx Bd.notSynchronized hS0 (by rw [hs12]; exact hk0) (t := .boolean) Bd.returns (by simp) (hb hby at_192) (by decide) (by decide) ?_
        rw [hs12]
        exact ⟨by rw [bit_t ⟨rfl, rfl⟩]; rfl, N12'⟩
      · refine Goes.to (T' := T6) (mkF m 193 #[.val (.int p0), .val (.int p1), .val (.int p2), .val (.int p3), .val (.int p4), .val (.int p5), .val (.int la), .val (.int lb), .val (.int c0), .val (.int c1), .val (.int c2), .val (.int d0), .val (.int d1), .val (.int d2), .val (.ref s1), .val (.ref s2), .val (.int i2), .val (.ref b5), .val (.int (((p5.toUInt32 >>> ((1 : Int32) &&& 31).toUInt32).toInt32) &&& (3 : Int32))), .unset, .unset] []) (fun t k => XS.icmpYes X6.here hx rfl (pc0 := 182) (pc' := 193) rfl (hb hby at_182) rfl (feq hc182_11).2 (by decide) (by decide) k) ?_
        obtain ⟨T13, h13, X13, e13, E13, A13, D13, -, st13⟩ := newO X6 hx hZ hown (hw _ (List.mem_of_getElem? (i := 26) rfl)) (hw _ (List.mem_of_getElem? (i := 27) rfl)) (hw _ (List.mem_of_getElem? (i := 28) rfl)) rfl (g := (mkF m 193 #[.val (.int p0), .val (.int p1), .val (.int p2), .val (.int p3), .val (.int p4), .val (.int p5), .val (.int la), .val (.int lb), .val (.int c0), .val (.int c1), .val (.int c2), .val (.int d0), .val (.int d1), .val (.int d2), .val (.ref s1), .val (.ref s2), .val (.int i2), .val (.ref b5), .val (.int (((p5.toUInt32 >>> ((1 : Int32) &&& 31).toUInt32).toInt32) &&& (3 : Int32))), .unset, .unset] [])) rfl (hb hby at_193) (by decide) (by decide)
        obtain ⟨b13, g13⟩ : ∃ z, z = T6.heap.size := ⟨_, rfl⟩
        rw [← g13] at A13 D13 st13
        have g_b13 : n0 ≤ b13 := Nat.le_trans (O.1 ▸ O.2.1) (Nat.le_of_eq g13.symm)
        have ne_s1_b13 : s1 ≠ b13 := Nat.ne_of_lt (Nat.lt_of_lt_of_le E_s1.lt (Nat.le_of_eq g13.symm))
        have ne_t1_b13 : t1 ≠ b13 := Nat.ne_of_lt (Nat.lt_of_lt_of_le V_t1.lt (Nat.le_of_eq g13.symm))
        have ne_s2_b13 : s2 ≠ b13 := Nat.ne_of_lt (Nat.lt_of_lt_of_le E_s2.lt (Nat.le_of_eq g13.symm))
        have ne_t2_b13 : t2 ≠ b13 := Nat.ne_of_lt (Nat.lt_of_lt_of_le V_t2.lt (Nat.le_of_eq g13.symm))
        have ne_b5_b13 : b5 ≠ b13 := Nat.ne_of_lt (Nat.lt_of_lt_of_le E_b5.lt (Nat.le_of_eq g13.symm))
        replace O := O.ext E13
        replace hk0 := Nat.le_trans hk0 E13.1
        replace E_s1 := E_s1.ext E13
        replace V_t1 := V_t1.ext E13
        replace E_s2 := E_s2.ext E13
        replace F_value_s2 := F_value_s2.ext E13
        replace F_coder_s2 := F_coder_s2.ext E13
        replace F_hash_s2 := F_hash_s2.ext E13
        replace F_hashIsZero_s2 := F_hashIsZero_s2.ext E13
        replace V_t2 := V_t2.ext E13
        replace E_b5 := E_b5.ext E13
        replace F_value_s1 := F_value_s1.ext E13
        replace F_coder_s1 := F_coder_s1.ext E13
        replace F_activity_b5 := F_activity_b5.ext E13
        replace F_instance_b5 := F_instance_b5.ext E13
        have E_b13 : Exa Z h13 b13 "com/example/lachesis/lachesis/model/RecordId" := A13
        have F_activity_b13 : Fld Z h13 b13 "com/example/lachesis/lachesis/model/RecordId" "activity" "Ljava/lang/String;" .null := D13 (Or.inr (hw _ (List.mem_of_getElem? (i := 40) rfl))) (ty := (.object "java/lang/String")) (by decide)
        have F_instance_b13 : Fld Z h13 b13 "com/example/lachesis/lachesis/model/RecordId" "instance" "I" (.int (0 : Int32)) := D13 (Or.inr (hw _ (List.mem_of_getElem? (i := 42) rfl))) (ty := .int) (by decide)
        have F_hash_b13 : Fld Z h13 b13 "com/example/lachesis/lachesis/model/RecordId" "hash" "I" (.int (0 : Int32)) := D13 (Or.inr (hw _ (List.mem_of_getElem? (i := 63) rfl))) (ty := .int) (by decide)
        refine Goes.to (T' := T13) (mkF m 196 #[.val (.int p0), .val (.int p1), .val (.int p2), .val (.int p3), .val (.int p4), .val (.int p5), .val (.int la), .val (.int lb), .val (.int c0), .val (.int c1), .val (.int c2), .val (.int d0), .val (.int d1), .val (.int d2), .val (.ref s1), .val (.ref s2), .val (.int i2), .val (.ref b5), .val (.int (((p5.toUInt32 >>> ((1 : Int32) &&& 31).toUInt32).toInt32) &&& (3 : Int32))), .unset, .unset] [(.ref b13)]) st13 ?_
        refine Goes.to (T' := T13) (mkF m 197 #[.val (.int p0), .val (.int p1), .val (.int p2), .val (.int p3), .val (.int p4), .val (.int p5), .val (.int la), .val (.int lb), .val (.int c0), .val (.int c1), .val (.int c2), .val (.int d0), .val (.int d1), .val (.int d2), .val (.ref s1), .val (.ref s2), .val (.int i2), .val (.ref b5), .val (.int (((p5.toUInt32 >>> ((1 : Int32) &&& 31).toUInt32).toInt32) &&& (3 : Int32))), .unset, .unset] [(.ref b13), (.ref b13)]) (fun t k => XS.dup X13.here hx rfl (hb hby at_196) rfl rfl k) ?_
        refine Goes.to (T' := T13) (mkF m 199 #[.val (.int p0), .val (.int p1), .val (.int p2), .val (.int p3), .val (.int p4), .val (.int p5), .val (.int la), .val (.int lb), .val (.int c0), .val (.int c1), .val (.int c2), .val (.int d0), .val (.int d1), .val (.int d2), .val (.ref s1), .val (.ref s2), .val (.int i2), .val (.ref b5), .val (.int (((p5.toUInt32 >>> ((1 : Int32) &&& 31).toUInt32).toInt32) &&& (3 : Int32))), .unset, .unset] [(.ref s2), (.ref b13), (.ref b13)]) (fun t k => XS.aload X13.here hx rfl (hb hby at_197) rfl rfl k) ?_
        refine Goes.to (T' := T13) (mkF m 201 #[.val (.int p0), .val (.int p1), .val (.int p2), .val (.int p3), .val (.int p4), .val (.int p5), .val (.int la), .val (.int lb), .val (.int c0), .val (.int c1), .val (.int c2), .val (.int d0), .val (.int d1), .val (.int d2), .val (.ref s1), .val (.ref s2), .val (.int i2), .val (.ref b5), .val (.int (((p5.toUInt32 >>> ((1 : Int32) &&& 31).toUInt32).toInt32) &&& (3 : Int32))), .unset, .unset] [(.int i2), (.ref s2), (.ref b13), (.ref b13)]) (fun t k => XS.iload X13.here hx rfl (hb hby at_199) rfl k) ?_
        have hEr2 : ¬ _ = ([] : List Int32) → Exa Z h13 t2 "[B" := fun q => own_keepE V_t2 (hE2 q) V0_t2
        obtain ⟨_, _, ⟨T14, L14, k14, n14⟩, -, X14, hT14, hG14, ⟨Lc14, hQ14, l14, y14, z14⟩, st14⟩ := X13.specialBackS hx (y := (⟨"com/example/lachesis/lachesis/model/RecordId", "<init>", "(Ljava/lang/String;I)V"⟩ : MethodName)) rfl hown (mvT hZ (hw _ (List.mem_of_getElem? (i := 29) rfl))) (mvT hZ (hw _ (List.mem_of_getElem? (i := 30) rfl))) (mvT hZ (hw _ (List.mem_of_getElem? (i := 31) rfl))) (by decide) (backOfS (W := 1) (rm_rid l Z a0 hw [] b13 s2 t2 i2 _ _ cz _ _ _ _ _ h13 n0 O E_s2 F_value_s2 F_coder_s2 F_hash_s2 F_hashIsZero_s2 V_t2 hcd2 (own_csl _ _ _ _) hEr2 g_s2 S_CS hcz E_b13 g_b13 ne_s2_b13 ne_t2_b13 nts2 F_activity_b13 F_instance_b13 F_hash_b13) hZ (hw _ (List.mem_of_getElem? (i := 31) rfl)) (hw _ (List.mem_of_getElem? (i := 28) rfl)) (by decide) (by decide)) (g := (mkF m 201 #[.val (.int p0), .val (.int p1), .val (.int p2), .val (.int p3), .val (.int p4), .val (.int p5), .val (.int la), .val (.int lb), .val (.int c0), .val (.int c1), .val (.int c2), .val (.int d0), .val (.int d1), .val (.int d2), .val (.ref s1), .val (.ref s2), .val (.int i2), .val (.ref b5), .val (.int (((p5.toUInt32 >>> ((1 : Int32) &&& 31).toUInt32).toInt32) &&& (3 : Int32))), .unset, .unset] [(.int i2), (.ref s2), (.ref b13), (.ref b13)])) rfl (by rw [hml]; rfl) (Steps.refl _) (a := b13) (argsL := [(.ref s2), (.int i2)]) (rest := [(.ref b13)]) (lenOf pd_10 rfl) rfl (by show 2 * 0 + _ ≤ _; exact Nat.le_of_eq rfl) (hb hby at_201) (fun _ _ => ⟨rfl, e13, (by decide : 16 + 2 ≤ _), (by decide : 70 + 40 ≤ _)⟩)
        dsimp only [Pt.U, Pt.locs, Pt.cells, Pt.slots] at X14 l14 y14 z14 st14 hQ14 hT14 hG14
        subst l14 y14 z14
        obtain ⟨X14, hT14, hZ', hown'⟩ := rebS hS0 (show _ ≤ T13.heap.size by rw [e13]; exact hk0) X14 hT14 hG14 hZ hown
        replace hS0 := hT14
        replace hk0 := Nat.le_refl T14.heap.size
        replace hZ := hZ'
        replace hown := hown'
        obtain ⟨rfl, N14, K14, F_activity_b13, F_instance_b13, F_value_s2, F_coder_s2⟩ := hQ14
        have N14' := Fr.app N6' N14
        replace E_s1 := E_s1.keep K14
        replace V_t1 := V_t1.keep K14 (ninS ne_t1_b13 (ninS nt1s2 (nin0)))
        replace E_s2 := E_s2.keep K14
        replace V_t2 := V_t2.keep K14 (ninS ne_t2_b13 (ninS nts2 (nin0)))
        replace E_b5 := E_b5.keep K14
        replace F_value_s1 := F_value_s1.keep K14 (ninS ne_s1_b13 (ninS n12 (nin0)))
        replace F_coder_s1 := F_coder_s1.keep K14 (ninS ne_s1_b13 (ninS n12 (nin0)))
        replace F_activity_b5 := F_activity_b5.keep K14 (ninS ne_b5_b13 (ninS (Ne.symm ne_s2_b5) (nin0)))
        replace F_instance_b5 := F_instance_b5.keep K14 (ninS ne_b5_b13 (ninS (Ne.symm ne_s2_b5) (nin0)))
        replace E_b13 := E_b13.keep K14
        replace O := O.keep K14 (allS g_b13 (allS g_s2 all0))
        refine Goes.to (T' := T14) (mkF m 204 #[.val (.int p0), .val (.int p1), .val (.int p2), .val (.int p3), .val (.int p4), .val (.int p5), .val (.int la), .val (.int lb), .val (.int c0), .val (.int c1), .val (.int c2), .val (.int d0), .val (.int d1), .val (.int d2), .val (.ref s1), .val (.ref s2), .val (.int i2), .val (.ref b5), .val (.int (((p5.toUInt32 >>> ((1 : Int32) &&& 31).toUInt32).toInt32) &&& (3 : Int32))), .unset, .unset] [(.ref b13)]) (fun t k => st14.trans k) ?_
        refine Goes.to (T' := T14) (mkF m 206 #[.val (.int p0), .val (.int p1), .val (.int p2), .val (.int p3), .val (.int p4), .val (.int p5), .val (.int la), .val (.int lb), .val (.int c0), .val (.int c1), .val (.int c2), .val (.int d0), .val (.int d1), .val (.int d2), .val (.ref s1), .val (.ref s2), .val (.int i2), .val (.ref b5), .val (.int (((p5.toUInt32 >>> ((1 : Int32) &&& 31).toUInt32).toInt32) &&& (3 : Int32))), .val (.ref b13), .unset] []) (fun t k => XS.astore X14.here hx rfl (hb hby at_204) rfl rfl (l' := #[.val (.int p0), .val (.int p1), .val (.int p2), .val (.int p3), .val (.int p4), .val (.int p5), .val (.int la), .val (.int lb), .val (.int c0), .val (.int c1), .val (.int c2), .val (.int d0), .val (.int d1), .val (.int d2), .val (.ref s1), .val (.ref s2), .val (.int i2), .val (.ref b5), .val (.int (((p5.toUInt32 >>> ((1 : Int32) &&& 31).toUInt32).toInt32) &&& (3 : Int32))), .val (.ref b13), .unset]) rfl k) ?_
        refine Goes.to (T' := T14) (mkF m 208 #[.val (.int p0), .val (.int p1), .val (.int p2), .val (.int p3), .val (.int p4), .val (.int p5), .val (.int la), .val (.int lb), .val (.int c0), .val (.int c1), .val (.int c2), .val (.int d0), .val (.int d1), .val (.int d2), .val (.ref s1), .val (.ref s2), .val (.int i2), .val (.ref b5), .val (.int (((p5.toUInt32 >>> ((1 : Int32) &&& 31).toUInt32).toInt32) &&& (3 : Int32))), .val (.ref b13), .unset] [(.int la)]) (fun t k => XS.iload X14.here hx rfl (hb hby at_206) rfl k) ?_
        refine Goes.to (T' := T14) (mkF m 210 #[.val (.int p0), .val (.int p1), .val (.int p2), .val (.int p3), .val (.int p4), .val (.int p5), .val (.int la), .val (.int lb), .val (.int c0), .val (.int c1), .val (.int c2), .val (.int d0), .val (.int d1), .val (.int d2), .val (.ref s1), .val (.ref s2), .val (.int i2), .val (.ref b5), .val (.int (((p5.toUInt32 >>> ((1 : Int32) &&& 31).toUInt32).toInt32) &&& (3 : Int32))), .val (.ref b13), .unset] [(.int lb), (.int la)]) (fun t k => XS.iload X14.here hx rfl (hb hby at_208) rfl k) ?_
        have D210_15 : ∀ t, Steps p.tables e below (T14.setTop (mkF m 263 #[.val (.int p0), .val (.int p1), .val (.int p2), .val (.int p3), .val (.int p4), .val (.int p5), .val (.int la), .val (.int lb), .val (.int c0), .val (.int c1), .val (.int c2), .val (.int d0), .val (.int d1), .val (.int d2), .val (.ref s1), .val (.ref s2), .val (.int i2), .val (.ref b5), .val (.int (((p5.toUInt32 >>> ((1 : Int32) &&& 31).toUInt32).toInt32) &&& (3 : Int32))), .val (.ref b13), .unset] [(.int (if la = lb then (if la < (1 : Int32) then (if la < (2 : Int32) then (if la < (3 : Int32) then (if p3 = i2 then (1 : Int32) else (0 : Int32)) else (if c2 = d2 then (if p3 = i2 then (1 : Int32) else (0 : Int32)) else (0 : Int32))) else (if c1 = d1 then (if la < (3 : Int32) then (if p3 = i2 then (1 : Int32) else (0 : Int32)) else (if c2 = d2 then (if p3 = i2 then (1 : Int32) else (0 : Int32)) else (0 : Int32))) else (0 : Int32))) else (if c0 = d0 then (if la < (2 : Int32) then (if la < (3 : Int32) then (if p3 = i2 then (1 : Int32) else (0 : Int32)) else (if c2 = d2 then (if p3 = i2 then (1 : Int32) else (0 : Int32)) else (0 : Int32))) else (if c1 = d1 then (if la < (3 : Int32) then (if p3 = i2 then (1 : Int32) else (0 : Int32)) else (if c2 = d2 then (if p3 = i2 then (1 : Int32) else (0 : Int32)) else (0 : Int32))) else (0 : Int32))) else (0 : Int32))) else (0 : Int32)))])) t → Steps p.tables e below (T14.setTop (mkF m 210 #[.val (.int p0), .val (.int p1), .val (.int p2), .val (.int p3), .val (.int p4), .val (.int p5), .val (.int la), .val (.int lb), .val (.int c0), .val (.int c1), .val (.int c2), .val (.int d0), .val (.int d1), .val (.int d2), .val (.ref s1), .val (.ref s2), .val (.int i2), .val (.ref b5), .val (.int (((p5.toUInt32 >>> ((1 : Int32) &&& 31).toUInt32).toInt32) &&& (3 : Int32))), .val (.ref b13), .unset] [(.int lb), (.int la)])) t := by
          intro t k
          by_cases hq : la = lb
          · simp only [if_pos hq] at k
            refine XS.icmpNo X14.here hx rfl (hb hby at_210) rfl (teq hq).2 ?_
            show Steps p.tables e below (T14.setTop (mkF m 213 #[.val (.int p0), .val (.int p1), .val (.int p2), .val (.int p3), .val (.int p4), .val (.int p5), .val (.int la), .val (.int lb), .val (.int c0), .val (.int c1), .val (.int c2), .val (.int d0), .val (.int d1), .val (.int d2), .val (.ref s1), .val (.ref s2), .val (.int i2), .val (.ref b5), .val (.int (((p5.toUInt32 >>> ((1 : Int32) &&& 31).toUInt32).toInt32) &&& (3 : Int32))), .val (.ref b13), .unset] [])) _
            refine XS.iload X14.here hx rfl (hb hby at_213) rfl ?_
            show Steps p.tables e below (T14.setTop (mkF m 215 #[.val (.int p0), .val (.int p1), .val (.int p2), .val (.int p3), .val (.int p4), .val (.int p5), .val (.int la), .val (.int lb), .val (.int c0), .val (.int c1), .val (.int c2), .val (.int d0), .val (.int d1), .val (.int d2), .val (.ref s1), .val (.ref s2), .val (.int i2), .val (.ref b5), .val (.int (((p5.toUInt32 >>> ((1 : Int32) &&& 31).toUInt32).toInt32) &&& (3 : Int32))), .val (.ref b13), .unset] [(.int la)])) _
            refine XS.iconst X14.here hx rfl (hb hby at_215) ?_
            show Steps p.tables e below (T14.setTop (mkF m 216 #[.val (.int p0), .val (.int p1), .val (.int p2), .val (.int p3), .val (.int p4), .val (.int p5), .val (.int la), .val (.int lb), .val (.int c0), .val (.int c1), .val (.int c2), .val (.int d0), .val (.int d1), .val (.int d2), .val (.ref s1), .val (.ref s2), .val (.int i2), .val (.ref b5), .val (.int (((p5.toUInt32 >>> ((1 : Int32) &&& 31).toUInt32).toInt32) &&& (3 : Int32))), .val (.ref b13), .unset] [(.int (1 : Int32)), (.int la)])) _
            by_cases hq : la < (1 : Int32)
            · simp only [if_pos hq] at k
              refine XS.icmpYes X14.here hx rfl (pc0 := 216) (pc' := 226) rfl (hb hby at_216) rfl (tlt hq).1 (by decide) (by decide) ?_
              show Steps p.tables e below (T14.setTop (mkF m 226 #[.val (.int p0), .val (.int p1), .val (.int p2), .val (.int p3), .val (.int p4), .val (.int p5), .val (.int la), .val (.int lb), .val (.int c0), .val (.int c1), .val (.int c2), .val (.int d0), .val (.int d1), .val (.int d2), .val (.ref s1), .val (.ref s2), .val (.int i2), .val (.ref b5), .val (.int (((p5.toUInt32 >>> ((1 : Int32) &&& 31).toUInt32).toInt32) &&& (3 : Int32))), .val (.ref b13), .unset] [])) _
              refine XS.iload X14.here hx rfl (hb hby at_226) rfl ?_
              show Steps p.tables e below (T14.setTop (mkF m 228 #[.val (.int p0), .val (.int p1), .val (.int p2), .val (.int p3), .val (.int p4), .val (.int p5), .val (.int la), .val (.int lb), .val (.int c0), .val (.int c1), .val (.int c2), .val (.int d0), .val (.int d1), .val (.int d2), .val (.ref s1), .val (.ref s2), .val (.int i2), .val (.ref b5), .val (.int (((p5.toUInt32 >>> ((1 : Int32) &&& 31).toUInt32).toInt32) &&& (3 : Int32))), .val (.ref b13), .unset] [(.int la)])) _
              refine XS.iconst X14.here hx rfl (hb hby at_228) ?_
              show Steps p.tables e below (T14.setTop (mkF m 229 #[.val (.int p0), .val (.int p1), .val (.int p2), .val (.int p3), .val (.int p4), .val (.int p5), .val (.int la), .val (.int lb), .val (.int c0), .val (.int c1), .val (.int c2), .val (.int d0), .val (.int d1), .val (.int d2), .val (.ref s1), .val (.ref s2), .val (.int i2), .val (.ref b5), .val (.int (((p5.toUInt32 >>> ((1 : Int32) &&& 31).toUInt32).toInt32) &&& (3 : Int32))), .val (.ref b13), .unset] [(.int (2 : Int32)), (.int la)])) _
              by_cases hq : la < (2 : Int32)
              · simp only [if_pos hq] at k
                refine XS.icmpYes X14.here hx rfl (pc0 := 229) (pc' := 239) rfl (hb hby at_229) rfl (tlt hq).1 (by decide) (by decide) ?_
                show Steps p.tables e below (T14.setTop (mkF m 239 #[.val (.int p0), .val (.int p1), .val (.int p2), .val (.int p3), .val (.int p4), .val (.int p5), .val (.int la), .val (.int lb), .val (.int c0), .val (.int c1), .val (.int c2), .val (.int d0), .val (.int d1), .val (.int d2), .val (.ref s1), .val (.ref s2), .val (.int i2), .val (.ref b5), .val (.int (((p5.toUInt32 >>> ((1 : Int32) &&& 31).toUInt32).toInt32) &&& (3 : Int32))), .val (.ref b13), .unset] [])) _
                refine XS.iload X14.here hx rfl (hb hby at_239) rfl ?_
                show Steps p.tables e below (T14.setTop (mkF m 241 #[.val (.int p0), .val (.int p1), .val (.int p2), .val (.int p3), .val (.int p4), .val (.int p5), .val (.int la), .val (.int lb), .val (.int c0), .val (.int c1), .val (.int c2), .val (.int d0), .val (.int d1), .val (.int d2), .val (.ref s1), .val (.ref s2), .val (.int i2), .val (.ref b5), .val (.int (((p5.toUInt32 >>> ((1 : Int32) &&& 31).toUInt32).toInt32) &&& (3 : Int32))), .val (.ref b13), .unset] [(.int la)])) _
                refine XS.iconst X14.here hx rfl (hb hby at_241) ?_
                show Steps p.tables e below (T14.setTop (mkF m 242 #[.val (.int p0), .val (.int p1), .val (.int p2), .val (.int p3), .val (.int p4), .val (.int p5), .val (.int la), .val (.int lb), .val (.int c0), .val (.int c1), .val (.int c2), .val (.int d0), .val (.int d1), .val (.int d2), .val (.ref s1), .val (.ref s2), .val (.int i2), .val (.ref b5), .val (.int (((p5.toUInt32 >>> ((1 : Int32) &&& 31).toUInt32).toInt32) &&& (3 : Int32))), .val (.ref b13), .unset] [(.int (3 : Int32)), (.int la)])) _
                by_cases hq : la < (3 : Int32)
                · simp only [if_pos hq] at k
                  refine XS.icmpYes X14.here hx rfl (pc0 := 242) (pc' := 252) rfl (hb hby at_242) rfl (tlt hq).1 (by decide) (by decide) ?_
                  show Steps p.tables e below (T14.setTop (mkF m 252 #[.val (.int p0), .val (.int p1), .val (.int p2), .val (.int p3), .val (.int p4), .val (.int p5), .val (.int la), .val (.int lb), .val (.int c0), .val (.int c1), .val (.int c2), .val (.int d0), .val (.int d1), .val (.int d2), .val (.ref s1), .val (.ref s2), .val (.int i2), .val (.ref b5), .val (.int (((p5.toUInt32 >>> ((1 : Int32) &&& 31).toUInt32).toInt32) &&& (3 : Int32))), .val (.ref b13), .unset] [])) _
                  refine XS.iloadN X14.here hx rfl (hb hby at_252) rfl ?_
                  show Steps p.tables e below (T14.setTop (mkF m 253 #[.val (.int p0), .val (.int p1), .val (.int p2), .val (.int p3), .val (.int p4), .val (.int p5), .val (.int la), .val (.int lb), .val (.int c0), .val (.int c1), .val (.int c2), .val (.int d0), .val (.int d1), .val (.int d2), .val (.ref s1), .val (.ref s2), .val (.int i2), .val (.ref b5), .val (.int (((p5.toUInt32 >>> ((1 : Int32) &&& 31).toUInt32).toInt32) &&& (3 : Int32))), .val (.ref b13), .unset] [(.int p3)])) _
                  refine XS.iload X14.here hx rfl (hb hby at_253) rfl ?_
                  show Steps p.tables e below (T14.setTop (mkF m 255 #[.val (.int p0), .val (.int p1), .val (.int p2), .val (.int p3), .val (.int p4), .val (.int p5), .val (.int la), .val (.int lb), .val (.int c0), .val (.int c1), .val (.int c2), .val (.int d0), .val (.int d1), .val (.int d2), .val (.ref s1), .val (.ref s2), .val (.int i2), .val (.ref b5), .val (.int (((p5.toUInt32 >>> ((1 : Int32) &&& 31).toUInt32).toInt32) &&& (3 : Int32))), .val (.ref b13), .unset] [(.int i2), (.int p3)])) _
                  by_cases hq : p3 = i2
                  · simp only [if_pos hq] at k
                    refine XS.icmpNo X14.here hx rfl (hb hby at_255) rfl (teq hq).2 ?_
                    show Steps p.tables e below (T14.setTop (mkF m 258 #[.val (.int p0), .val (.int p1), .val (.int p2), .val (.int p3), .val (.int p4), .val (.int p5), .val (.int la), .val (.int lb), .val (.int c0), .val (.int c1), .val (.int c2), .val (.int d0), .val (.int d1), .val (.int d2), .val (.ref s1), .val (.ref s2), .val (.int i2), .val (.ref b5), .val (.int (((p5.toUInt32 >>> ((1 : Int32) &&& 31).toUInt32).toInt32) &&& (3 : Int32))), .val (.ref b13), .unset] [])) _
                    refine XS.iconst X14.here hx rfl (hb hby at_258) ?_
                    show Steps p.tables e below (T14.setTop (mkF m 259 #[.val (.int p0), .val (.int p1), .val (.int p2), .val (.int p3), .val (.int p4), .val (.int p5), .val (.int la), .val (.int lb), .val (.int c0), .val (.int c1), .val (.int c2), .val (.int d0), .val (.int d1), .val (.int d2), .val (.ref s1), .val (.ref s2), .val (.int i2), .val (.ref b5), .val (.int (((p5.toUInt32 >>> ((1 : Int32) &&& 31).toUInt32).toInt32) &&& (3 : Int32))), .val (.ref b13), .unset] [(.int (1 : Int32))])) _
                    refine XS.goto X14.here hx rfl (pc0 := 259) (pc' := 263) rfl (hb hby at_259) (by decide) (by decide) ?_
                    show Steps p.tables e below (T14.setTop (mkF m 263 #[.val (.int p0), .val (.int p1), .val (.int p2), .val (.int p3), .val (.int p4), .val (.int p5), .val (.int la), .val (.int lb), .val (.int c0), .val (.int c1), .val (.int c2), .val (.int d0), .val (.int d1), .val (.int d2), .val (.ref s1), .val (.ref s2), .val (.int i2), .val (.ref b5), .val (.int (((p5.toUInt32 >>> ((1 : Int32) &&& 31).toUInt32).toInt32) &&& (3 : Int32))), .val (.ref b13), .unset] [(.int (1 : Int32))])) _
                    exact k
                  · simp only [if_neg hq] at k
                    refine XS.icmpYes X14.here hx rfl (pc0 := 255) (pc' := 262) rfl (hb hby at_255) rfl (feq hq).2 (by decide) (by decide) ?_
                    show Steps p.tables e below (T14.setTop (mkF m 262 #[.val (.int p0), .val (.int p1), .val (.int p2), .val (.int p3), .val (.int p4), .val (.int p5), .val (.int la), .val (.int lb), .val (.int c0), .val (.int c1), .val (.int c2), .val (.int d0), .val (.int d1), .val (.int d2), .val (.ref s1), .val (.ref s2), .val (.int i2), .val (.ref b5), .val (.int (((p5.toUInt32 >>> ((1 : Int32) &&& 31).toUInt32).toInt32) &&& (3 : Int32))), .val (.ref b13), .unset] [])) _
                    refine XS.iconst X14.here hx rfl (hb hby at_262) ?_
                    show Steps p.tables e below (T14.setTop (mkF m 263 #[.val (.int p0), .val (.int p1), .val (.int p2), .val (.int p3), .val (.int p4), .val (.int p5), .val (.int la), .val (.int lb), .val (.int c0), .val (.int c1), .val (.int c2), .val (.int d0), .val (.int d1), .val (.int d2), .val (.ref s1), .val (.ref s2), .val (.int i2), .val (.ref b5), .val (.int (((p5.toUInt32 >>> ((1 : Int32) &&& 31).toUInt32).toInt32) &&& (3 : Int32))), .val (.ref b13), .unset] [(.int (0 : Int32))])) _
                    exact k
                · simp only [if_neg hq] at k
                  refine XS.icmpNo X14.here hx rfl (hb hby at_242) rfl (flt hq).1 ?_
                  show Steps p.tables e below (T14.setTop (mkF m 245 #[.val (.int p0), .val (.int p1), .val (.int p2), .val (.int p3), .val (.int p4), .val (.int p5), .val (.int la), .val (.int lb), .val (.int c0), .val (.int c1), .val (.int c2), .val (.int d0), .val (.int d1), .val (.int d2), .val (.ref s1), .val (.ref s2), .val (.int i2), .val (.ref b5), .val (.int (((p5.toUInt32 >>> ((1 : Int32) &&& 31).toUInt32).toInt32) &&& (3 : Int32))), .val (.ref b13), .unset] [])) _
                  refine XS.iload X14.here hx rfl (hb hby at_245) rfl ?_
                  show Steps p.tables e below (T14.setTop (mkF m 247 #[.val (.int p0), .val (.int p1), .val (.int p2), .val (.int p3), .val (.int p4), .val (.int p5), .val (.int la), .val (.int lb), .val (.int c0), .val (.int c1), .val (.int c2), .val (.int d0), .val (.int d1), .val (.int d2), .val (.ref s1), .val (.ref s2), .val (.int i2), .val (.ref b5), .val (.int (((p5.toUInt32 >>> ((1 : Int32) &&& 31).toUInt32).toInt32) &&& (3 : Int32))), .val (.ref b13), .unset] [(.int c2)])) _
                  refine XS.iload X14.here hx rfl (hb hby at_247) rfl ?_
                  show Steps p.tables e below (T14.setTop (mkF m 249 #[.val (.int p0), .val (.int p1), .val (.int p2), .val (.int p3), .val (.int p4), .val (.int p5), .val (.int la), .val (.int lb), .val (.int c0), .val (.int c1), .val (.int c2), .val (.int d0), .val (.int d1), .val (.int d2), .val (.ref s1), .val (.ref s2), .val (.int i2), .val (.ref b5), .val (.int (((p5.toUInt32 >>> ((1 : Int32) &&& 31).toUInt32).toInt32) &&& (3 : Int32))), .val (.ref b13), .unset] [(.int d2), (.int c2)])) _
                  by_cases hq : c2 = d2
                  · simp only [if_pos hq] at k
                    refine XS.icmpNo X14.here hx rfl (hb hby at_249) rfl (teq hq).2 ?_
                    show Steps p.tables e below (T14.setTop (mkF m 252 #[.val (.int p0), .val (.int p1), .val (.int p2), .val (.int p3), .val (.int p4), .val (.int p5), .val (.int la), .val (.int lb), .val (.int c0), .val (.int c1), .val (.int c2), .val (.int d0), .val (.int d1), .val (.int d2), .val (.ref s1), .val (.ref s2), .val (.int i2), .val (.ref b5), .val (.int (((p5.toUInt32 >>> ((1 : Int32) &&& 31).toUInt32).toInt32) &&& (3 : Int32))), .val (.ref b13), .unset] [])) _
                    refine XS.iloadN X14.here hx rfl (hb hby at_252) rfl ?_
                    show Steps p.tables e below (T14.setTop (mkF m 253 #[.val (.int p0), .val (.int p1), .val (.int p2), .val (.int p3), .val (.int p4), .val (.int p5), .val (.int la), .val (.int lb), .val (.int c0), .val (.int c1), .val (.int c2), .val (.int d0), .val (.int d1), .val (.int d2), .val (.ref s1), .val (.ref s2), .val (.int i2), .val (.ref b5), .val (.int (((p5.toUInt32 >>> ((1 : Int32) &&& 31).toUInt32).toInt32) &&& (3 : Int32))), .val (.ref b13), .unset] [(.int p3)])) _
                    refine XS.iload X14.here hx rfl (hb hby at_253) rfl ?_
                    show Steps p.tables e below (T14.setTop (mkF m 255 #[.val (.int p0), .val (.int p1), .val (.int p2), .val (.int p3), .val (.int p4), .val (.int p5), .val (.int la), .val (.int lb), .val (.int c0), .val (.int c1), .val (.int c2), .val (.int d0), .val (.int d1), .val (.int d2), .val (.ref s1), .val (.ref s2), .val (.int i2), .val (.ref b5), .val (.int (((p5.toUInt32 >>> ((1 : Int32) &&& 31).toUInt32).toInt32) &&& (3 : Int32))), .val (.ref b13), .unset] [(.int i2), (.int p3)])) _
                    by_cases hq : p3 = i2
                    · simp only [if_pos hq] at k
                      refine XS.icmpNo X14.here hx rfl (hb hby at_255) rfl (teq hq).2 ?_
                      show Steps p.tables e below (T14.setTop (mkF m 258 #[.val (.int p0), .val (.int p1), .val (.int p2), .val (.int p3), .val (.int p4), .val (.int p5), .val (.int la), .val (.int lb), .val (.int c0), .val (.int c1), .val (.int c2), .val (.int d0), .val (.int d1), .val (.int d2), .val (.ref s1), .val (.ref s2), .val (.int i2), .val (.ref b5), .val (.int (((p5.toUInt32 >>> ((1 : Int32) &&& 31).toUInt32).toInt32) &&& (3 : Int32))), .val (.ref b13), .unset] [])) _
                      refine XS.iconst X14.here hx rfl (hb hby at_258) ?_
                      show Steps p.tables e below (T14.setTop (mkF m 259 #[.val (.int p0), .val (.int p1), .val (.int p2), .val (.int p3), .val (.int p4), .val (.int p5), .val (.int la), .val (.int lb), .val (.int c0), .val (.int c1), .val (.int c2), .val (.int d0), .val (.int d1), .val (.int d2), .val (.ref s1), .val (.ref s2), .val (.int i2), .val (.ref b5), .val (.int (((p5.toUInt32 >>> ((1 : Int32) &&& 31).toUInt32).toInt32) &&& (3 : Int32))), .val (.ref b13), .unset] [(.int (1 : Int32))])) _
                      refine XS.goto X14.here hx rfl (pc0 := 259) (pc' := 263) rfl (hb hby at_259) (by decide) (by decide) ?_
                      show Steps p.tables e below (T14.setTop (mkF m 263 #[.val (.int p0), .val (.int p1), .val (.int p2), .val (.int p3), .val (.int p4), .val (.int p5), .val (.int la), .val (.int lb), .val (.int c0), .val (.int c1), .val (.int c2), .val (.int d0), .val (.int d1), .val (.int d2), .val (.ref s1), .val (.ref s2), .val (.int i2), .val (.ref b5), .val (.int (((p5.toUInt32 >>> ((1 : Int32) &&& 31).toUInt32).toInt32) &&& (3 : Int32))), .val (.ref b13), .unset] [(.int (1 : Int32))])) _
                      exact k
                    · simp only [if_neg hq] at k
                      refine XS.icmpYes X14.here hx rfl (pc0 := 255) (pc' := 262) rfl (hb hby at_255) rfl (feq hq).2 (by decide) (by decide) ?_
                      show Steps p.tables e below (T14.setTop (mkF m 262 #[.val (.int p0), .val (.int p1), .val (.int p2), .val (.int p3), .val (.int p4), .val (.int p5), .val (.int la), .val (.int lb), .val (.int c0), .val (.int c1), .val (.int c2), .val (.int d0), .val (.int d1), .val (.int d2), .val (.ref s1), .val (.ref s2), .val (.int i2), .val (.ref b5), .val (.int (((p5.toUInt32 >>> ((1 : Int32) &&& 31).toUInt32).toInt32) &&& (3 : Int32))), .val (.ref b13), .unset] [])) _
                      refine XS.iconst X14.here hx rfl (hb hby at_262) ?_
                      show Steps p.tables e below (T14.setTop (mkF m 263 #[.val (.int p0), .val (.int p1), .val (.int p2), .val (.int p3), .val (.int p4), .val (.int p5), .val (.int la), .val (.int lb), .val (.int c0), .val (.int c1), .val (.int c2), .val (.int d0), .val (.int d1), .val (.int d2), .val (.ref s1), .val (.ref s2), .val (.int i2), .val (.ref b5), .val (.int (((p5.toUInt32 >>> ((1 : Int32) &&& 31).toUInt32).toInt32) &&& (3 : Int32))), .val (.ref b13), .unset] [(.int (0 : Int32))])) _
                      exact k
                  · simp only [if_neg hq] at k
                    refine XS.icmpYes X14.here hx rfl (pc0 := 249) (pc' := 262) rfl (hb hby at_249) rfl (feq hq).2 (by decide) (by decide) ?_
                    show Steps p.tables e below (T14.setTop (mkF m 262 #[.val (.int p0), .val (.int p1), .val (.int p2), .val (.int p3), .val (.int p4), .val (.int p5), .val (.int la), .val (.int lb), .val (.int c0), .val (.int c1), .val (.int c2), .val (.int d0), .val (.int d1), .val (.int d2), .val (.ref s1), .val (.ref s2), .val (.int i2), .val (.ref b5), .val (.int (((p5.toUInt32 >>> ((1 : Int32) &&& 31).toUInt32).toInt32) &&& (3 : Int32))), .val (.ref b13), .unset] [])) _
                    refine XS.iconst X14.here hx rfl (hb hby at_262) ?_
                    show Steps p.tables e below (T14.setTop (mkF m 263 #[.val (.int p0), .val (.int p1), .val (.int p2), .val (.int p3), .val (.int p4), .val (.int p5), .val (.int la), .val (.int lb), .val (.int c0), .val (.int c1), .val (.int c2), .val (.int d0), .val (.int d1), .val (.int d2), .val (.ref s1), .val (.ref s2), .val (.int i2), .val (.ref b5), .val (.int (((p5.toUInt32 >>> ((1 : Int32) &&& 31).toUInt32).toInt32) &&& (3 : Int32))), .val (.ref b13), .unset] [(.int (0 : Int32))])) _
                    exact k
              · simp only [if_neg hq] at k
                refine XS.icmpNo X14.here hx rfl (hb hby at_229) rfl (flt hq).1 ?_
                show Steps p.tables e below (T14.setTop (mkF m 232 #[.val (.int p0), .val (.int p1), .val (.int p2), .val (.int p3), .val (.int p4), .val (.int p5), .val (.int la), .val (.int lb), .val (.int c0), .val (.int c1), .val (.int c2), .val (.int d0), .val (.int d1), .val (.int d2), .val (.ref s1), .val (.ref s2), .val (.int i2), .val (.ref b5), .val (.int (((p5.toUInt32 >>> ((1 : Int32) &&& 31).toUInt32).toInt32) &&& (3 : Int32))), .val (.ref b13), .unset] [])) _
                refine XS.iload X14.here hx rfl (hb hby at_232) rfl ?_
                show Steps p.tables e below (T14.setTop (mkF m 234 #[.val (.int p0), .val (.int p1), .val (.int p2), .val (.int p3), .val (.int p4), .val (.int p5), .val (.int la), .val (.int lb), .val (.int c0), .val (.int c1), .val (.int c2), .val (.int d0), .val (.int d1), .val (.int d2), .val (.ref s1), .val (.ref s2), .val (.int i2), .val (.ref b5), .val (.int (((p5.toUInt32 >>> ((1 : Int32) &&& 31).toUInt32).toInt32) &&& (3 : Int32))), .val (.ref b13), .unset] [(.int c1)])) _
                refine XS.iload X14.here hx rfl (hb hby at_234) rfl ?_
                show Steps p.tables e below (T14.setTop (mkF m 236 #[.val (.int p0), .val (.int p1), .val (.int p2), .val (.int p3), .val (.int p4), .val (.int p5), .val (.int la), .val (.int lb), .val (.int c0), .val (.int c1), .val (.int c2), .val (.int d0), .val (.int d1), .val (.int d2), .val (.ref s1), .val (.ref s2), .val (.int i2), .val (.ref b5), .val (.int (((p5.toUInt32 >>> ((1 : Int32) &&& 31).toUInt32).toInt32) &&& (3 : Int32))), .val (.ref b13), .unset] [(.int d1), (.int c1)])) _
                by_cases hq : c1 = d1
                · simp only [if_pos hq] at k
                  refine XS.icmpNo X14.here hx rfl (hb hby at_236) rfl (teq hq).2 ?_
                  show Steps p.tables e below (T14.setTop (mkF m 239 #[.val (.int p0), .val (.int p1), .val (.int p2), .val (.int p3), .val (.int p4), .val (.int p5), .val (.int la), .val (.int lb), .val (.int c0), .val (.int c1), .val (.int c2), .val (.int d0), .val (.int d1), .val (.int d2), .val (.ref s1), .val (.ref s2), .val (.int i2), .val (.ref b5), .val (.int (((p5.toUInt32 >>> ((1 : Int32) &&& 31).toUInt32).toInt32) &&& (3 : Int32))), .val (.ref b13), .unset] [])) _
                  refine XS.iload X14.here hx rfl (hb hby at_239) rfl ?_
                  show Steps p.tables e below (T14.setTop (mkF m 241 #[.val (.int p0), .val (.int p1), .val (.int p2), .val (.int p3), .val (.int p4), .val (.int p5), .val (.int la), .val (.int lb), .val (.int c0), .val (.int c1), .val (.int c2), .val (.int d0), .val (.int d1), .val (.int d2), .val (.ref s1), .val (.ref s2), .val (.int i2), .val (.ref b5), .val (.int (((p5.toUInt32 >>> ((1 : Int32) &&& 31).toUInt32).toInt32) &&& (3 : Int32))), .val (.ref b13), .unset] [(.int la)])) _
                  refine XS.iconst X14.here hx rfl (hb hby at_241) ?_
                  show Steps p.tables e below (T14.setTop (mkF m 242 #[.val (.int p0), .val (.int p1), .val (.int p2), .val (.int p3), .val (.int p4), .val (.int p5), .val (.int la), .val (.int lb), .val (.int c0), .val (.int c1), .val (.int c2), .val (.int d0), .val (.int d1), .val (.int d2), .val (.ref s1), .val (.ref s2), .val (.int i2), .val (.ref b5), .val (.int (((p5.toUInt32 >>> ((1 : Int32) &&& 31).toUInt32).toInt32) &&& (3 : Int32))), .val (.ref b13), .unset] [(.int (3 : Int32)), (.int la)])) _
                  by_cases hq : la < (3 : Int32)
                  · simp only [if_pos hq] at k
                    refine XS.icmpYes X14.here hx rfl (pc0 := 242) (pc' := 252) rfl (hb hby at_242) rfl (tlt hq).1 (by decide) (by decide) ?_
                    show Steps p.tables e below (T14.setTop (mkF m 252 #[.val (.int p0), .val (.int p1), .val (.int p2), .val (.int p3), .val (.int p4), .val (.int p5), .val (.int la), .val (.int lb), .val (.int c0), .val (.int c1), .val (.int c2), .val (.int d0), .val (.int d1), .val (.int d2), .val (.ref s1), .val (.ref s2), .val (.int i2), .val (.ref b5), .val (.int (((p5.toUInt32 >>> ((1 : Int32) &&& 31).toUInt32).toInt32) &&& (3 : Int32))), .val (.ref b13), .unset] [])) _
                    refine XS.iloadN X14.here hx rfl (hb hby at_252) rfl ?_
                    show Steps p.tables e below (T14.setTop (mkF m 253 #[.val (.int p0), .val (.int p1), .val (.int p2), .val (.int p3), .val (.int p4), .val (.int p5), .val (.int la), .val (.int lb), .val (.int c0), .val (.int c1), .val (.int c2), .val (.int d0), .val (.int d1), .val (.int d2), .val (.ref s1), .val (.ref s2), .val (.int i2), .val (.ref b5), .val (.int (((p5.toUInt32 >>> ((1 : Int32) &&& 31).toUInt32).toInt32) &&& (3 : Int32))), .val (.ref b13), .unset] [(.int p3)])) _
                    refine XS.iload X14.here hx rfl (hb hby at_253) rfl ?_
                    show Steps p.tables e below (T14.setTop (mkF m 255 #[.val (.int p0), .val (.int p1), .val (.int p2), .val (.int p3), .val (.int p4), .val (.int p5), .val (.int la), .val (.int lb), .val (.int c0), .val (.int c1), .val (.int c2), .val (.int d0), .val (.int d1), .val (.int d2), .val (.ref s1), .val (.ref s2), .val (.int i2), .val (.ref b5), .val (.int (((p5.toUInt32 >>> ((1 : Int32) &&& 31).toUInt32).toInt32) &&& (3 : Int32))), .val (.ref b13), .unset] [(.int i2), (.int p3)])) _
                    by_cases hq : p3 = i2
                    · simp only [if_pos hq] at k
                      refine XS.icmpNo X14.here hx rfl (hb hby at_255) rfl (teq hq).2 ?_
                      show Steps p.tables e below (T14.setTop (mkF m 258 #[.val (.int p0), .val (.int p1), .val (.int p2), .val (.int p3), .val (.int p4), .val (.int p5), .val (.int la), .val (.int lb), .val (.int c0), .val (.int c1), .val (.int c2), .val (.int d0), .val (.int d1), .val (.int d2), .val (.ref s1), .val (.ref s2), .val (.int i2), .val (.ref b5), .val (.int (((p5.toUInt32 >>> ((1 : Int32) &&& 31).toUInt32).toInt32) &&& (3 : Int32))), .val (.ref b13), .unset] [])) _
                      refine XS.iconst X14.here hx rfl (hb hby at_258) ?_
                      show Steps p.tables e below (T14.setTop (mkF m 259 #[.val (.int p0), .val (.int p1), .val (.int p2), .val (.int p3), .val (.int p4), .val (.int p5), .val (.int la), .val (.int lb), .val (.int c0), .val (.int c1), .val (.int c2), .val (.int d0), .val (.int d1), .val (.int d2), .val (.ref s1), .val (.ref s2), .val (.int i2), .val (.ref b5), .val (.int (((p5.toUInt32 >>> ((1 : Int32) &&& 31).toUInt32).toInt32) &&& (3 : Int32))), .val (.ref b13), .unset] [(.int (1 : Int32))])) _
                      refine XS.goto X14.here hx rfl (pc0 := 259) (pc' := 263) rfl (hb hby at_259) (by decide) (by decide) ?_
                      show Steps p.tables e below (T14.setTop (mkF m 263 #[.val (.int p0), .val (.int p1), .val (.int p2), .val (.int p3), .val (.int p4), .val (.int p5), .val (.int la), .val (.int lb), .val (.int c0), .val (.int c1), .val (.int c2), .val (.int d0), .val (.int d1), .val (.int d2), .val (.ref s1), .val (.ref s2), .val (.int i2), .val (.ref b5), .val (.int (((p5.toUInt32 >>> ((1 : Int32) &&& 31).toUInt32).toInt32) &&& (3 : Int32))), .val (.ref b13), .unset] [(.int (1 : Int32))])) _
                      exact k
                    · simp only [if_neg hq] at k
                      refine XS.icmpYes X14.here hx rfl (pc0 := 255) (pc' := 262) rfl (hb hby at_255) rfl (feq hq).2 (by decide) (by decide) ?_
                      show Steps p.tables e below (T14.setTop (mkF m 262 #[.val (.int p0), .val (.int p1), .val (.int p2), .val (.int p3), .val (.int p4), .val (.int p5), .val (.int la), .val (.int lb), .val (.int c0), .val (.int c1), .val (.int c2), .val (.int d0), .val (.int d1), .val (.int d2), .val (.ref s1), .val (.ref s2), .val (.int i2), .val (.ref b5), .val (.int (((p5.toUInt32 >>> ((1 : Int32) &&& 31).toUInt32).toInt32) &&& (3 : Int32))), .val (.ref b13), .unset] [])) _
                      refine XS.iconst X14.here hx rfl (hb hby at_262) ?_
                      show Steps p.tables e below (T14.setTop (mkF m 263 #[.val (.int p0), .val (.int p1), .val (.int p2), .val (.int p3), .val (.int p4), .val (.int p5), .val (.int la), .val (.int lb), .val (.int c0), .val (.int c1), .val (.int c2), .val (.int d0), .val (.int d1), .val (.int d2), .val (.ref s1), .val (.ref s2), .val (.int i2), .val (.ref b5), .val (.int (((p5.toUInt32 >>> ((1 : Int32) &&& 31).toUInt32).toInt32) &&& (3 : Int32))), .val (.ref b13), .unset] [(.int (0 : Int32))])) _
                      exact k
                  · simp only [if_neg hq] at k
                    refine XS.icmpNo X14.here hx rfl (hb hby at_242) rfl (flt hq).1 ?_
                    show Steps p.tables e below (T14.setTop (mkF m 245 #[.val (.int p0), .val (.int p1), .val (.int p2), .val (.int p3), .val (.int p4), .val (.int p5), .val (.int la), .val (.int lb), .val (.int c0), .val (.int c1), .val (.int c2), .val (.int d0), .val (.int d1), .val (.int d2), .val (.ref s1), .val (.ref s2), .val (.int i2), .val (.ref b5), .val (.int (((p5.toUInt32 >>> ((1 : Int32) &&& 31).toUInt32).toInt32) &&& (3 : Int32))), .val (.ref b13), .unset] [])) _
                    refine XS.iload X14.here hx rfl (hb hby at_245) rfl ?_
                    show Steps p.tables e below (T14.setTop (mkF m 247 #[.val (.int p0), .val (.int p1), .val (.int p2), .val (.int p3), .val (.int p4), .val (.int p5), .val (.int la), .val (.int lb), .val (.int c0), .val (.int c1), .val (.int c2), .val (.int d0), .val (.int d1), .val (.int d2), .val (.ref s1), .val (.ref s2), .val (.int i2), .val (.ref b5), .val (.int (((p5.toUInt32 >>> ((1 : Int32) &&& 31).toUInt32).toInt32) &&& (3 : Int32))), .val (.ref b13), .unset] [(.int c2)])) _
                    refine XS.iload X14.here hx rfl (hb hby at_247) rfl ?_
                    show Steps p.tables e below (T14.setTop (mkF m 249 #[.val (.int p0), .val (.int p1), .val (.int p2), .val (.int p3), .val (.int p4), .val (.int p5), .val (.int la), .val (.int lb), .val (.int c0), .val (.int c1), .val (.int c2), .val (.int d0), .val (.int d1), .val (.int d2), .val (.ref s1), .val (.ref s2), .val (.int i2), .val (.ref b5), .val (.int (((p5.toUInt32 >>> ((1 : Int32) &&& 31).toUInt32).toInt32) &&& (3 : Int32))), .val (.ref b13), .unset] [(.int d2), (.int c2)])) _
                    by_cases hq : c2 = d2
                    · simp only [if_pos hq] at k
                      refine XS.icmpNo X14.here hx rfl (hb hby at_249) rfl (teq hq).2 ?_
                      show Steps p.tables e below (T14.setTop (mkF m 252 #[.val (.int p0), .val (.int p1), .val (.int p2), .val (.int p3), .val (.int p4), .val (.int p5), .val (.int la), .val (.int lb), .val (.int c0), .val (.int c1), .val (.int c2), .val (.int d0), .val (.int d1), .val (.int d2), .val (.ref s1), .val (.ref s2), .val (.int i2), .val (.ref b5), .val (.int (((p5.toUInt32 >>> ((1 : Int32) &&& 31).toUInt32).toInt32) &&& (3 : Int32))), .val (.ref b13), .unset] [])) _
                      refine XS.iloadN X14.here hx rfl (hb hby at_252) rfl ?_
                      show Steps p.tables e below (T14.setTop (mkF m 253 #[.val (.int p0), .val (.int p1), .val (.int p2), .val (.int p3), .val (.int p4), .val (.int p5), .val (.int la), .val (.int lb), .val (.int c0), .val (.int c1), .val (.int c2), .val (.int d0), .val (.int d1), .val (.int d2), .val (.ref s1), .val (.ref s2), .val (.int i2), .val (.ref b5), .val (.int (((p5.toUInt32 >>> ((1 : Int32) &&& 31).toUInt32).toInt32) &&& (3 : Int32))), .val (.ref b13), .unset] [(.int p3)])) _
                      refine XS.iload X14.here hx rfl (hb hby at_253) rfl ?_
                      show Steps p.tables e below (T14.setTop (mkF m 255 #[.val (.int p0), .val (.int p1), .val (.int p2), .val (.int p3), .val (.int p4), .val (.int p5), .val (.int la), .val (.int lb), .val (.int c0), .val (.int c1), .val (.int c2), .val (.int d0), .val (.int d1), .val (.int d2), .val (.ref s1), .val (.ref s2), .val (.int i2), .val (.ref b5), .val (.int (((p5.toUInt32 >>> ((1 : Int32) &&& 31).toUInt32).toInt32) &&& (3 : Int32))), .val (.ref b13), .unset] [(.int i2), (.int p3)])) _
                      by_cases hq : p3 = i2
                      · simp only [if_pos hq] at k
                        refine XS.icmpNo X14.here hx rfl (hb hby at_255) rfl (teq hq).2 ?_
                        show Steps p.tables e below (T14.setTop (mkF m 258 #[.val (.int p0), .val (.int p1), .val (.int p2), .val (.int p3), .val (.int p4), .val (.int p5), .val (.int la), .val (.int lb), .val (.int c0), .val (.int c1), .val (.int c2), .val (.int d0), .val (.int d1), .val (.int d2), .val (.ref s1), .val (.ref s2), .val (.int i2), .val (.ref b5), .val (.int (((p5.toUInt32 >>> ((1 : Int32) &&& 31).toUInt32).toInt32) &&& (3 : Int32))), .val (.ref b13), .unset] [])) _
                        refine XS.iconst X14.here hx rfl (hb hby at_258) ?_
                        show Steps p.tables e below (T14.setTop (mkF m 259 #[.val (.int p0), .val (.int p1), .val (.int p2), .val (.int p3), .val (.int p4), .val (.int p5), .val (.int la), .val (.int lb), .val (.int c0), .val (.int c1), .val (.int c2), .val (.int d0), .val (.int d1), .val (.int d2), .val (.ref s1), .val (.ref s2), .val (.int i2), .val (.ref b5), .val (.int (((p5.toUInt32 >>> ((1 : Int32) &&& 31).toUInt32).toInt32) &&& (3 : Int32))), .val (.ref b13), .unset] [(.int (1 : Int32))])) _
                        refine XS.goto X14.here hx rfl (pc0 := 259) (pc' := 263) rfl (hb hby at_259) (by decide) (by decide) ?_
                        show Steps p.tables e below (T14.setTop (mkF m 263 #[.val (.int p0), .val (.int p1), .val (.int p2), .val (.int p3), .val (.int p4), .val (.int p5), .val (.int la), .val (.int lb), .val (.int c0), .val (.int c1), .val (.int c2), .val (.int d0), .val (.int d1), .val (.int d2), .val (.ref s1), .val (.ref s2), .val (.int i2), .val (.ref b5), .val (.int (((p5.toUInt32 >>> ((1 : Int32) &&& 31).toUInt32).toInt32) &&& (3 : Int32))), .val (.ref b13), .unset] [(.int (1 : Int32))])) _
                        exact k
                      · simp only [if_neg hq] at k
                        refine XS.icmpYes X14.here hx rfl (pc0 := 255) (pc' := 262) rfl (hb hby at_255) rfl (feq hq).2 (by decide) (by decide) ?_
                        show Steps p.tables e below (T14.setTop (mkF m 262 #[.val (.int p0), .val (.int p1), .val (.int p2), .val (.int p3), .val (.int p4), .val (.int p5), .val (.int la), .val (.int lb), .val (.int c0), .val (.int c1), .val (.int c2), .val (.int d0), .val (.int d1), .val (.int d2), .val (.ref s1), .val (.ref s2), .val (.int i2), .val (.ref b5), .val (.int (((p5.toUInt32 >>> ((1 : Int32) &&& 31).toUInt32).toInt32) &&& (3 : Int32))), .val (.ref b13), .unset] [])) _
                        refine XS.iconst X14.here hx rfl (hb hby at_262) ?_
                        show Steps p.tables e below (T14.setTop (mkF m 263 #[.val (.int p0), .val (.int p1), .val (.int p2), .val (.int p3), .val (.int p4), .val (.int p5), .val (.int la), .val (.int lb), .val (.int c0), .val (.int c1), .val (.int c2), .val (.int d0), .val (.int d1), .val (.int d2), .val (.ref s1), .val (.ref s2), .val (.int i2), .val (.ref b5), .val (.int (((p5.toUInt32 >>> ((1 : Int32) &&& 31).toUInt32).toInt32) &&& (3 : Int32))), .val (.ref b13), .unset] [(.int (0 : Int32))])) _
                        exact k
                    · simp only [if_neg hq] at k
                      refine XS.icmpYes X14.here hx rfl (pc0 := 249) (pc' := 262) rfl (hb hby at_249) rfl (feq hq).2 (by decide) (by decide) ?_
                      show Steps p.tables e below (T14.setTop (mkF m 262 #[.val (.int p0), .val (.int p1), .val (.int p2), .val (.int p3), .val (.int p4), .val (.int p5), .val (.int la), .val (.int lb), .val (.int c0), .val (.int c1), .val (.int c2), .val (.int d0), .val (.int d1), .val (.int d2), .val (.ref s1), .val (.ref s2), .val (.int i2), .val (.ref b5), .val (.int (((p5.toUInt32 >>> ((1 : Int32) &&& 31).toUInt32).toInt32) &&& (3 : Int32))), .val (.ref b13), .unset] [])) _
                      refine XS.iconst X14.here hx rfl (hb hby at_262) ?_
                      show Steps p.tables e below (T14.setTop (mkF m 263 #[.val (.int p0), .val (.int p1), .val (.int p2), .val (.int p3), .val (.int p4), .val (.int p5), .val (.int la), .val (.int lb), .val (.int c0), .val (.int c1), .val (.int c2), .val (.int d0), .val (.int d1), .val (.int d2), .val (.ref s1), .val (.ref s2), .val (.int i2), .val (.ref b5), .val (.int (((p5.toUInt32 >>> ((1 : Int32) &&& 31).toUInt32).toInt32) &&& (3 : Int32))), .val (.ref b13), .unset] [(.int (0 : Int32))])) _
                      exact k
                · simp only [if_neg hq] at k
                  refine XS.icmpYes X14.here hx rfl (pc0 := 236) (pc' := 262) rfl (hb hby at_236) rfl (feq hq).2 (by decide) (by decide) ?_
                  show Steps p.tables e below (T14.setTop (mkF m 262 #[.val (.int p0), .val (.int p1), .val (.int p2), .val (.int p3), .val (.int p4), .val (.int p5), .val (.int la), .val (.int lb), .val (.int c0), .val (.int c1), .val (.int c2), .val (.int d0), .val (.int d1), .val (.int d2), .val (.ref s1), .val (.ref s2), .val (.int i2), .val (.ref b5), .val (.int (((p5.toUInt32 >>> ((1 : Int32) &&& 31).toUInt32).toInt32) &&& (3 : Int32))), .val (.ref b13), .unset] [])) _
                  refine XS.iconst X14.here hx rfl (hb hby at_262) ?_
                  show Steps p.tables e below (T14.setTop (mkF m 263 #[.val (.int p0), .val (.int p1), .val (.int p2), .val (.int p3), .val (.int p4), .val (.int p5), .val (.int la), .val (.int lb), .val (.int c0), .val (.int c1), .val (.int c2), .val (.int d0), .val (.int d1), .val (.int d2), .val (.ref s1), .val (.ref s2), .val (.int i2), .val (.ref b5), .val (.int (((p5.toUInt32 >>> ((1 : Int32) &&& 31).toUInt32).toInt32) &&& (3 : Int32))), .val (.ref b13), .unset] [(.int (0 : Int32))])) _
                  exact k
            · simp only [if_neg hq] at k
              refine XS.icmpNo X14.here hx rfl (hb hby at_216) rfl (flt hq).1 ?_
              show Steps p.tables e below (T14.setTop (mkF m 219 #[.val (.int p0), .val (.int p1), .val (.int p2), .val (.int p3), .val (.int p4), .val (.int p5), .val (.int la), .val (.int lb), .val (.int c0), .val (.int c1), .val (.int c2), .val (.int d0), .val (.int d1), .val (.int d2), .val (.ref s1), .val (.ref s2), .val (.int i2), .val (.ref b5), .val (.int (((p5.toUInt32 >>> ((1 : Int32) &&& 31).toUInt32).toInt32) &&& (3 : Int32))), .val (.ref b13), .unset] [])) _
              refine XS.iload X14.here hx rfl (hb hby at_219) rfl ?_
              show Steps p.tables e below (T14.setTop (mkF m 221 #[.val (.int p0), .val (.int p1), .val (.int p2), .val (.int p3), .val (.int p4), .val (.int p5), .val (.int la), .val (.int lb), .val (.int c0), .val (.int c1), .val (.int c2), .val (.int d0), .val (.int d1), .val (.int d2), .val (.ref s1), .val (.ref s2), .val (.int i2), .val (.ref b5), .val (.int (((p5.toUInt32 >>> ((1 : Int32) &&& 31).toUInt32).toInt32) &&& (3 : Int32))), .val (.ref b13), .unset] [(.int c0)])) _
              refine XS.iload X14.here hx rfl (hb hby at_221) rfl ?_
              show Steps p.tables e below (T14.setTop (mkF m 223 #[.val (.int p0), .val (.int p1), .val (.int p2), .val (.int p3), .val (.int p4), .val (.int p5), .val (.int la), .val (.int lb), .val (.int c0), .val (.int c1), .val (.int c2), .val (.int d0), .val (.int d1), .val (.int d2), .val (.ref s1), .val (.ref s2), .val (.int i2), .val (.ref b5), .val (.int (((p5.toUInt32 >>> ((1 : Int32) &&& 31).toUInt32).toInt32) &&& (3 : Int32))), .val (.ref b13), .unset] [(.int d0), (.int c0)])) _
              by_cases hq : c0 = d0
              · simp only [if_pos hq] at k
                refine XS.icmpNo X14.here hx rfl (hb hby at_223) rfl (teq hq).2 ?_
                show Steps p.tables e below (T14.setTop (mkF m 226 #[.val (.int p0), .val (.int p1), .val (.int p2), .val (.int p3), .val (.int p4), .val (.int p5), .val (.int la), .val (.int lb), .val (.int c0), .val (.int c1), .val (.int c2), .val (.int d0), .val (.int d1), .val (.int d2), .val (.ref s1), .val (.ref s2), .val (.int i2), .val (.ref b5), .val (.int (((p5.toUInt32 >>> ((1 : Int32) &&& 31).toUInt32).toInt32) &&& (3 : Int32))), .val (.ref b13), .unset] [])) _
                refine XS.iload X14.here hx rfl (hb hby at_226) rfl ?_
                show Steps p.tables e below (T14.setTop (mkF m 228 #[.val (.int p0), .val (.int p1), .val (.int p2), .val (.int p3), .val (.int p4), .val (.int p5), .val (.int la), .val (.int lb), .val (.int c0), .val (.int c1), .val (.int c2), .val (.int d0), .val (.int d1), .val (.int d2), .val (.ref s1), .val (.ref s2), .val (.int i2), .val (.ref b5), .val (.int (((p5.toUInt32 >>> ((1 : Int32) &&& 31).toUInt32).toInt32) &&& (3 : Int32))), .val (.ref b13), .unset] [(.int la)])) _
                refine XS.iconst X14.here hx rfl (hb hby at_228) ?_
                show Steps p.tables e below (T14.setTop (mkF m 229 #[.val (.int p0), .val (.int p1), .val (.int p2), .val (.int p3), .val (.int p4), .val (.int p5), .val (.int la), .val (.int lb), .val (.int c0), .val (.int c1), .val (.int c2), .val (.int d0), .val (.int d1), .val (.int d2), .val (.ref s1), .val (.ref s2), .val (.int i2), .val (.ref b5), .val (.int (((p5.toUInt32 >>> ((1 : Int32) &&& 31).toUInt32).toInt32) &&& (3 : Int32))), .val (.ref b13), .unset] [(.int (2 : Int32)), (.int la)])) _
                by_cases hq : la < (2 : Int32)
                · simp only [if_pos hq] at k
                  refine XS.icmpYes X14.here hx rfl (pc0 := 229) (pc' := 239) rfl (hb hby at_229) rfl (tlt hq).1 (by decide) (by decide) ?_
                  show Steps p.tables e below (T14.setTop (mkF m 239 #[.val (.int p0), .val (.int p1), .val (.int p2), .val (.int p3), .val (.int p4), .val (.int p5), .val (.int la), .val (.int lb), .val (.int c0), .val (.int c1), .val (.int c2), .val (.int d0), .val (.int d1), .val (.int d2), .val (.ref s1), .val (.ref s2), .val (.int i2), .val (.ref b5), .val (.int (((p5.toUInt32 >>> ((1 : Int32) &&& 31).toUInt32).toInt32) &&& (3 : Int32))), .val (.ref b13), .unset] [])) _
                  refine XS.iload X14.here hx rfl (hb hby at_239) rfl ?_
                  show Steps p.tables e below (T14.setTop (mkF m 241 #[.val (.int p0), .val (.int p1), .val (.int p2), .val (.int p3), .val (.int p4), .val (.int p5), .val (.int la), .val (.int lb), .val (.int c0), .val (.int c1), .val (.int c2), .val (.int d0), .val (.int d1), .val (.int d2), .val (.ref s1), .val (.ref s2), .val (.int i2), .val (.ref b5), .val (.int (((p5.toUInt32 >>> ((1 : Int32) &&& 31).toUInt32).toInt32) &&& (3 : Int32))), .val (.ref b13), .unset] [(.int la)])) _
                  refine XS.iconst X14.here hx rfl (hb hby at_241) ?_
                  show Steps p.tables e below (T14.setTop (mkF m 242 #[.val (.int p0), .val (.int p1), .val (.int p2), .val (.int p3), .val (.int p4), .val (.int p5), .val (.int la), .val (.int lb), .val (.int c0), .val (.int c1), .val (.int c2), .val (.int d0), .val (.int d1), .val (.int d2), .val (.ref s1), .val (.ref s2), .val (.int i2), .val (.ref b5), .val (.int (((p5.toUInt32 >>> ((1 : Int32) &&& 31).toUInt32).toInt32) &&& (3 : Int32))), .val (.ref b13), .unset] [(.int (3 : Int32)), (.int la)])) _
                  by_cases hq : la < (3 : Int32)
                  · simp only [if_pos hq] at k
                    refine XS.icmpYes X14.here hx rfl (pc0 := 242) (pc' := 252) rfl (hb hby at_242) rfl (tlt hq).1 (by decide) (by decide) ?_
                    show Steps p.tables e below (T14.setTop (mkF m 252 #[.val (.int p0), .val (.int p1), .val (.int p2), .val (.int p3), .val (.int p4), .val (.int p5), .val (.int la), .val (.int lb), .val (.int c0), .val (.int c1), .val (.int c2), .val (.int d0), .val (.int d1), .val (.int d2), .val (.ref s1), .val (.ref s2), .val (.int i2), .val (.ref b5), .val (.int (((p5.toUInt32 >>> ((1 : Int32) &&& 31).toUInt32).toInt32) &&& (3 : Int32))), .val (.ref b13), .unset] [])) _
                    refine XS.iloadN X14.here hx rfl (hb hby at_252) rfl ?_
                    show Steps p.tables e below (T14.setTop (mkF m 253 #[.val (.int p0), .val (.int p1), .val (.int p2), .val (.int p3), .val (.int p4), .val (.int p5), .val (.int la), .val (.int lb), .val (.int c0), .val (.int c1), .val (.int c2), .val (.int d0), .val (.int d1), .val (.int d2), .val (.ref s1), .val (.ref s2), .val (.int i2), .val (.ref b5), .val (.int (((p5.toUInt32 >>> ((1 : Int32) &&& 31).toUInt32).toInt32) &&& (3 : Int32))), .val (.ref b13), .unset] [(.int p3)])) _
                    refine XS.iload X14.here hx rfl (hb hby at_253) rfl ?_
                    show Steps p.tables e below (T14.setTop (mkF m 255 #[.val (.int p0), .val (.int p1), .val (.int p2), .val (.int p3), .val (.int p4), .val (.int p5), .val (.int la), .val (.int lb), .val (.int c0), .val (.int c1), .val (.int c2), .val (.int d0), .val (.int d1), .val (.int d2), .val (.ref s1), .val (.ref s2), .val (.int i2), .val (.ref b5), .val (.int (((p5.toUInt32 >>> ((1 : Int32) &&& 31).toUInt32).toInt32) &&& (3 : Int32))), .val (.ref b13), .unset] [(.int i2), (.int p3)])) _
                    by_cases hq : p3 = i2
                    · simp only [if_pos hq] at k
                      refine XS.icmpNo X14.here hx rfl (hb hby at_255) rfl (teq hq).2 ?_
                      show Steps p.tables e below (T14.setTop (mkF m 258 #[.val (.int p0), .val (.int p1), .val (.int p2), .val (.int p3), .val (.int p4), .val (.int p5), .val (.int la), .val (.int lb), .val (.int c0), .val (.int c1), .val (.int c2), .val (.int d0), .val (.int d1), .val (.int d2), .val (.ref s1), .val (.ref s2), .val (.int i2), .val (.ref b5), .val (.int (((p5.toUInt32 >>> ((1 : Int32) &&& 31).toUInt32).toInt32) &&& (3 : Int32))), .val (.ref b13), .unset] [])) _
                      refine XS.iconst X14.here hx rfl (hb hby at_258) ?_
                      show Steps p.tables e below (T14.setTop (mkF m 259 #[.val (.int p0), .val (.int p1), .val (.int p2), .val (.int p3), .val (.int p4), .val (.int p5), .val (.int la), .val (.int lb), .val (.int c0), .val (.int c1), .val (.int c2), .val (.int d0), .val (.int d1), .val (.int d2), .val (.ref s1), .val (.ref s2), .val (.int i2), .val (.ref b5), .val (.int (((p5.toUInt32 >>> ((1 : Int32) &&& 31).toUInt32).toInt32) &&& (3 : Int32))), .val (.ref b13), .unset] [(.int (1 : Int32))])) _
                      refine XS.goto X14.here hx rfl (pc0 := 259) (pc' := 263) rfl (hb hby at_259) (by decide) (by decide) ?_
                      show Steps p.tables e below (T14.setTop (mkF m 263 #[.val (.int p0), .val (.int p1), .val (.int p2), .val (.int p3), .val (.int p4), .val (.int p5), .val (.int la), .val (.int lb), .val (.int c0), .val (.int c1), .val (.int c2), .val (.int d0), .val (.int d1), .val (.int d2), .val (.ref s1), .val (.ref s2), .val (.int i2), .val (.ref b5), .val (.int (((p5.toUInt32 >>> ((1 : Int32) &&& 31).toUInt32).toInt32) &&& (3 : Int32))), .val (.ref b13), .unset] [(.int (1 : Int32))])) _
                      exact k
                    · simp only [if_neg hq] at k
                      refine XS.icmpYes X14.here hx rfl (pc0 := 255) (pc' := 262) rfl (hb hby at_255) rfl (feq hq).2 (by decide) (by decide) ?_
                      show Steps p.tables e below (T14.setTop (mkF m 262 #[.val (.int p0), .val (.int p1), .val (.int p2), .val (.int p3), .val (.int p4), .val (.int p5), .val (.int la), .val (.int lb), .val (.int c0), .val (.int c1), .val (.int c2), .val (.int d0), .val (.int d1), .val (.int d2), .val (.ref s1), .val (.ref s2), .val (.int i2), .val (.ref b5), .val (.int (((p5.toUInt32 >>> ((1 : Int32) &&& 31).toUInt32).toInt32) &&& (3 : Int32))), .val (.ref b13), .unset] [])) _
                      refine XS.iconst X14.here hx rfl (hb hby at_262) ?_
                      show Steps p.tables e below (T14.setTop (mkF m 263 #[.val (.int p0), .val (.int p1), .val (.int p2), .val (.int p3), .val (.int p4), .val (.int p5), .val (.int la), .val (.int lb), .val (.int c0), .val (.int c1), .val (.int c2), .val (.int d0), .val (.int d1), .val (.int d2), .val (.ref s1), .val (.ref s2), .val (.int i2), .val (.ref b5), .val (.int (((p5.toUInt32 >>> ((1 : Int32) &&& 31).toUInt32).toInt32) &&& (3 : Int32))), .val (.ref b13), .unset] [(.int (0 : Int32))])) _
                      exact k
                  · simp only [if_neg hq] at k
                    refine XS.icmpNo X14.here hx rfl (hb hby at_242) rfl (flt hq).1 ?_
                    show Steps p.tables e below (T14.setTop (mkF m 245 #[.val (.int p0), .val (.int p1), .val (.int p2), .val (.int p3), .val (.int p4), .val (.int p5), .val (.int la), .val (.int lb), .val (.int c0), .val (.int c1), .val (.int c2), .val (.int d0), .val (.int d1), .val (.int d2), .val (.ref s1), .val (.ref s2), .val (.int i2), .val (.ref b5), .val (.int (((p5.toUInt32 >>> ((1 : Int32) &&& 31).toUInt32).toInt32) &&& (3 : Int32))), .val (.ref b13), .unset] [])) _
                    refine XS.iload X14.here hx rfl (hb hby at_245) rfl ?_
                    show Steps p.tables e below (T14.setTop (mkF m 247 #[.val (.int p0), .val (.int p1), .val (.int p2), .val (.int p3), .val (.int p4), .val (.int p5), .val (.int la), .val (.int lb), .val (.int c0), .val (.int c1), .val (.int c2), .val (.int d0), .val (.int d1), .val (.int d2), .val (.ref s1), .val (.ref s2), .val (.int i2), .val (.ref b5), .val (.int (((p5.toUInt32 >>> ((1 : Int32) &&& 31).toUInt32).toInt32) &&& (3 : Int32))), .val (.ref b13), .unset] [(.int c2)])) _
                    refine XS.iload X14.here hx rfl (hb hby at_247) rfl ?_
                    show Steps p.tables e below (T14.setTop (mkF m 249 #[.val (.int p0), .val (.int p1), .val (.int p2), .val (.int p3), .val (.int p4), .val (.int p5), .val (.int la), .val (.int lb), .val (.int c0), .val (.int c1), .val (.int c2), .val (.int d0), .val (.int d1), .val (.int d2), .val (.ref s1), .val (.ref s2), .val (.int i2), .val (.ref b5), .val (.int (((p5.toUInt32 >>> ((1 : Int32) &&& 31).toUInt32).toInt32) &&& (3 : Int32))), .val (.ref b13), .unset] [(.int d2), (.int c2)])) _
                    by_cases hq : c2 = d2
                    · simp only [if_pos hq] at k
                      refine XS.icmpNo X14.here hx rfl (hb hby at_249) rfl (teq hq).2 ?_
                      show Steps p.tables e below (T14.setTop (mkF m 252 #[.val (.int p0), .val (.int p1), .val (.int p2), .val (.int p3), .val (.int p4), .val (.int p5), .val (.int la), .val (.int lb), .val (.int c0), .val (.int c1), .val (.int c2), .val (.int d0), .val (.int d1), .val (.int d2), .val (.ref s1), .val (.ref s2), .val (.int i2), .val (.ref b5), .val (.int (((p5.toUInt32 >>> ((1 : Int32) &&& 31).toUInt32).toInt32) &&& (3 : Int32))), .val (.ref b13), .unset] [])) _
                      refine XS.iloadN X14.here hx rfl (hb hby at_252) rfl ?_
                      show Steps p.tables e below (T14.setTop (mkF m 253 #[.val (.int p0), .val (.int p1), .val (.int p2), .val (.int p3), .val (.int p4), .val (.int p5), .val (.int la), .val (.int lb), .val (.int c0), .val (.int c1), .val (.int c2), .val (.int d0), .val (.int d1), .val (.int d2), .val (.ref s1), .val (.ref s2), .val (.int i2), .val (.ref b5), .val (.int (((p5.toUInt32 >>> ((1 : Int32) &&& 31).toUInt32).toInt32) &&& (3 : Int32))), .val (.ref b13), .unset] [(.int p3)])) _
                      refine XS.iload X14.here hx rfl (hb hby at_253) rfl ?_
                      show Steps p.tables e below (T14.setTop (mkF m 255 #[.val (.int p0), .val (.int p1), .val (.int p2), .val (.int p3), .val (.int p4), .val (.int p5), .val (.int la), .val (.int lb), .val (.int c0), .val (.int c1), .val (.int c2), .val (.int d0), .val (.int d1), .val (.int d2), .val (.ref s1), .val (.ref s2), .val (.int i2), .val (.ref b5), .val (.int (((p5.toUInt32 >>> ((1 : Int32) &&& 31).toUInt32).toInt32) &&& (3 : Int32))), .val (.ref b13), .unset] [(.int i2), (.int p3)])) _
                      by_cases hq : p3 = i2
                      · simp only [if_pos hq] at k
                        refine XS.icmpNo X14.here hx rfl (hb hby at_255) rfl (teq hq).2 ?_
                        show Steps p.tables e below (T14.setTop (mkF m 258 #[.val (.int p0), .val (.int p1), .val (.int p2), .val (.int p3), .val (.int p4), .val (.int p5), .val (.int la), .val (.int lb), .val (.int c0), .val (.int c1), .val (.int c2), .val (.int d0), .val (.int d1), .val (.int d2), .val (.ref s1), .val (.ref s2), .val (.int i2), .val (.ref b5), .val (.int (((p5.toUInt32 >>> ((1 : Int32) &&& 31).toUInt32).toInt32) &&& (3 : Int32))), .val (.ref b13), .unset] [])) _
                        refine XS.iconst X14.here hx rfl (hb hby at_258) ?_
                        show Steps p.tables e below (T14.setTop (mkF m 259 #[.val (.int p0), .val (.int p1), .val (.int p2), .val (.int p3), .val (.int p4), .val (.int p5), .val (.int la), .val (.int lb), .val (.int c0), .val (.int c1), .val (.int c2), .val (.int d0), .val (.int d1), .val (.int d2), .val (.ref s1), .val (.ref s2), .val (.int i2), .val (.ref b5), .val (.int (((p5.toUInt32 >>> ((1 : Int32) &&& 31).toUInt32).toInt32) &&& (3 : Int32))), .val (.ref b13), .unset] [(.int (1 : Int32))])) _
                        refine XS.goto X14.here hx rfl (pc0 := 259) (pc' := 263) rfl (hb hby at_259) (by decide) (by decide) ?_
                        show Steps p.tables e below (T14.setTop (mkF m 263 #[.val (.int p0), .val (.int p1), .val (.int p2), .val (.int p3), .val (.int p4), .val (.int p5), .val (.int la), .val (.int lb), .val (.int c0), .val (.int c1), .val (.int c2), .val (.int d0), .val (.int d1), .val (.int d2), .val (.ref s1), .val (.ref s2), .val (.int i2), .val (.ref b5), .val (.int (((p5.toUInt32 >>> ((1 : Int32) &&& 31).toUInt32).toInt32) &&& (3 : Int32))), .val (.ref b13), .unset] [(.int (1 : Int32))])) _
                        exact k
                      · simp only [if_neg hq] at k
                        refine XS.icmpYes X14.here hx rfl (pc0 := 255) (pc' := 262) rfl (hb hby at_255) rfl (feq hq).2 (by decide) (by decide) ?_
                        show Steps p.tables e below (T14.setTop (mkF m 262 #[.val (.int p0), .val (.int p1), .val (.int p2), .val (.int p3), .val (.int p4), .val (.int p5), .val (.int la), .val (.int lb), .val (.int c0), .val (.int c1), .val (.int c2), .val (.int d0), .val (.int d1), .val (.int d2), .val (.ref s1), .val (.ref s2), .val (.int i2), .val (.ref b5), .val (.int (((p5.toUInt32 >>> ((1 : Int32) &&& 31).toUInt32).toInt32) &&& (3 : Int32))), .val (.ref b13), .unset] [])) _
                        refine XS.iconst X14.here hx rfl (hb hby at_262) ?_
                        show Steps p.tables e below (T14.setTop (mkF m 263 #[.val (.int p0), .val (.int p1), .val (.int p2), .val (.int p3), .val (.int p4), .val (.int p5), .val (.int la), .val (.int lb), .val (.int c0), .val (.int c1), .val (.int c2), .val (.int d0), .val (.int d1), .val (.int d2), .val (.ref s1), .val (.ref s2), .val (.int i2), .val (.ref b5), .val (.int (((p5.toUInt32 >>> ((1 : Int32) &&& 31).toUInt32).toInt32) &&& (3 : Int32))), .val (.ref b13), .unset] [(.int (0 : Int32))])) _
                        exact k
                    · simp only [if_neg hq] at k
                      refine XS.icmpYes X14.here hx rfl (pc0 := 249) (pc' := 262) rfl (hb hby at_249) rfl (feq hq).2 (by decide) (by decide) ?_
                      show Steps p.tables e below (T14.setTop (mkF m 262 #[.val (.int p0), .val (.int p1), .val (.int p2), .val (.int p3), .val (.int p4), .val (.int p5), .val (.int la), .val (.int lb), .val (.int c0), .val (.int c1), .val (.int c2), .val (.int d0), .val (.int d1), .val (.int d2), .val (.ref s1), .val (.ref s2), .val (.int i2), .val (.ref b5), .val (.int (((p5.toUInt32 >>> ((1 : Int32) &&& 31).toUInt32).toInt32) &&& (3 : Int32))), .val (.ref b13), .unset] [])) _
                      refine XS.iconst X14.here hx rfl (hb hby at_262) ?_
                      show Steps p.tables e below (T14.setTop (mkF m 263 #[.val (.int p0), .val (.int p1), .val (.int p2), .val (.int p3), .val (.int p4), .val (.int p5), .val (.int la), .val (.int lb), .val (.int c0), .val (.int c1), .val (.int c2), .val (.int d0), .val (.int d1), .val (.int d2), .val (.ref s1), .val (.ref s2), .val (.int i2), .val (.ref b5), .val (.int (((p5.toUInt32 >>> ((1 : Int32) &&& 31).toUInt32).toInt32) &&& (3 : Int32))), .val (.ref b13), .unset] [(.int (0 : Int32))])) _
                      exact k
                · simp only [if_neg hq] at k
                  refine XS.icmpNo X14.here hx rfl (hb hby at_229) rfl (flt hq).1 ?_
                  show Steps p.tables e below (T14.setTop (mkF m 232 #[.val (.int p0), .val (.int p1), .val (.int p2), .val (.int p3), .val (.int p4), .val (.int p5), .val (.int la), .val (.int lb), .val (.int c0), .val (.int c1), .val (.int c2), .val (.int d0), .val (.int d1), .val (.int d2), .val (.ref s1), .val (.ref s2), .val (.int i2), .val (.ref b5), .val (.int (((p5.toUInt32 >>> ((1 : Int32) &&& 31).toUInt32).toInt32) &&& (3 : Int32))), .val (.ref b13), .unset] [])) _
                  refine XS.iload X14.here hx rfl (hb hby at_232) rfl ?_
                  show Steps p.tables e below (T14.setTop (mkF m 234 #[.val (.int p0), .val (.int p1), .val (.int p2), .val (.int p3), .val (.int p4), .val (.int p5), .val (.int la), .val (.int lb), .val (.int c0), .val (.int c1), .val (.int c2), .val (.int d0), .val (.int d1), .val (.int d2), .val (.ref s1), .val (.ref s2), .val (.int i2), .val (.ref b5), .val (.int (((p5.toUInt32 >>> ((1 : Int32) &&& 31).toUInt32).toInt32) &&& (3 : Int32))), .val (.ref b13), .unset] [(.int c1)])) _
                  refine XS.iload X14.here hx rfl (hb hby at_234) rfl ?_
                  show Steps p.tables e below (T14.setTop (mkF m 236 #[.val (.int p0), .val (.int p1), .val (.int p2), .val (.int p3), .val (.int p4), .val (.int p5), .val (.int la), .val (.int lb), .val (.int c0), .val (.int c1), .val (.int c2), .val (.int d0), .val (.int d1), .val (.int d2), .val (.ref s1), .val (.ref s2), .val (.int i2), .val (.ref b5), .val (.int (((p5.toUInt32 >>> ((1 : Int32) &&& 31).toUInt32).toInt32) &&& (3 : Int32))), .val (.ref b13), .unset] [(.int d1), (.int c1)])) _
                  by_cases hq : c1 = d1
                  · simp only [if_pos hq] at k
                    refine XS.icmpNo X14.here hx rfl (hb hby at_236) rfl (teq hq).2 ?_
                    show Steps p.tables e below (T14.setTop (mkF m 239 #[.val (.int p0), .val (.int p1), .val (.int p2), .val (.int p3), .val (.int p4), .val (.int p5), .val (.int la), .val (.int lb), .val (.int c0), .val (.int c1), .val (.int c2), .val (.int d0), .val (.int d1), .val (.int d2), .val (.ref s1), .val (.ref s2), .val (.int i2), .val (.ref b5), .val (.int (((p5.toUInt32 >>> ((1 : Int32) &&& 31).toUInt32).toInt32) &&& (3 : Int32))), .val (.ref b13), .unset] [])) _
                    refine XS.iload X14.here hx rfl (hb hby at_239) rfl ?_
                    show Steps p.tables e below (T14.setTop (mkF m 241 #[.val (.int p0), .val (.int p1), .val (.int p2), .val (.int p3), .val (.int p4), .val (.int p5), .val (.int la), .val (.int lb), .val (.int c0), .val (.int c1), .val (.int c2), .val (.int d0), .val (.int d1), .val (.int d2), .val (.ref s1), .val (.ref s2), .val (.int i2), .val (.ref b5), .val (.int (((p5.toUInt32 >>> ((1 : Int32) &&& 31).toUInt32).toInt32) &&& (3 : Int32))), .val (.ref b13), .unset] [(.int la)])) _
                    refine XS.iconst X14.here hx rfl (hb hby at_241) ?_
                    show Steps p.tables e below (T14.setTop (mkF m 242 #[.val (.int p0), .val (.int p1), .val (.int p2), .val (.int p3), .val (.int p4), .val (.int p5), .val (.int la), .val (.int lb), .val (.int c0), .val (.int c1), .val (.int c2), .val (.int d0), .val (.int d1), .val (.int d2), .val (.ref s1), .val (.ref s2), .val (.int i2), .val (.ref b5), .val (.int (((p5.toUInt32 >>> ((1 : Int32) &&& 31).toUInt32).toInt32) &&& (3 : Int32))), .val (.ref b13), .unset] [(.int (3 : Int32)), (.int la)])) _
                    by_cases hq : la < (3 : Int32)
                    · simp only [if_pos hq] at k
                      refine XS.icmpYes X14.here hx rfl (pc0 := 242) (pc' := 252) rfl (hb hby at_242) rfl (tlt hq).1 (by decide) (by decide) ?_
                      show Steps p.tables e below (T14.setTop (mkF m 252 #[.val (.int p0), .val (.int p1), .val (.int p2), .val (.int p3), .val (.int p4), .val (.int p5), .val (.int la), .val (.int lb), .val (.int c0), .val (.int c1), .val (.int c2), .val (.int d0), .val (.int d1), .val (.int d2), .val (.ref s1), .val (.ref s2), .val (.int i2), .val (.ref b5), .val (.int (((p5.toUInt32 >>> ((1 : Int32) &&& 31).toUInt32).toInt32) &&& (3 : Int32))), .val (.ref b13), .unset] [])) _
                      refine XS.iloadN X14.here hx rfl (hb hby at_252) rfl ?_
                      show Steps p.tables e below (T14.setTop (mkF m 253 #[.val (.int p0), .val (.int p1), .val (.int p2), .val (.int p3), .val (.int p4), .val (.int p5), .val (.int la), .val (.int lb), .val (.int c0), .val (.int c1), .val (.int c2), .val (.int d0), .val (.int d1), .val (.int d2), .val (.ref s1), .val (.ref s2), .val (.int i2), .val (.ref b5), .val (.int (((p5.toUInt32 >>> ((1 : Int32) &&& 31).toUInt32).toInt32) &&& (3 : Int32))), .val (.ref b13), .unset] [(.int p3)])) _
                      refine XS.iload X14.here hx rfl (hb hby at_253) rfl ?_
                      show Steps p.tables e below (T14.setTop (mkF m 255 #[.val (.int p0), .val (.int p1), .val (.int p2), .val (.int p3), .val (.int p4), .val (.int p5), .val (.int la), .val (.int lb), .val (.int c0), .val (.int c1), .val (.int c2), .val (.int d0), .val (.int d1), .val (.int d2), .val (.ref s1), .val (.ref s2), .val (.int i2), .val (.ref b5), .val (.int (((p5.toUInt32 >>> ((1 : Int32) &&& 31).toUInt32).toInt32) &&& (3 : Int32))), .val (.ref b13), .unset] [(.int i2), (.int p3)])) _
                      by_cases hq : p3 = i2
                      · simp only [if_pos hq] at k
                        refine XS.icmpNo X14.here hx rfl (hb hby at_255) rfl (teq hq).2 ?_
                        show Steps p.tables e below (T14.setTop (mkF m 258 #[.val (.int p0), .val (.int p1), .val (.int p2), .val (.int p3), .val (.int p4), .val (.int p5), .val (.int la), .val (.int lb), .val (.int c0), .val (.int c1), .val (.int c2), .val (.int d0), .val (.int d1), .val (.int d2), .val (.ref s1), .val (.ref s2), .val (.int i2), .val (.ref b5), .val (.int (((p5.toUInt32 >>> ((1 : Int32) &&& 31).toUInt32).toInt32) &&& (3 : Int32))), .val (.ref b13), .unset] [])) _
                        refine XS.iconst X14.here hx rfl (hb hby at_258) ?_
                        show Steps p.tables e below (T14.setTop (mkF m 259 #[.val (.int p0), .val (.int p1), .val (.int p2), .val (.int p3), .val (.int p4), .val (.int p5), .val (.int la), .val (.int lb), .val (.int c0), .val (.int c1), .val (.int c2), .val (.int d0), .val (.int d1), .val (.int d2), .val (.ref s1), .val (.ref s2), .val (.int i2), .val (.ref b5), .val (.int (((p5.toUInt32 >>> ((1 : Int32) &&& 31).toUInt32).toInt32) &&& (3 : Int32))), .val (.ref b13), .unset] [(.int (1 : Int32))])) _
                        refine XS.goto X14.here hx rfl (pc0 := 259) (pc' := 263) rfl (hb hby at_259) (by decide) (by decide) ?_
                        show Steps p.tables e below (T14.setTop (mkF m 263 #[.val (.int p0), .val (.int p1), .val (.int p2), .val (.int p3), .val (.int p4), .val (.int p5), .val (.int la), .val (.int lb), .val (.int c0), .val (.int c1), .val (.int c2), .val (.int d0), .val (.int d1), .val (.int d2), .val (.ref s1), .val (.ref s2), .val (.int i2), .val (.ref b5), .val (.int (((p5.toUInt32 >>> ((1 : Int32) &&& 31).toUInt32).toInt32) &&& (3 : Int32))), .val (.ref b13), .unset] [(.int (1 : Int32))])) _
                        exact k
                      · simp only [if_neg hq] at k
                        refine XS.icmpYes X14.here hx rfl (pc0 := 255) (pc' := 262) rfl (hb hby at_255) rfl (feq hq).2 (by decide) (by decide) ?_
                        show Steps p.tables e below (T14.setTop (mkF m 262 #[.val (.int p0), .val (.int p1), .val (.int p2), .val (.int p3), .val (.int p4), .val (.int p5), .val (.int la), .val (.int lb), .val (.int c0), .val (.int c1), .val (.int c2), .val (.int d0), .val (.int d1), .val (.int d2), .val (.ref s1), .val (.ref s2), .val (.int i2), .val (.ref b5), .val (.int (((p5.toUInt32 >>> ((1 : Int32) &&& 31).toUInt32).toInt32) &&& (3 : Int32))), .val (.ref b13), .unset] [])) _
                        refine XS.iconst X14.here hx rfl (hb hby at_262) ?_
                        show Steps p.tables e below (T14.setTop (mkF m 263 #[.val (.int p0), .val (.int p1), .val (.int p2), .val (.int p3), .val (.int p4), .val (.int p5), .val (.int la), .val (.int lb), .val (.int c0), .val (.int c1), .val (.int c2), .val (.int d0), .val (.int d1), .val (.int d2), .val (.ref s1), .val (.ref s2), .val (.int i2), .val (.ref b5), .val (.int (((p5.toUInt32 >>> ((1 : Int32) &&& 31).toUInt32).toInt32) &&& (3 : Int32))), .val (.ref b13), .unset] [(.int (0 : Int32))])) _
                        exact k
                    · simp only [if_neg hq] at k
                      refine XS.icmpNo X14.here hx rfl (hb hby at_242) rfl (flt hq).1 ?_
                      show Steps p.tables e below (T14.setTop (mkF m 245 #[.val (.int p0), .val (.int p1), .val (.int p2), .val (.int p3), .val (.int p4), .val (.int p5), .val (.int la), .val (.int lb), .val (.int c0), .val (.int c1), .val (.int c2), .val (.int d0), .val (.int d1), .val (.int d2), .val (.ref s1), .val (.ref s2), .val (.int i2), .val (.ref b5), .val (.int (((p5.toUInt32 >>> ((1 : Int32) &&& 31).toUInt32).toInt32) &&& (3 : Int32))), .val (.ref b13), .unset] [])) _
                      refine XS.iload X14.here hx rfl (hb hby at_245) rfl ?_
                      show Steps p.tables e below (T14.setTop (mkF m 247 #[.val (.int p0), .val (.int p1), .val (.int p2), .val (.int p3), .val (.int p4), .val (.int p5), .val (.int la), .val (.int lb), .val (.int c0), .val (.int c1), .val (.int c2), .val (.int d0), .val (.int d1), .val (.int d2), .val (.ref s1), .val (.ref s2), .val (.int i2), .val (.ref b5), .val (.int (((p5.toUInt32 >>> ((1 : Int32) &&& 31).toUInt32).toInt32) &&& (3 : Int32))), .val (.ref b13), .unset] [(.int c2)])) _
                      refine XS.iload X14.here hx rfl (hb hby at_247) rfl ?_
                      show Steps p.tables e below (T14.setTop (mkF m 249 #[.val (.int p0), .val (.int p1), .val (.int p2), .val (.int p3), .val (.int p4), .val (.int p5), .val (.int la), .val (.int lb), .val (.int c0), .val (.int c1), .val (.int c2), .val (.int d0), .val (.int d1), .val (.int d2), .val (.ref s1), .val (.ref s2), .val (.int i2), .val (.ref b5), .val (.int (((p5.toUInt32 >>> ((1 : Int32) &&& 31).toUInt32).toInt32) &&& (3 : Int32))), .val (.ref b13), .unset] [(.int d2), (.int c2)])) _
                      by_cases hq : c2 = d2
                      · simp only [if_pos hq] at k
                        refine XS.icmpNo X14.here hx rfl (hb hby at_249) rfl (teq hq).2 ?_
                        show Steps p.tables e below (T14.setTop (mkF m 252 #[.val (.int p0), .val (.int p1), .val (.int p2), .val (.int p3), .val (.int p4), .val (.int p5), .val (.int la), .val (.int lb), .val (.int c0), .val (.int c1), .val (.int c2), .val (.int d0), .val (.int d1), .val (.int d2), .val (.ref s1), .val (.ref s2), .val (.int i2), .val (.ref b5), .val (.int (((p5.toUInt32 >>> ((1 : Int32) &&& 31).toUInt32).toInt32) &&& (3 : Int32))), .val (.ref b13), .unset] [])) _
                        refine XS.iloadN X14.here hx rfl (hb hby at_252) rfl ?_
                        show Steps p.tables e below (T14.setTop (mkF m 253 #[.val (.int p0), .val (.int p1), .val (.int p2), .val (.int p3), .val (.int p4), .val (.int p5), .val (.int la), .val (.int lb), .val (.int c0), .val (.int c1), .val (.int c2), .val (.int d0), .val (.int d1), .val (.int d2), .val (.ref s1), .val (.ref s2), .val (.int i2), .val (.ref b5), .val (.int (((p5.toUInt32 >>> ((1 : Int32) &&& 31).toUInt32).toInt32) &&& (3 : Int32))), .val (.ref b13), .unset] [(.int p3)])) _
                        refine XS.iload X14.here hx rfl (hb hby at_253) rfl ?_
                        show Steps p.tables e below (T14.setTop (mkF m 255 #[.val (.int p0), .val (.int p1), .val (.int p2), .val (.int p3), .val (.int p4), .val (.int p5), .val (.int la), .val (.int lb), .val (.int c0), .val (.int c1), .val (.int c2), .val (.int d0), .val (.int d1), .val (.int d2), .val (.ref s1), .val (.ref s2), .val (.int i2), .val (.ref b5), .val (.int (((p5.toUInt32 >>> ((1 : Int32) &&& 31).toUInt32).toInt32) &&& (3 : Int32))), .val (.ref b13), .unset] [(.int i2), (.int p3)])) _
                        by_cases hq : p3 = i2
                        · simp only [if_pos hq] at k
                          refine XS.icmpNo X14.here hx rfl (hb hby at_255) rfl (teq hq).2 ?_
                          show Steps p.tables e below (T14.setTop (mkF m 258 #[.val (.int p0), .val (.int p1), .val (.int p2), .val (.int p3), .val (.int p4), .val (.int p5), .val (.int la), .val (.int lb), .val (.int c0), .val (.int c1), .val (.int c2), .val (.int d0), .val (.int d1), .val (.int d2), .val (.ref s1), .val (.ref s2), .val (.int i2), .val (.ref b5), .val (.int (((p5.toUInt32 >>> ((1 : Int32) &&& 31).toUInt32).toInt32) &&& (3 : Int32))), .val (.ref b13), .unset] [])) _
                          refine XS.iconst X14.here hx rfl (hb hby at_258) ?_
                          show Steps p.tables e below (T14.setTop (mkF m 259 #[.val (.int p0), .val (.int p1), .val (.int p2), .val (.int p3), .val (.int p4), .val (.int p5), .val (.int la), .val (.int lb), .val (.int c0), .val (.int c1), .val (.int c2), .val (.int d0), .val (.int d1), .val (.int d2), .val (.ref s1), .val (.ref s2), .val (.int i2), .val (.ref b5), .val (.int (((p5.toUInt32 >>> ((1 : Int32) &&& 31).toUInt32).toInt32) &&& (3 : Int32))), .val (.ref b13), .unset] [(.int (1 : Int32))])) _
                          refine XS.goto X14.here hx rfl (pc0 := 259) (pc' := 263) rfl (hb hby at_259) (by decide) (by decide) ?_
                          show Steps p.tables e below (T14.setTop (mkF m 263 #[.val (.int p0), .val (.int p1), .val (.int p2), .val (.int p3), .val (.int p4), .val (.int p5), .val (.int la), .val (.int lb), .val (.int c0), .val (.int c1), .val (.int c2), .val (.int d0), .val (.int d1), .val (.int d2), .val (.ref s1), .val (.ref s2), .val (.int i2), .val (.ref b5), .val (.int (((p5.toUInt32 >>> ((1 : Int32) &&& 31).toUInt32).toInt32) &&& (3 : Int32))), .val (.ref b13), .unset] [(.int (1 : Int32))])) _
                          exact k
                        · simp only [if_neg hq] at k
                          refine XS.icmpYes X14.here hx rfl (pc0 := 255) (pc' := 262) rfl (hb hby at_255) rfl (feq hq).2 (by decide) (by decide) ?_
                          show Steps p.tables e below (T14.setTop (mkF m 262 #[.val (.int p0), .val (.int p1), .val (.int p2), .val (.int p3), .val (.int p4), .val (.int p5), .val (.int la), .val (.int lb), .val (.int c0), .val (.int c1), .val (.int c2), .val (.int d0), .val (.int d1), .val (.int d2), .val (.ref s1), .val (.ref s2), .val (.int i2), .val (.ref b5), .val (.int (((p5.toUInt32 >>> ((1 : Int32) &&& 31).toUInt32).toInt32) &&& (3 : Int32))), .val (.ref b13), .unset] [])) _
                          refine XS.iconst X14.here hx rfl (hb hby at_262) ?_
                          show Steps p.tables e below (T14.setTop (mkF m 263 #[.val (.int p0), .val (.int p1), .val (.int p2), .val (.int p3), .val (.int p4), .val (.int p5), .val (.int la), .val (.int lb), .val (.int c0), .val (.int c1), .val (.int c2), .val (.int d0), .val (.int d1), .val (.int d2), .val (.ref s1), .val (.ref s2), .val (.int i2), .val (.ref b5), .val (.int (((p5.toUInt32 >>> ((1 : Int32) &&& 31).toUInt32).toInt32) &&& (3 : Int32))), .val (.ref b13), .unset] [(.int (0 : Int32))])) _
                          exact k
                      · simp only [if_neg hq] at k
                        refine XS.icmpYes X14.here hx rfl (pc0 := 249) (pc' := 262) rfl (hb hby at_249) rfl (feq hq).2 (by decide) (by decide) ?_
                        show Steps p.tables e below (T14.setTop (mkF m 262 #[.val (.int p0), .val (.int p1), .val (.int p2), .val (.int p3), .val (.int p4), .val (.int p5), .val (.int la), .val (.int lb), .val (.int c0), .val (.int c1), .val (.int c2), .val (.int d0), .val (.int d1), .val (.int d2), .val (.ref s1), .val (.ref s2), .val (.int i2), .val (.ref b5), .val (.int (((p5.toUInt32 >>> ((1 : Int32) &&& 31).toUInt32).toInt32) &&& (3 : Int32))), .val (.ref b13), .unset] [])) _
                        refine XS.iconst X14.here hx rfl (hb hby at_262) ?_
                        show Steps p.tables e below (T14.setTop (mkF m 263 #[.val (.int p0), .val (.int p1), .val (.int p2), .val (.int p3), .val (.int p4), .val (.int p5), .val (.int la), .val (.int lb), .val (.int c0), .val (.int c1), .val (.int c2), .val (.int d0), .val (.int d1), .val (.int d2), .val (.ref s1), .val (.ref s2), .val (.int i2), .val (.ref b5), .val (.int (((p5.toUInt32 >>> ((1 : Int32) &&& 31).toUInt32).toInt32) &&& (3 : Int32))), .val (.ref b13), .unset] [(.int (0 : Int32))])) _
                        exact k
                  · simp only [if_neg hq] at k
                    refine XS.icmpYes X14.here hx rfl (pc0 := 236) (pc' := 262) rfl (hb hby at_236) rfl (feq hq).2 (by decide) (by decide) ?_
                    show Steps p.tables e below (T14.setTop (mkF m 262 #[.val (.int p0), .val (.int p1), .val (.int p2), .val (.int p3), .val (.int p4), .val (.int p5), .val (.int la), .val (.int lb), .val (.int c0), .val (.int c1), .val (.int c2), .val (.int d0), .val (.int d1), .val (.int d2), .val (.ref s1), .val (.ref s2), .val (.int i2), .val (.ref b5), .val (.int (((p5.toUInt32 >>> ((1 : Int32) &&& 31).toUInt32).toInt32) &&& (3 : Int32))), .val (.ref b13), .unset] [])) _
                    refine XS.iconst X14.here hx rfl (hb hby at_262) ?_
                    show Steps p.tables e below (T14.setTop (mkF m 263 #[.val (.int p0), .val (.int p1), .val (.int p2), .val (.int p3), .val (.int p4), .val (.int p5), .val (.int la), .val (.int lb), .val (.int c0), .val (.int c1), .val (.int c2), .val (.int d0), .val (.int d1), .val (.int d2), .val (.ref s1), .val (.ref s2), .val (.int i2), .val (.ref b5), .val (.int (((p5.toUInt32 >>> ((1 : Int32) &&& 31).toUInt32).toInt32) &&& (3 : Int32))), .val (.ref b13), .unset] [(.int (0 : Int32))])) _
                    exact k
              · simp only [if_neg hq] at k
                refine XS.icmpYes X14.here hx rfl (pc0 := 223) (pc' := 262) rfl (hb hby at_223) rfl (feq hq).2 (by decide) (by decide) ?_
                show Steps p.tables e below (T14.setTop (mkF m 262 #[.val (.int p0), .val (.int p1), .val (.int p2), .val (.int p3), .val (.int p4), .val (.int p5), .val (.int la), .val (.int lb), .val (.int c0), .val (.int c1), .val (.int c2), .val (.int d0), .val (.int d1), .val (.int d2), .val (.ref s1), .val (.ref s2), .val (.int i2), .val (.ref b5), .val (.int (((p5.toUInt32 >>> ((1 : Int32) &&& 31).toUInt32).toInt32) &&& (3 : Int32))), .val (.ref b13), .unset] [])) _
                refine XS.iconst X14.here hx rfl (hb hby at_262) ?_
                show Steps p.tables e below (T14.setTop (mkF m 263 #[.val (.int p0), .val (.int p1), .val (.int p2), .val (.int p3), .val (.int p4), .val (.int p5), .val (.int la), .val (.int lb), .val (.int c0), .val (.int c1), .val (.int c2), .val (.int d0), .val (.int d1), .val (.int d2), .val (.ref s1), .val (.ref s2), .val (.int i2), .val (.ref b5), .val (.int (((p5.toUInt32 >>> ((1 : Int32) &&& 31).toUInt32).toInt32) &&& (3 : Int32))), .val (.ref b13), .unset] [(.int (0 : Int32))])) _
                exact k
          · simp only [if_neg hq] at k
            refine XS.icmpYes X14.here hx rfl (pc0 := 210) (pc' := 262) rfl (hb hby at_210) rfl (feq hq).2 (by decide) (by decide) ?_
            show Steps p.tables e below (T14.setTop (mkF m 262 #[.val (.int p0), .val (.int p1), .val (.int p2), .val (.int p3), .val (.int p4), .val (.int p5), .val (.int la), .val (.int lb), .val (.int c0), .val (.int c1), .val (.int c2), .val (.int d0), .val (.int d1), .val (.int d2), .val (.ref s1), .val (.ref s2), .val (.int i2), .val (.ref b5), .val (.int (((p5.toUInt32 >>> ((1 : Int32) &&& 31).toUInt32).toInt32) &&& (3 : Int32))), .val (.ref b13), .unset] [])) _
            refine XS.iconst X14.here hx rfl (hb hby at_262) ?_
            show Steps p.tables e below (T14.setTop (mkF m 263 #[.val (.int p0), .val (.int p1), .val (.int p2), .val (.int p3), .val (.int p4), .val (.int p5), .val (.int la), .val (.int lb), .val (.int c0), .val (.int c1), .val (.int c2), .val (.int d0), .val (.int d1), .val (.int d2), .val (.ref s1), .val (.ref s2), .val (.int i2), .val (.ref b5), .val (.int (((p5.toUInt32 >>> ((1 : Int32) &&& 31).toUInt32).toInt32) &&& (3 : Int32))), .val (.ref b13), .unset] [(.int (0 : Int32))])) _
            exact k
        refine Goes.to (T' := T14) (mkF m 263 #[.val (.int p0), .val (.int p1), .val (.int p2), .val (.int p3), .val (.int p4), .val (.int p5), .val (.int la), .val (.int lb), .val (.int c0), .val (.int c1), .val (.int c2), .val (.int d0), .val (.int d1), .val (.int d2), .val (.ref s1), .val (.ref s2), .val (.int i2), .val (.ref b5), .val (.int (((p5.toUInt32 >>> ((1 : Int32) &&& 31).toUInt32).toInt32) &&& (3 : Int32))), .val (.ref b13), .unset] [(.int (if la = lb then (if la < (1 : Int32) then (if la < (2 : Int32) then (if la < (3 : Int32) then (if p3 = i2 then (1 : Int32) else (0 : Int32)) else (if c2 = d2 then (if p3 = i2 then (1 : Int32) else (0 : Int32)) else (0 : Int32))) else (if c1 = d1 then (if la < (3 : Int32) then (if p3 = i2 then (1 : Int32) else (0 : Int32)) else (if c2 = d2 then (if p3 = i2 then (1 : Int32) else (0 : Int32)) else (0 : Int32))) else (0 : Int32))) else (if c0 = d0 then (if la < (2 : Int32) then (if la < (3 : Int32) then (if p3 = i2 then (1 : Int32) else (0 : Int32)) else (if c2 = d2 then (if p3 = i2 then (1 : Int32) else (0 : Int32)) else (0 : Int32))) else (if c1 = d1 then (if la < (3 : Int32) then (if p3 = i2 then (1 : Int32) else (0 : Int32)) else (if c2 = d2 then (if p3 = i2 then (1 : Int32) else (0 : Int32)) else (0 : Int32))) else (0 : Int32))) else (0 : Int32))) else (0 : Int32)))]) D210_15 ?_
        obtain ⟨sm, sm_eq⟩ : ∃ z, z = (if la = lb then (if la < (1 : Int32) then (if la < (2 : Int32) then (if la < (3 : Int32) then (if p3 = i2 then (1 : Int32) else (0 : Int32)) else (if c2 = d2 then (if p3 = i2 then (1 : Int32) else (0 : Int32)) else (0 : Int32))) else (if c1 = d1 then (if la < (3 : Int32) then (if p3 = i2 then (1 : Int32) else (0 : Int32)) else (if c2 = d2 then (if p3 = i2 then (1 : Int32) else (0 : Int32)) else (0 : Int32))) else (0 : Int32))) else (if c0 = d0 then (if la < (2 : Int32) then (if la < (3 : Int32) then (if p3 = i2 then (1 : Int32) else (0 : Int32)) else (if c2 = d2 then (if p3 = i2 then (1 : Int32) else (0 : Int32)) else (0 : Int32))) else (if c1 = d1 then (if la < (3 : Int32) then (if p3 = i2 then (1 : Int32) else (0 : Int32)) else (if c2 = d2 then (if p3 = i2 then (1 : Int32) else (0 : Int32)) else (0 : Int32))) else (0 : Int32))) else (0 : Int32))) else (0 : Int32)) := ⟨_, rfl⟩
        rw [← sm_eq]
        refine Goes.to (T' := T14) (mkF m 265 #[.val (.int p0), .val (.int p1), .val (.int p2), .val (.int p3), .val (.int p4), .val (.int p5), .val (.int la), .val (.int lb), .val (.int c0), .val (.int c1), .val (.int c2), .val (.int d0), .val (.int d1), .val (.int d2), .val (.ref s1), .val (.ref s2), .val (.int i2), .val (.ref b5), .val (.int (((p5.toUInt32 >>> ((1 : Int32) &&& 31).toUInt32).toInt32) &&& (3 : Int32))), .val (.ref b13), .val (.int sm)] []) (fun t k => XS.istore X14.here hx rfl (hb hby at_263) rfl (l' := #[.val (.int p0), .val (.int p1), .val (.int p2), .val (.int p3), .val (.int p4), .val (.int p5), .val (.int la), .val (.int lb), .val (.int c0), .val (.int c1), .val (.int c2), .val (.int d0), .val (.int d1), .val (.int d2), .val (.ref s1), .val (.ref s2), .val (.int i2), .val (.ref b5), .val (.int (((p5.toUInt32 >>> ((1 : Int32) &&& 31).toUInt32).toInt32) &&& (3 : Int32))), .val (.ref b13), .val (.int sm)]) rfl k) ?_
        refine Goes.to (T' := T14) (mkF m 267 #[.val (.int p0), .val (.int p1), .val (.int p2), .val (.int p3), .val (.int p4), .val (.int p5), .val (.int la), .val (.int lb), .val (.int c0), .val (.int c1), .val (.int c2), .val (.int d0), .val (.int d1), .val (.int d2), .val (.ref s1), .val (.ref s2), .val (.int i2), .val (.ref b5), .val (.int (((p5.toUInt32 >>> ((1 : Int32) &&& 31).toUInt32).toInt32) &&& (3 : Int32))), .val (.ref b13), .val (.int sm)] [(.ref b5)]) (fun t k => XS.aload X14.here hx rfl (hb hby at_265) rfl rfl k) ?_
        refine Goes.to (T' := T14) (mkF m 269 #[.val (.int p0), .val (.int p1), .val (.int p2), .val (.int p3), .val (.int p4), .val (.int p5), .val (.int la), .val (.int lb), .val (.int c0), .val (.int c1), .val (.int c2), .val (.int d0), .val (.int d1), .val (.int d2), .val (.ref s1), .val (.ref s2), .val (.int i2), .val (.ref b5), .val (.int (((p5.toUInt32 >>> ((1 : Int32) &&& 31).toUInt32).toInt32) &&& (3 : Int32))), .val (.ref b13), .val (.int sm)] [(.ref b13), (.ref b5)]) (fun t k => XS.aload X14.here hx rfl (hb hby at_267) rfl rfl k) ?_
        obtain ⟨cq17, kq17, q17a, q17b, q17c⟩ := isOf hZ rfl E_b5
        obtain ⟨_, _, ⟨T17, L17, k17, n17⟩, -, X17, ⟨Lc17, hQ17, l17, y17, z17⟩, st17⟩ := X14.virtualBack hx (y := (⟨"com/example/lachesis/lachesis/model/RecordId", "equals", "(Ljava/lang/Object;)Z"⟩ : MethodName)) (z := (⟨"com/example/lachesis/lachesis/model/RecordId", "equals", "(Ljava/lang/Object;)Z"⟩ : MethodName)) hown (mvT hZ (hw _ (List.mem_of_getElem? (i := 64) rfl))) (mvT hZ (hw _ (List.mem_of_getElem? (i := 65) rfl))) (notFace_of_selects (args := #[]) (mvT hZ (hw _ (List.mem_of_getElem? (i := 67) rfl)))) (mvT hZ (hw _ (List.mem_of_getElem? (i := 67) rfl))) (mvT hZ (hw _ (List.mem_of_getElem? (i := 66) rfl))) (by decide) (backOf (W := 0) (rm_eqR l Z a0 hw [] b5 b13 s1 t1 s2 t2 k1 k2 m1 m2 p3 i2 cz _ _ _ _ T14.heap n0 O F_activity_b5 F_instance_b5 F_activity_b13 F_instance_b13 E_b13 E_s1 F_value_s1 F_coder_s1 V_t1 hcd1 (own_csb hx0 hx1 hx2) (own_csl2 _ _ _ _) E_s2 F_value_s2 F_coder_s2 V_t2 hcd2 (own_csb hy0 hy1 hy2) (own_csl2 _ _ _ _) S_CS hcz) hZ (hw _ (List.mem_of_getElem? (i := 68) rfl)) (hw _ (List.mem_of_getElem? (i := 28) rfl)) (by decide) (by decide)) q17a q17c (g := (mkF m 269 #[.val (.int p0), .val (.int p1), .val (.int p2), .val (.int p3), .val (.int p4), .val (.int p5), .val (.int la), .val (.int lb), .val (.int c0), .val (.int c1), .val (.int c2), .val (.int d0), .val (.int d1), .val (.int d2), .val (.ref s1), .val (.ref s2), .val (.int i2), .val (.ref b5), .val (.int (((p5.toUInt32 >>> ((1 : Int32) &&& 31).toUInt32).toInt32) &&& (3 : Int32))), .val (.ref b13), .val (.int sm)] [(.ref b13), (.ref b5)])) rfl (by rw [hml]; rfl) (Steps.refl _) (argsL := [(.ref b13)]) (rest := []) (lenOf pd_8 rfl) rfl (by show 2 * 0 + _ ≤ _; exact Nat.le_of_eq rfl) (hb hby at_269) (fun _ _ => ⟨rfl, rfl, (by decide : 18 + 0 ≤ _), (by decide : 110 + 0 ≤ _)⟩)
        dsimp only [Pt.U, Pt.locs, Pt.cells, Pt.slots] at X17 l17 y17 z17 st17 hQ17
        subst l17 y17 z17
        obtain ⟨rfl, N17, hs17⟩ := hQ17
        have N17' := Fr.app N14' N17
        refine Goes.to (T' := T17) (mkF m 272 #[.val (.int p0), .val (.int p1), .val (.int p2), .val (.int p3), .val (.int p4), .val (.int p5), .val (.int la), .val (.int lb), .val (.int c0), .val (.int c1), .val (.int c2), .val (.int d0), .val (.int d1), .val (.int d2), .val (.ref s1), .val (.ref s2), .val (.int i2), .val (.ref b5), .val (.int (((p5.toUInt32 >>> ((1 : Int32) &&& 31).toUInt32).toInt32) &&& (3 : Int32))), .val (.ref b13), .val (.int sm)] [(.int (bit (own_cs lb d0 d1 d2 = own_cs la c0 c1 c2 ∧ i2 = p3)))]) (fun t k => st17.trans k) ?_
        refine Goes.to (T' := T17) (mkF m 274 #[.val (.int p0), .val (.int p1), .val (.int p2), .val (.int p3), .val (.int p4), .val (.int p5), .val (.int la), .val (.int lb), .val (.int c0), .val (.int c1), .val (.int c2), .val (.int d0), .val (.int d1), .val (.int d2), .val (.ref s1), .val (.ref s2), .val (.int i2), .val (.ref b5), .val (.int (((p5.toUInt32 >>> ((1 : Int32) &&& 31).toUInt32).toInt32) &&& (3 : Int32))), .val (.ref b13), .val (.int sm)] [(.int sm), (.int (bit (own_cs lb d0 d1 d2 = own_cs la c0 c1 c2 ∧ i2 = p3)))]) (fun t k => XS.iload X17.here hx rfl (hb hby at_272) rfl k) ?_
        refine Goes.to (T' := T17) (mkF m 277 #[.val (.int p0), .val (.int p1), .val (.int p2), .val (.int p3), .val (.int p4), .val (.int p5), .val (.int la), .val (.int lb), .val (.int c0), .val (.int c1), .val (.int c2), .val (.int d0), .val (.int d1), .val (.int d2), .val (.ref s1), .val (.ref s2), .val (.int i2), .val (.ref b5), .val (.int (((p5.toUInt32 >>> ((1 : Int32) &&& 31).toUInt32).toInt32) &&& (3 : Int32))), .val (.ref b13), .val (.int sm)] []) (fun t k => XS.icmpNo X17.here hx rfl (hb hby at_274) rfl (teq (own_bsm (own_same hla hlb sm_eq) ⟨fun q => ⟨q.1.symm, q.2.symm⟩, fun q => ⟨q.1.symm, q.2.symm⟩⟩ : (bit (own_cs lb d0 d1 d2 = own_cs la c0 c1 c2 ∧ i2 = p3)) = sm)).2 k) ?_
        refine Goes.to (T' := T17) (mkF m 279 #[.val (.int p0), .val (.int p1), .val (.int p2), .val (.int p3), .val (.int p4), .val (.int p5), .val (.int la), .val (.int lb), .val (.int c0), .val (.int c1), .val (.int c2), .val (.int d0), .val (.int d1), .val (.int d2), .val (.ref s1), .val (.ref s2), .val (.int i2), .val (.ref b5), .val (.int (((p5.toUInt32 >>> ((1 : Int32) &&& 31).toUInt32).toInt32) &&& (3 : Int32))), .val (.ref b13), .val (.int sm)] [(.ref b13)]) (fun t k => XS.aload X17.here hx rfl (hb hby at_277) rfl rfl k) ?_
        refine Goes.to (T' := T17) (mkF m 281 #[.val (.int p0), .val (.int p1), .val (.int p2), .val (.int p3), .val (.int p4), .val (.int p5), .val (.int la), .val (.int lb), .val (.int c0), .val (.int c1), .val (.int c2), .val (.int d0), .val (.int d1), .val (.int d2), .val (.ref s1), .val (.ref s2), .val (.int i2), .val (.ref b5), .val (.int (((p5.toUInt32 >>> ((1 : Int32) &&& 31).toUInt32).toInt32) &&& (3 : Int32))), .val (.ref b13), .val (.int sm)] [(.ref b5), (.ref b13)]) (fun t k => XS.aload X17.here hx rfl (hb hby at_279) rfl rfl k) ?_
        obtain ⟨cq18, kq18, q18a, q18b, q18c⟩ := isOf hZ hs17 E_b13
        obtain ⟨_, _, ⟨T18, L18, k18, n18⟩, -, X18, ⟨Lc18, hQ18, l18, y18, z18⟩, st18⟩ := X17.virtualBack hx (y := (⟨"com/example/lachesis/lachesis/model/RecordId", "equals", "(Ljava/lang/Object;)Z"⟩ : MethodName)) (z := (⟨"com/example/lachesis/lachesis/model/RecordId", "equals", "(Ljava/lang/Object;)Z"⟩ : MethodName)) hown (mvT hZ (hw _ (List.mem_of_getElem? (i := 64) rfl))) (mvT hZ (hw _ (List.mem_of_getElem? (i := 65) rfl))) (notFace_of_selects (args := #[]) (mvT hZ (hw _ (List.mem_of_getElem? (i := 67) rfl)))) (mvT hZ (hw _ (List.mem_of_getElem? (i := 67) rfl))) (mvT hZ (hw _ (List.mem_of_getElem? (i := 66) rfl))) (by decide) (backOf (W := 0) (rm_eqR l Z a0 hw [] b13 b5 s2 t2 s1 t1 k2 k1 m2 m1 i2 p3 cz _ _ _ _ T14.heap n0 O F_activity_b13 F_instance_b13 F_activity_b5 F_instance_b5 E_b5 E_s2 F_value_s2 F_coder_s2 V_t2 hcd2 (own_csb hy0 hy1 hy2) (own_csl2 _ _ _ _) E_s1 F_value_s1 F_coder_s1 V_t1 hcd1 (own_csb hx0 hx1 hx2) (own_csl2 _ _ _ _) S_CS hcz) hZ (hw _ (List.mem_of_getElem? (i := 68) rfl)) (hw _ (List.mem_of_getElem? (i := 28) rfl)) (by decide) (by decide)) q18a q18c (g := (mkF m 281 #[.val (.int p0), .val (.int p1), .val (.int p2), .val (.int p3), .val (.int p4), .val (.int p5), .val (.int la), .val (.int lb), .val (.int c0), .val (.int c1), .val (.int c2), .val (.int d0), .val (.int d1), .val (.int d2), .val (.ref s1), .val (.ref s2), .val (.int i2), .val (.ref b5), .val (.int (((p5.toUInt32 >>> ((1 : Int32) &&& 31).toUInt32).toInt32) &&& (3 : Int32))), .val (.ref b13), .val (.int sm)] [(.ref b5), (.ref b13)])) rfl (by rw [hml]; rfl) (Steps.refl _) (argsL := [(.ref b5)]) (rest := []) (lenOf pd_8 rfl) rfl (by show 2 * 0 + _ ≤ _; exact Nat.le_of_eq rfl) (hb hby at_281) (fun _ _ => ⟨rfl, hs17, (by decide : 18 + 0 ≤ _), (by decide : 110 + 0 ≤ _)⟩)
        dsimp only [Pt.U, Pt.locs, Pt.cells, Pt.slots] at X18 l18 y18 z18 st18 hQ18
        subst l18 y18 z18
        obtain ⟨rfl, N18, hs18⟩ := hQ18
        have N18' := Fr.app N17' N18
        refine Goes.to (T' := T18) (mkF m 284 #[.val (.int p0), .val (.int p1), .val (.int p2), .val (.int p3), .val (.int p4), .val (.int p5), .val (.int la), .val (.int lb), .val (.int c0), .val (.int c1), .val (.int c2), .val (.int d0), .val (.int d1), .val (.int d2), .val (.ref s1), .val (.ref s2), .val (.int i2), .val (.ref b5), .val (.int (((p5.toUInt32 >>> ((1 : Int32) &&& 31).toUInt32).toInt32) &&& (3 : Int32))), .val (.ref b13), .val (.int sm)] [(.int (bit (own_cs la c0 c1 c2 = own_cs lb d0 d1 d2 ∧ p3 = i2)))]) (fun t k => st18.trans k) ?_
        refine Goes.to (T' := T18) (mkF m 286 #[.val (.int p0), .val (.int p1), .val (.int p2), .val (.int p3), .val (.int p4), .val (.int p5), .val (.int la), .val (.int lb), .val (.int c0), .val (.int c1), .val (.int c2), .val (.int d0), .val (.int d1), .val (.int d2), .val (.ref s1), .val (.ref s2), .val (.int i2), .val (.ref b5), .val (.int (((p5.toUInt32 >>> ((1 : Int32) &&& 31).toUInt32).toInt32) &&& (3 : Int32))), .val (.ref b13), .val (.int sm)] [(.int sm), (.int (bit (own_cs la c0 c1 c2 = own_cs lb d0 d1 d2 ∧ p3 = i2)))]) (fun t k => XS.iload X18.here hx rfl (hb hby at_284) rfl k) ?_
        refine Goes.to (T' := T18) (mkF m 289 #[.val (.int p0), .val (.int p1), .val (.int p2), .val (.int p3), .val (.int p4), .val (.int p5), .val (.int la), .val (.int lb), .val (.int c0), .val (.int c1), .val (.int c2), .val (.int d0), .val (.int d1), .val (.int d2), .val (.ref s1), .val (.ref s2), .val (.int i2), .val (.ref b5), .val (.int (((p5.toUInt32 >>> ((1 : Int32) &&& 31).toUInt32).toInt32) &&& (3 : Int32))), .val (.ref b13), .val (.int sm)] []) (fun t k => XS.icmpNo X18.here hx rfl (hb hby at_286) rfl (teq (own_bsm (own_same hla hlb sm_eq) Iff.rfl : (bit (own_cs la c0 c1 c2 = own_cs lb d0 d1 d2 ∧ p3 = i2)) = sm)).2 k) ?_
        refine Goes.to (T' := T18) (mkF m 290 #[.val (.int p0), .val (.int p1), .val (.int p2), .val (.int p3), .val (.int p4), .val (.int p5), .val (.int la), .val (.int lb), .val (.int c0), .val (.int c1), .val (.int c2), .val (.int d0), .val (.int d1), .val (.int d2), .val (.ref s1), .val (.ref s2), .val (.int i2), .val (.ref b5), .val (.int (((p5.toUInt32 >>> ((1 : Int32) &&& 31).toUInt32).toInt32) &&& (3 : Int32))), .val (.ref b13), .val (.int sm)] [(.int (1 : Int32))]) (fun t k => XS.iconst X18.here hx rfl (hb hby at_289) k) ?_
        refine Goes.to (T' := T18) (mkF m 294 #[.val (.int p0), .val (.int p1), .val (.int p2), .val (.int p3), .val (.int p4), .val (.int p5), .val (.int la), .val (.int lb), .val (.int c0), .val (.int c1), .val (.int c2), .val (.int d0), .val (.int d1), .val (.int d2), .val (.ref s1), .val (.ref s2), .val (.int i2), .val (.ref b5), .val (.int (((p5.toUInt32 >>> ((1 : Int32) &&& 31).toUInt32).toInt32) &&& (3 : Int32))), .val (.ref b13), .val (.int sm)] [(.int (1 : Int32))]) (fun t k => XS.goto X18.here hx rfl (pc0 := 290) (pc' := 294) rfl (hb hby at_290) (by decide) (by decide) k) ?_
        refine Goes.retNW X18 hx Bd.notSynchronized hS0 (by rw [hs18]; exact hk0) (t := .boolean) Bd.returns (by simp) (hb hby at_294) (by decide) (by decide) ?_
        rw [hs18]
        exact ⟨rfl, N18'⟩
set_option maxRecDepth 65536 in
set_option maxHeartbeats 40000000 in
theorem comes_1 {Post : Tables → Env → Array Value → State → Outcome → State → Prop} (hpost : ∀ tb e args s v u, (limb_1_1.after args s (.returned v) u = true ∧ limb_1_2.after args s (.returned v) u = true ∧ True) → ReturnedEndW s (.returned v) u (Jvm.fieldLocs frame_1_writes args s ++ Jvm.arrayLocs frame_1_arrays args s ++ Jvm.staticLocs frame_1_statics s) 32 2176 → Post tb e args s (.returned v) u) :
    ArmFor flags0 classFile x code maxLocals ret World_1 tables_1 room_1 Calls_1 rest_1 Pre_1 Post := by
  intro l hfl _ _ p e ha hc hk s m args below hf hA hF happ hP
  obtain ⟨hcalls, hrest, hpre⟩ := hP
  obtain ⟨-, -, -, hnamed, -, -, -, hat⟩ := (Spec.applies_iff hf).mp happ
  obtain ⟨hg, hn⟩ := and_e (Cond.before_iff.mp (show (Jvm.Cond.and given_1 narrow_1).before args s = true from hpre))
  obtain ⟨gg0, gr0⟩ := and_e hg
  obtain ⟨gg1, gr1⟩ := and_e gr0
  obtain ⟨gg2, gr2⟩ := and_e gr1
  obtain ⟨gg3, gr3⟩ := and_e gr2
  obtain ⟨gg4, gr4⟩ := and_e gr3
  obtain ⟨gg5, gr5⟩ := and_e gr4
  have gg6 := gr5
  obtain ⟨w0, w1, w2, w3, w4, w5, rfl⟩ : ∃ w0 w1 w2 w3 w4 w5 : Value, args = #[w0, w1, w2, w3, w4, w5] := by
    have hs : args.size = 6 := by simpa [Cond.value, given_1] using gg0
    obtain ⟨L⟩ := args
    match L, hs with
    | [w0, w1, w2, w3, w4, w5], _ => exact ⟨w0, w1, w2, w3, w4, w5, rfl⟩
  have hw := fun d (hd : d ∈ tables_1) => atoms_spec (ws := Jvm.Cond.code x code maxLocals ret :: tables_1) hat d (List.mem_cons_of_mem _ hd)
  have hfit : Fit s := fun {y c} hc i hi => by
    obtain ⟨ha, rfl⟩ := Array.getElem?_eq_some_iff.mp hc
    have q := List.all_eq_true.mp ((Array.all_eq_true_iff_forall_mem.mp hF) _ (Array.getElem_mem ha)) i (List.mem_range.mpr hi)
    simpa [Array.getElem?_eq_getElem hi] using q
  obtain ⟨hsets, hown0⟩ := atoms_of _ (rest_1_c_eq ▸ (show rest_1_c.before _ s = true from hrest))
  have hr0 := Cond.before_iff.mp hown0
  obtain ⟨i0, ei0⟩ := is_v gg1
  obtain rfl : w0 = (.int i0) := Option.some.inj ei0
  obtain ⟨i1, ei1⟩ := is_v gg2
  obtain rfl : w1 = (.int i1) := Option.some.inj ei1
  obtain ⟨i2, ei2⟩ := is_v gg3
  obtain rfl : w2 = (.int i2) := Option.some.inj ei2
  obtain ⟨i3, ei3⟩ := is_v gg4
  obtain rfl : w3 = (.int i3) := Option.some.inj ei3
  obtain ⟨i4, ei4⟩ := is_v gg5
  obtain rfl : w4 = (.int i4) := Option.some.inj ei4
  obtain ⟨i5, ei5⟩ := is_v gg6
  obtain rfl : w5 = (.int i5) := Option.some.inj ei5
  obtain ⟨hcs, -⟩ := hcalls
  obtain ⟨cz, ecz⟩ := is_v (Cond.before_iff.mp (hsets _ (List.mem_of_getElem? (i := 1) rfl)))
  have S_CS : Sta s s.heap "java/lang/String" "COMPACT_STRINGS" "Z" (.int cz) := Sta.start ecz (Or.inl (hsets _ (List.mem_of_getElem? (i := 0) rfl)))
  have hcz : ¬ cz = 0 := fun q => by
    have h1 := not_v (Cond.before_iff.mp (hsets _ (List.mem_of_getElem? (i := 2) rfl)))
    simp only [Cond.value, ecz, Term.int_eval] at h1
    simp [q] at h1
  have hCH : CHv s consts_1 s.vm s.heap := CHv.start (own_EW hw) (fun p hp => hcs p hp) (hsets _ (List.mem_of_getElem? (i := 2) rfl)) (hw _ (List.mem_of_getElem? (i := 19) rfl)) (hw _ (List.mem_of_getElem? (i := 5) rfl))
  obtain ⟨n, o, h1, h2, h3, _, L, rfl, ⟨rfl, N⟩, hq⟩ := rm_law l s _ hw tables_1 i0 i1 i2 i3 i4 i5 cz s.heap s.heap.size (Old.start s) S_CS hcz p e ha hc hk s m _ below hf ((Spec.applies_iff_loose hf).mp happ).1 ⟨rfl, State.Warmed39.refl s, rfl, hCH⟩ trivial
  refine ⟨n, _, h1, h2, h3, hpost _ _ _ _ _ _ ⟨Cond.after_iff.mpr rfl, Cond.after_iff.mpr (eq_i res_at (Term.int_eval (1)) rfl), trivial⟩ ⟨hq.1, hq.2.1, hq.2.2.1, (hq.2.2.2.sift fun y hy => Or.inr (N y hy)).mono (by decide) (by decide)⟩⟩
theorem main_1_1 : Claimed_1_1 := comes_1 fun _ _ _ _ _ _ h hF => ⟨h.1, hF⟩
theorem main_1_2 : Claimed_1_2 := comes_1 fun _ _ _ _ _ _ h hF => ⟨h.2.1, hF⟩

end Jvm.Pilot.@@N@@
namespace Jvm.Pilot.@@N@@
open Jvm Jvm.ClassFile Sem Op Lib Jvm.Free Jvm.Stand Jvm.Pilot.@@N@@.Jvm.D
/-! MADE BY PROGRAM (witnessworld.py) out of the Statement's table words and the real class files: 21 classes; the members and pool entries that the words name. The judged class is class 1, her method 2. -/
namespace start1
open Jvm.ClassFile
def u (s : String) : CpInfo := .utf8 (stringToUtf16 s)
/-- a pool by its gaps: so many unusable entries, then the entry; so many at the end -/
def gap : Nat → List CpInfo → List CpInfo
  | 0, r => r
  | n + 1, r => .unusable :: gap n r
def poolList (es : List (Nat × CpInfo)) (last : Nat) : List CpInfo := es.foldr (fun e r => gap e.1 (e.2 :: r)) (gap last [])
def pool (es : List (Nat × CpInfo)) (last : Nat) : Array CpInfo := ⟨poolList es last⟩
def fileOf (pool : Array CpInfo) (this : Nat) (attrs : Array Attribute := #[]) (ms : Array MethodInfo := #[]) (fl : Nat := 33) (sup : Nat := 0) (ifs : Array Nat := #[]) (fds : Array FieldInfo := #[]) : ClassFile where
  minorVersion := 0
  majorVersion := 65
  constantPool := pool
  accessFlags := fl
  thisClass := this
  superClass := sup
  interfaces := ifs
  fields := fds
  methods := ms
  attributes := attrs
def plain (name : String) (sup : Option ClassId) : Class where
  name := name
  kind := .ordinary
  loader := none
  accessFlags := 33
  super := sup
  interfaces := #[]
  cf := none
  fields := #[]
  methods := #[]
  instanceTypes := #[]
  staticTypes := #[]
  resolved := #[]
  callSites := []
  init := .initialized
  statics := none
  mirror := none

def pool0 : Array CpInfo := pool [(5, u "<init>"), (0, u "()V"), (1, .class_ 10), (1, u "java/lang/Object")] 113

def k0c0 : Code := { maxStack := 0, maxLocals := 1, code := object_method_1_code, exceptionTable := #[], attributes := #[] }
def k0m0 : Method := { name := "<init>", desc := "()V", sig := { parameters := [], returnType := none }, accessFlags := 1, code := some k0c0 }
/-- java/lang/Object -/
def k0 : Class := { plain "java/lang/Object" none with
  accessFlags := 33
  interfaces := #[]
  cf := some (fileOf pool0 8 #[] #[{ accessFlags := 1, nameIndex := 5, descriptorIndex := 6, attributes := #[] }] 33 0 #[] #[])
  fields := #[]
  methods := #[k0m0]
  instanceTypes := #[]
  staticTypes := #[]
  resolved := Array.replicate 124 none
  statics := none }

def pool1 : Array CpInfo := pool [(2, .class_ 4), (1, u "java/lang/Object"), (0, u "<init>"), (0, u "()V"), (0, .class_ 8), (0, u "java/lang/String"), (0, .methodref 7 10), (0, .nameAndType 5 11), (0, u "([C)V"), (0, .methodref 13 14), (0, .class_ 15), (0, .nameAndType 16 17), (0, u "com/example/lachesis/lachesis/model/RecordIdEqualsPinLaw"), (0, u "mk"), (0, u "(IIII)Ljava/lang/String;"), (0, .class_ 19), (0, u "com/example/lachesis/lachesis/model/RecordId"), (0, .methodref 18 21), (0, .nameAndType 5 22), (0, u "(Ljava/lang/String;I)V"), (0, .methodref 18 24), (0, .nameAndType 25 26), (0, u "equals"), (0, u "(Ljava/lang/Object;)Z"), (3, u "law"), (0, u "(IIIIII)Z")] 2

def k1m0 : Method := { name := "<init>", desc := "()V", sig := { parameters := [], returnType := none }, accessFlags := 1, code := none }
def k1c1 : Code := { maxStack := 6, maxLocals := 4, code := method_2_code, exceptionTable := #[], attributes := #[] }
def k1m1 : Method := { name := "mk", desc := "(IIII)Ljava/lang/String;", sig := { parameters := [.int, .int, .int, .int], returnType := some (.object "java/lang/String") }, accessFlags := 10, code := some k1c1 }
def k1c2 : Code := { maxStack := 4, maxLocals := 21, code := code, exceptionTable := #[], attributes := #[] }
def k1m2 : Method := { name := "law", desc := "(IIIIII)Z", sig := { parameters := [.int, .int, .int, .int, .int, .int], returnType := some .boolean }, accessFlags := 9, code := some k1c2 }
/-- com/example/lachesis/lachesis/model/RecordIdEqualsPinLaw -/
def k1 : Class := { plain "com/example/lachesis/lachesis/model/RecordIdEqualsPinLaw" (some 0) with
  accessFlags := 49
  interfaces := #[]
  cf := some (fileOf pool1 13 #[] #[{ accessFlags := 1, nameIndex := 5, descriptorIndex := 6, attributes := #[] }, { accessFlags := 10, nameIndex := 16, descriptorIndex := 17, attributes := #[] }, { accessFlags := 9, nameIndex := 30, descriptorIndex := 31, attributes := #[] }] 49 2 #[] #[])
  fields := #[]
  methods := #[k1m0, k1m1, k1m2]
  instanceTypes := #[]
  staticTypes := #[]
  resolved := Array.replicate 34 none
  statics := none }

def pool2 : Array CpInfo := pool [(1, .class_ 2), (0, u "java/io/Serializable"), (0, .class_ 4), (0, u "java/lang/Object")] 2

/-- java/io/Serializable -/
def k2 : Class := { plain "java/io/Serializable" (some 0) with
  accessFlags := 1537
  interfaces := #[]
  cf := some (fileOf pool2 1 #[] #[] 1537 3 #[] #[])
  fields := #[]
  methods := #[]
  instanceTypes := #[]
  staticTypes := #[]
  resolved := Array.replicate 7 none
  statics := none }

def pool3 : Array CpInfo := pool [(1, .class_ 2), (0, u "java/lang/Comparable"), (0, .class_ 4), (0, u "java/lang/Object")] 7

/-- java/lang/Comparable -/
def k3 : Class := { plain "java/lang/Comparable" (some 0) with
  accessFlags := 1537
  interfaces := #[]
  cf := some (fileOf pool3 1 #[] #[] 1537 3 #[] #[])
  fields := #[]
  methods := #[]
  instanceTypes := #[]
  staticTypes := #[]
  resolved := Array.replicate 12 none
  statics := none }

def pool4 : Array CpInfo := pool [(2, .class_ 4), (1, u "java/lang/CharSequence"), (42, .class_ 48), (0, u "java/lang/CharSequence$1CodePointIterator"), (10, .class_ 60), (0, u "java/lang/CharSequence$1CharIterator"), (5, .class_ 67), (0, u "java/lang/Object")] 63

/-- java/lang/CharSequence -/
def k4 : Class := { plain "java/lang/CharSequence" (some 0) with
  accessFlags := 1537
  interfaces := #[]
  cf := some (fileOf pool4 2 #[.nestMembers #[47, 59]] #[] 1537 66 #[] #[])
  fields := #[]
  methods := #[]
  instanceTypes := #[]
  staticTypes := #[]
  resolved := Array.replicate 131 none
  statics := none }

def pool5 : Array CpInfo := pool [(1, .class_ 2), (0, u "java/lang/constant/Constable"), (0, .class_ 4), (0, u "java/lang/Object")] 6

/-- java/lang/constant/Constable -/
def k5 : Class := { plain "java/lang/constant/Constable" (some 0) with
  accessFlags := 1537
  interfaces := #[]
  cf := some (fileOf pool5 1 #[] #[] 1537 3 #[] #[])
  fields := #[]
  methods := #[]
  instanceTypes := #[]
  staticTypes := #[]
  resolved := Array.replicate 11 none
  statics := none }

def pool6 : Array CpInfo := pool [(1, .class_ 2), (0, u "java/lang/constant/ConstantDesc"), (0, .class_ 4), (0, u "java/lang/Object")] 32

/-- java/lang/constant/ConstantDesc -/
def k6 : Class := { plain "java/lang/constant/ConstantDesc" (some 0) with
  accessFlags := 1537
  interfaces := #[]
  cf := some (fileOf pool6 1 #[] #[] 1537 3 #[] #[])
  fields := #[]
  methods := #[]
  instanceTypes := #[]
  staticTypes := #[]
  resolved := Array.replicate 37 none
  statics := none }

def pool7 : Array CpInfo := pool [(1, .methodref 2 3), (0, .class_ 4), (0, .nameAndType 5 6), (0, u "java/lang/Object"), (0, u "<init>"), (0, u "()V"), (0, .string 8), (0, u ""), (0, .fieldref 10 11), (0, .class_ 12), (0, .nameAndType 13 14), (0, u "java/lang/String"), (0, u "value"), (0, u "[B"), (0, .fieldref 10 16), (0, .nameAndType 17 18), (0, u "coder"), (0, u "B"), (0, .fieldref 10 20), (0, .nameAndType 21 22), (0, u "hash"), (0, u "I"), (0, .fieldref 10 24), (0, .nameAndType 25 26), (0, u "hashIsZero"), (0, u "Z"), (0, .methodref 10 28), (0, .nameAndType 5 29), (0, u "([CIILjava/lang/Void;)V"), (8, .fieldref 10 39), (0, .nameAndType 40 26), (0, u "COMPACT_STRINGS"), (1, .class_ 44), (1, u "java/lang/StringUTF16"), (0, u "compress"), (1, .methodref 42 48), (0, .nameAndType 49 50), (0, u "coderFromArrayLen"), (0, u "([BI)B"), (56, .class_ 109), (1, u "java/lang/StringLatin1"), (32, u "()Z"), (34, .methodref 42 178), (0, .nameAndType 45 179), (0, u "([CII)[B"), (154, u "()I"), (157, .methodref 10 493), (0, .nameAndType 494 142), (0, u "isLatin1"), (46, .methodref 107 542), (0, .nameAndType 543 544), (0, u "equals"), (0, u "([B[B)Z"), (28, u "(Ljava/lang/Object;)Z"), (1, .class_ 576), (0, u "java/lang/CharSequence"), (22, u "CASE_INSENSITIVE_ORDER"), (0, u "Ljava/util/Comparator;"), (27, .methodref 107 629), (0, .nameAndType 630 631), (0, u "hashCode"), (0, u "([B)I"), (378, u "([C)V"), (90, u "serialPersistentFields"), (0, u "[Ljava/io/ObjectStreamField;"), (0, .class_ 1104), (0, u "java/lang/String$CaseInsensitiveComparator"), (1, .class_ 1107), (0, u "java/io/Serializable"), (0, .class_ 1109), (0, u "java/lang/Comparable"), (0, .class_ 1111), (0, u "java/lang/constant/Constable"), (0, .class_ 1113), (0, u "java/lang/constant/ConstantDesc"), (2, u "serialVersionUID"), (0, u "J"), (3, u "REPL"), (0, u "C"), (2, u "LATIN1"), (1, u "UTF16")] 323

def k7m0 : Method := { name := "<init>", desc := "()V", sig := { parameters := [], returnType := none }, accessFlags := 1, code := none }
def k7c1 : Code := { maxStack := 5, maxLocals := 2, code := jdk_42_method_3_code, exceptionTable := #[], attributes := #[] }
def k7m1 : Method := { name := "<init>", desc := "([C)V", sig := { parameters := [(.array .char)], returnType := none }, accessFlags := 1, code := some k7c1 }
def k7c2 : Code := { maxStack := 2, maxLocals := 3, code := jdk_42_method_66_code, exceptionTable := #[], attributes := #[] }
def k7m2 : Method := { name := "equals", desc := "(Ljava/lang/Object;)Z", sig := { parameters := [(.object "java/lang/Object")], returnType := some .boolean }, accessFlags := 1, code := some k7c2 }
def k7c3 : Code := { maxStack := 2, maxLocals := 2, code := jdk_42_method_78_code, exceptionTable := #[], attributes := #[] }
def k7m3 : Method := { name := "hashCode", desc := "()I", sig := { parameters := [], returnType := some .int }, accessFlags := 1, code := some k7c3 }
def k7c4 : Code := { maxStack := 4, maxLocals := 6, code := jdk_42_method_149_code, exceptionTable := #[], attributes := #[] }
def k7m4 : Method := { name := "<init>", desc := "([CIILjava/lang/Void;)V", sig := { parameters := [(.array .char), .int, .int, (.object "java/lang/Void")], returnType := none }, accessFlags := 2, code := some k7c4 }
def k7c5 : Code := { maxStack := 1, maxLocals := 1, code := jdk_42_method_154_code, exceptionTable := #[], attributes := #[] }
def k7m5 : Method := { name := "isLatin1", desc := "()Z", sig := { parameters := [], returnType := some .boolean }, accessFlags := 0, code := some k7c5 }
/-- java/lang/String -/
def k7 : Class := { plain "java/lang/String" (some 0) with
  accessFlags := 49
  interfaces := #[2, 3, 4, 5, 6]
  cf := some (fileOf pool7 10 #[.nestMembers #[1103]] #[{ accessFlags := 1, nameIndex := 5, descriptorIndex := 6, attributes := #[] }, { accessFlags := 1, nameIndex := 5, descriptorIndex := 1010, attributes := #[] }, { accessFlags := 1, nameIndex := 543, descriptorIndex := 573, attributes := #[] }, { accessFlags := 1, nameIndex := 630, descriptorIndex := 334, attributes := #[] }, { accessFlags := 2, nameIndex := 5, descriptorIndex := 29, attributes := #[] }, { accessFlags := 0, nameIndex := 494, descriptorIndex := 142, attributes := #[] }] 49 2 #[1106, 1108, 575, 1110, 1112] #[{ accessFlags := 18, nameIndex := 13, descriptorIndex := 14, attributes := #[] }, { accessFlags := 18, nameIndex := 17, descriptorIndex := 18, attributes := #[] }, { accessFlags := 2, nameIndex := 21, descriptorIndex := 22, attributes := #[] }, { accessFlags := 2, nameIndex := 25, descriptorIndex := 26, attributes := #[] }, { accessFlags := 26, nameIndex := 1116, descriptorIndex := 1117, attributes := #[] }, { accessFlags := 24, nameIndex := 40, descriptorIndex := 26, attributes := #[] }, { accessFlags := 26, nameIndex := 1101, descriptorIndex := 1102, attributes := #[] }, { accessFlags := 26, nameIndex := 1121, descriptorIndex := 1122, attributes := #[] }, { accessFlags := 25, nameIndex := 599, descriptorIndex := 600, attributes := #[] }, { accessFlags := 24, nameIndex := 1125, descriptorIndex := 18, attributes := #[] }, { accessFlags := 24, nameIndex := 1127, descriptorIndex := 18, attributes := #[] }])
  fields := #[{ name := "value", type := (.array .byte), accessFlags := 18, slot := 0, constantValue := 0 }, { name := "coder", type := .byte, accessFlags := 18, slot := 1, constantValue := 0 }, { name := "hash", type := .int, accessFlags := 2, slot := 2, constantValue := 0 }, { name := "hashIsZero", type := .boolean, accessFlags := 2, slot := 3, constantValue := 0 }, { name := "serialVersionUID", type := .long, accessFlags := 26, slot := 0, constantValue := 0 }, { name := "COMPACT_STRINGS", type := .boolean, accessFlags := 24, slot := 1, constantValue := 0 }, { name := "serialPersistentFields", type := (.array (.object "java/io/ObjectStreamField")), accessFlags := 26, slot := 2, constantValue := 0 }, { name := "REPL", type := .char, accessFlags := 26, slot := 3, constantValue := 0 }, { name := "CASE_INSENSITIVE_ORDER", type := (.object "java/util/Comparator"), accessFlags := 25, slot := 4, constantValue := 0 }, { name := "LATIN1", type := .byte, accessFlags := 24, slot := 5, constantValue := 0 }, { name := "UTF16", type := .byte, accessFlags := 24, slot := 6, constantValue := 0 }]
  methods := #[k7m0, k7m1, k7m2, k7m3, k7m4, k7m5]
  instanceTypes := #[(.array .byte), .byte, .int, .boolean]
  staticTypes := #[.long, .boolean, (.array (.object "java/io/ObjectStreamField")), .char, (.object "java/util/Comparator"), .byte, .byte]
  resolved := Array.replicate 1451 none
  statics := some 0 }

def pool8 : Array CpInfo := pool [(1, .methodref 2 3), (0, .class_ 4), (0, .nameAndType 5 6), (0, u "java/lang/Object"), (0, u "<init>"), (0, u "()V"), (0, .string 8), (0, u "activity"), (0, .methodref 10 11), (0, .class_ 12), (0, .nameAndType 13 14), (0, u "java/util/Objects"), (0, u "requireNonNull"), (0, u "(Ljava/lang/Object;Ljava/lang/String;)Ljava/lang/Object;"), (0, .class_ 16), (0, u "java/lang/String"), (0, .fieldref 18 19), (0, .class_ 20), (0, .nameAndType 8 21), (0, u "com/example/lachesis/lachesis/model/RecordId"), (0, u "Ljava/lang/String;"), (0, .fieldref 18 23), (0, .nameAndType 24 25), (0, u "instance"), (0, u "I"), (0, .methodref 15 27), (0, .nameAndType 28 29), (0, u "hashCode"), (0, u "()I"), (0, .fieldref 18 31), (0, .nameAndType 32 25), (0, u "hash"), (0, .methodref 15 34), (0, .nameAndType 35 36), (0, u "equals"), (0, u "(Ljava/lang/Object;)Z"), (4, u "(Ljava/lang/String;I)V")] 22

def k8c0 : Code := { maxStack := 3, maxLocals := 3, code := prog_53_method_1_code, exceptionTable := #[], attributes := #[] }
def k8m0 : Method := { name := "<init>", desc := "(Ljava/lang/String;I)V", sig := { parameters := [(.object "java/lang/String"), .int], returnType := none }, accessFlags := 1, code := some k8c0 }
def k8c1 : Code := { maxStack := 2, maxLocals := 3, code := prog_53_method_4_code, exceptionTable := #[], attributes := #[] }
def k8m1 : Method := { name := "equals", desc := "(Ljava/lang/Object;)Z", sig := { parameters := [(.object "java/lang/Object")], returnType := some .boolean }, accessFlags := 1, code := some k8c1 }
/-- com/example/lachesis/lachesis/model/RecordId -/
def k8 : Class := { plain "com/example/lachesis/lachesis/model/RecordId" (some 0) with
  accessFlags := 49
  interfaces := #[]
  cf := some (fileOf pool8 18 #[] #[{ accessFlags := 1, nameIndex := 5, descriptorIndex := 41, attributes := #[] }, { accessFlags := 1, nameIndex := 35, descriptorIndex := 36, attributes := #[] }] 49 2 #[] #[{ accessFlags := 18, nameIndex := 8, descriptorIndex := 21, attributes := #[] }, { accessFlags := 18, nameIndex := 24, descriptorIndex := 25, attributes := #[] }, { accessFlags := 18, nameIndex := 32, descriptorIndex := 25, attributes := #[] }])
  fields := #[{ name := "activity", type := (.object "java/lang/String"), accessFlags := 18, slot := 0, constantValue := 0 }, { name := "instance", type := .int, accessFlags := 18, slot := 1, constantValue := 0 }, { name := "hash", type := .int, accessFlags := 18, slot := 2, constantValue := 0 }]
  methods := #[k8m0, k8m1]
  instanceTypes := #[(.object "java/lang/String"), .int, .int]
  staticTypes := #[]
  resolved := Array.replicate 64 none
  statics := none }

def pool9 : Array CpInfo := pool [(2, .class_ 4), (1, u "java/lang/Object"), (0, u "<init>"), (0, u "()V"), (35, .class_ 44), (1, u "java/util/Objects"), (0, u "requireNonNull"), (48, u "(Ljava/lang/Object;Ljava/lang/String;)Ljava/lang/Object;")] 89

def k9m0 : Method := { name := "<init>", desc := "()V", sig := { parameters := [], returnType := none }, accessFlags := 2, code := none }
def k9c1 : Code := { maxStack := 3, maxLocals := 2, code := jdk_31_method_11_code, exceptionTable := #[], attributes := #[] }
def k9m1 : Method := { name := "requireNonNull", desc := "(Ljava/lang/Object;Ljava/lang/String;)Ljava/lang/Object;", sig := { parameters := [(.object "java/lang/Object"), (.object "java/lang/String")], returnType := some (.object "java/lang/Object") }, accessFlags := 9, code := some k9c1 }
/-- java/util/Objects -/
def k9 : Class := { plain "java/util/Objects" (some 0) with
  accessFlags := 49
  interfaces := #[]
  cf := some (fileOf pool9 42 #[] #[{ accessFlags := 2, nameIndex := 5, descriptorIndex := 6, attributes := #[] }, { accessFlags := 9, nameIndex := 45, descriptorIndex := 94, attributes := #[] }] 49 2 #[] #[])
  fields := #[]
  methods := #[k9m0, k9m1]
  instanceTypes := #[]
  staticTypes := #[]
  resolved := Array.replicate 184 none
  statics := none }

def pool10 : Array CpInfo := pool [(4, .class_ 6), (1, u "java/lang/Object"), (0, u "<init>"), (0, u "()V"), (5, .class_ 16), (1, u "java/lang/StringLatin1"), (28, .class_ 47), (1, u "jdk/internal/util/ArraysSupport"), (9, u "([B)I"), (26, .methodref 45 85), (0, .nameAndType 86 87), (0, u "vectorizedHashCode"), (0, u "(Ljava/lang/Object;IIII)I"), (33, u "$assertionsDisabled"), (0, u "Z"), (98, .class_ 223), (1, u "java/lang/StringLatin1$LinesSpliterator"), (57, u "equals"), (0, u "([B[B)Z"), (15, u "hashCode"), (91, .class_ 391), (0, u "java/lang/StringLatin1$CharsSpliterator")] 3

def k10m0 : Method := { name := "<init>", desc := "()V", sig := { parameters := [], returnType := none }, accessFlags := 0, code := none }
def k10c1 : Code := { maxStack := 3, maxLocals := 3, code := jdk_43_method_13_code, exceptionTable := #[], attributes := #[] }
def k10m1 : Method := { name := "equals", desc := "([B[B)Z", sig := { parameters := [(.array .byte), (.array .byte)], returnType := some .boolean }, accessFlags := 9, code := some k10c1 }
def k10c2 : Code := { maxStack := 5, maxLocals := 1, code := jdk_43_method_21_code, exceptionTable := #[], attributes := #[] }
def k10m2 : Method := { name := "hashCode", desc := "([B)I", sig := { parameters := [(.array .byte)], returnType := some .int }, accessFlags := 9, code := some k10c2 }
/-- java/lang/StringLatin1 -/
def k10 : Class := { plain "java/lang/StringLatin1" (some 0) with
  accessFlags := 48
  interfaces := #[]
  cf := some (fileOf pool10 14 #[.nestMembers #[390, 221]] #[{ accessFlags := 0, nameIndex := 7, descriptorIndex := 8, attributes := #[] }, { accessFlags := 9, nameIndex := 281, descriptorIndex := 282, attributes := #[] }, { accessFlags := 9, nameIndex := 298, descriptorIndex := 57, attributes := #[] }] 48 4 #[] #[{ accessFlags := 4120, nameIndex := 121, descriptorIndex := 122, attributes := #[] }])
  fields := #[{ name := "$assertionsDisabled", type := .boolean, accessFlags := 4120, slot := 0, constantValue := 0 }]
  methods := #[k10m0, k10m1, k10m2]
  instanceTypes := #[]
  staticTypes := #[.boolean]
  resolved := Array.replicate 395 none
  statics := none }

def pool11 : Array CpInfo := pool [(6, .class_ 8), (1, u "java/lang/Object"), (0, u "<init>"), (0, u "()V"), (1, .class_ 14), (1, u "java/lang/StringUTF16"), (31, u "$assertionsDisabled"), (0, u "Z"), (13, u "HI_BYTE_SHIFT"), (0, u "I"), (2, u "LO_BYTE_SHIFT"), (49, .methodref 12 116), (0, .nameAndType 117 118), (0, u "compress"), (0, u "([CI[BII)I"), (3, u "([CII)[B"), (138, u "coderFromArrayLen"), (0, u "([BI)B"), (106, .class_ 371), (1, u "java/lang/StringUTF16$LinesSpliterator"), (58, u "MAX_LENGTH"), (196, .class_ 628), (0, u "java/lang/StringUTF16$CodePointsSpliterator"), (0, .class_ 630), (0, u "java/lang/StringUTF16$CharsSpliterator")] 4

def k11m0 : Method := { name := "<init>", desc := "()V", sig := { parameters := [], returnType := none }, accessFlags := 0, code := none }
def k11c1 : Code := { maxStack := 2, maxLocals := 2, code := jdk_52_method_15_code, exceptionTable := #[], attributes := #[] }
def k11m1 : Method := { name := "coderFromArrayLen", desc := "([BI)B", sig := { parameters := [(.array .byte), .int], returnType := some .byte }, accessFlags := 8, code := some k11c1 }
def k11c2 : Code := { maxStack := 5, maxLocals := 6, code := jdk_52_method_16_code, exceptionTable := #[], attributes := #[] }
def k11m2 : Method := { name := "compress", desc := "([CII)[B", sig := { parameters := [(.array .char), .int, .int], returnType := some (.array .byte) }, accessFlags := 9, code := some k11c2 }
def k11c3 : Code := { maxStack := 3, maxLocals := 7, code := jdk_52_method_21_code, exceptionTable := #[], attributes := #[] }
def k11m3 : Method := { name := "compress", desc := "([CI[BII)I", sig := { parameters := [(.array .char), .int, (.array .byte), .int, .int], returnType := some .int }, accessFlags := 9, code := some k11c3 }
/-- java/lang/StringUTF16 -/
def k11 : Class := { plain "java/lang/StringUTF16" (some 0) with
  accessFlags := 48
  interfaces := #[]
  cf := some (fileOf pool11 12 #[.nestMembers #[627, 629, 369]] #[{ accessFlags := 0, nameIndex := 9, descriptorIndex := 10, attributes := #[] }, { accessFlags := 8, nameIndex := 261, descriptorIndex := 262, attributes := #[] }, { accessFlags := 9, nameIndex := 117, descriptorIndex := 122, attributes := #[] }, { accessFlags := 9, nameIndex := 117, descriptorIndex := 118, attributes := #[] }] 48 6 #[] #[{ accessFlags := 26, nameIndex := 61, descriptorIndex := 62, attributes := #[] }, { accessFlags := 26, nameIndex := 65, descriptorIndex := 62, attributes := #[] }, { accessFlags := 24, nameIndex := 430, descriptorIndex := 62, attributes := #[] }, { accessFlags := 4120, nameIndex := 46, descriptorIndex := 47, attributes := #[] }])
  fields := #[{ name := "HI_BYTE_SHIFT", type := .int, accessFlags := 26, slot := 0, constantValue := 0 }, { name := "LO_BYTE_SHIFT", type := .int, accessFlags := 26, slot := 1, constantValue := 0 }, { name := "MAX_LENGTH", type := .int, accessFlags := 24, slot := 2, constantValue := 0 }, { name := "$assertionsDisabled", type := .boolean, accessFlags := 4120, slot := 3, constantValue := 0 }]
  methods := #[k11m0, k11m1, k11m2, k11m3]
  instanceTypes := #[]
  staticTypes := #[.int, .int, .int, .boolean]
  resolved := Array.replicate 635 none
  statics := none }

def pool12 : Array CpInfo := pool [(9, u "<init>"), (6, .class_ 18), (1, u "java/lang/Object"), (0, u "()V"), (1, .class_ 23), (1, u "jdk/internal/util/ArraysSupport"), (0, u "LOG2_ARRAY_LONG_INDEX_SCALE"), (0, u "I"), (2, u "U"), (0, u "Ljdk/internal/misc/Unsafe;"), (8, u "BIG_ENDIAN"), (0, u "Z"), (8, u "LOG2_BYTE_BIT_SIZE"), (4, u "LOG2_ARRAY_INT_INDEX_SCALE"), (6, .class_ 61), (0, u "[B"), (0, .methodref 21 63), (0, .nameAndType 64 65), (0, u "signedHashCode"), (0, u "(I[BII)I"), (42, u "JLA"), (0, u "Ljdk/internal/access/JavaLangAccess;"), (11, u "LOG2_ARRAY_BOOLEAN_INDEX_SCALE"), (9, u "LOG2_ARRAY_BYTE_INDEX_SCALE"), (5, u "LOG2_ARRAY_CHAR_INDEX_SCALE"), (5, u "LOG2_ARRAY_SHORT_INDEX_SCALE"), (18, u "LOG2_ARRAY_FLOAT_INDEX_SCALE"), (24, u "LOG2_ARRAY_DOUBLE_INDEX_SCALE"), (89, u "T_BOOLEAN"), (2, u "T_CHAR"), (1, u "T_FLOAT"), (1, u "T_DOUBLE"), (1, u "T_BYTE"), (1, u "T_SHORT"), (1, u "T_INT"), (1, u "T_LONG"), (1, u "SOFT_MAX_ARRAY_LENGTH"), (26, u "vectorizedHashCode"), (0, u "(Ljava/lang/Object;IIII)I")] 55

def k12m0 : Method := { name := "<init>", desc := "()V", sig := { parameters := [], returnType := none }, accessFlags := 2, code := none }
def k12c1 : Code := { maxStack := 4, maxLocals := 5, code := jdk_48_method_4_code, exceptionTable := #[], attributes := #[] }
def k12m1 : Method := { name := "vectorizedHashCode", desc := "(Ljava/lang/Object;IIII)I", sig := { parameters := [(.object "java/lang/Object"), .int, .int, .int, .int], returnType := some .int }, accessFlags := 9, code := some k12c1 }
def k12c2 : Code := { maxStack := 3, maxLocals := 6, code := jdk_48_method_5_code, exceptionTable := #[], attributes := #[] }
def k12m2 : Method := { name := "signedHashCode", desc := "(I[BII)I", sig := { parameters := [.int, (.array .byte), .int, .int], returnType := some .int }, accessFlags := 10, code := some k12c2 }
/-- jdk/internal/util/ArraysSupport -/
def k12 : Class := { plain "jdk/internal/util/ArraysSupport" (some 0) with
  accessFlags := 33
  interfaces := #[]
  cf := some (fileOf pool12 21 #[] #[{ accessFlags := 2, nameIndex := 9, descriptorIndex := 19, attributes := #[] }, { accessFlags := 9, nameIndex := 321, descriptorIndex := 322, attributes := #[] }, { accessFlags := 10, nameIndex := 64, descriptorIndex := 65, attributes := #[] }] 33 16 #[] #[{ accessFlags := 24, nameIndex := 28, descriptorIndex := 29, attributes := #[] }, { accessFlags := 26, nameIndex := 38, descriptorIndex := 39, attributes := #[] }, { accessFlags := 25, nameIndex := 121, descriptorIndex := 25, attributes := #[] }, { accessFlags := 25, nameIndex := 131, descriptorIndex := 25, attributes := #[] }, { accessFlags := 25, nameIndex := 137, descriptorIndex := 25, attributes := #[] }, { accessFlags := 25, nameIndex := 143, descriptorIndex := 25, attributes := #[] }, { accessFlags := 25, nameIndex := 53, descriptorIndex := 25, attributes := #[] }, { accessFlags := 25, nameIndex := 24, descriptorIndex := 25, attributes := #[] }, { accessFlags := 25, nameIndex := 162, descriptorIndex := 25, attributes := #[] }, { accessFlags := 25, nameIndex := 187, descriptorIndex := 25, attributes := #[] }, { accessFlags := 26, nameIndex := 48, descriptorIndex := 25, attributes := #[] }, { accessFlags := 25, nameIndex := 277, descriptorIndex := 25, attributes := #[] }, { accessFlags := 25, nameIndex := 280, descriptorIndex := 25, attributes := #[] }, { accessFlags := 25, nameIndex := 282, descriptorIndex := 25, attributes := #[] }, { accessFlags := 25, nameIndex := 284, descriptorIndex := 25, attributes := #[] }, { accessFlags := 25, nameIndex := 286, descriptorIndex := 25, attributes := #[] }, { accessFlags := 25, nameIndex := 288, descriptorIndex := 25, attributes := #[] }, { accessFlags := 25, nameIndex := 290, descriptorIndex := 25, attributes := #[] }, { accessFlags := 25, nameIndex := 292, descriptorIndex := 25, attributes := #[] }, { accessFlags := 26, nameIndex := 108, descriptorIndex := 109, attributes := #[] }, { accessFlags := 25, nameIndex := 294, descriptorIndex := 25, attributes := #[] }])
  fields := #[{ name := "U", type := (.object "jdk/internal/misc/Unsafe"), accessFlags := 24, slot := 0, constantValue := 0 }, { name := "BIG_ENDIAN", type := .boolean, accessFlags := 26, slot := 1, constantValue := 0 }, { name := "LOG2_ARRAY_BOOLEAN_INDEX_SCALE", type := .int, accessFlags := 25, slot := 2, constantValue := 0 }, { name := "LOG2_ARRAY_BYTE_INDEX_SCALE", type := .int, accessFlags := 25, slot := 3, constantValue := 0 }, { name := "LOG2_ARRAY_CHAR_INDEX_SCALE", type := .int, accessFlags := 25, slot := 4, constantValue := 0 }, { name := "LOG2_ARRAY_SHORT_INDEX_SCALE", type := .int, accessFlags := 25, slot := 5, constantValue := 0 }, { name := "LOG2_ARRAY_INT_INDEX_SCALE", type := .int, accessFlags := 25, slot := 6, constantValue := 0 }, { name := "LOG2_ARRAY_LONG_INDEX_SCALE", type := .int, accessFlags := 25, slot := 7, constantValue := 0 }, { name := "LOG2_ARRAY_FLOAT_INDEX_SCALE", type := .int, accessFlags := 25, slot := 8, constantValue := 0 }, { name := "LOG2_ARRAY_DOUBLE_INDEX_SCALE", type := .int, accessFlags := 25, slot := 9, constantValue := 0 }, { name := "LOG2_BYTE_BIT_SIZE", type := .int, accessFlags := 26, slot := 10, constantValue := 0 }, { name := "T_BOOLEAN", type := .int, accessFlags := 25, slot := 11, constantValue := 0 }, { name := "T_CHAR", type := .int, accessFlags := 25, slot := 12, constantValue := 0 }, { name := "T_FLOAT", type := .int, accessFlags := 25, slot := 13, constantValue := 0 }, { name := "T_DOUBLE", type := .int, accessFlags := 25, slot := 14, constantValue := 0 }, { name := "T_BYTE", type := .int, accessFlags := 25, slot := 15, constantValue := 0 }, { name := "T_SHORT", type := .int, accessFlags := 25, slot := 16, constantValue := 0 }, { name := "T_INT", type := .int, accessFlags := 25, slot := 17, constantValue := 0 }, { name := "T_LONG", type := .int, accessFlags := 25, slot := 18, constantValue := 0 }, { name := "JLA", type := (.object "jdk/internal/access/JavaLangAccess"), accessFlags := 26, slot := 19, constantValue := 0 }, { name := "SOFT_MAX_ARRAY_LENGTH", type := .int, accessFlags := 25, slot := 20, constantValue := 0 }]
  methods := #[k12m0, k12m1, k12m2]
  instanceTypes := #[]
  staticTypes := #[(.object "jdk/internal/misc/Unsafe"), .boolean, .int, .int, .int, .int, .int, .int, .int, .int, .int, .int, .int, .int, .int, .int, .int, .int, .int, (.object "jdk/internal/access/JavaLangAccess"), .int]
  resolved := Array.replicate 378 none
  statics := none }

def pool13 : Array CpInfo := pool [(2, .class_ 4), (1, u "java/lang/Object"), (0, u "<init>"), (0, u "()V"), (17, .class_ 26), (1, u "jdk/internal/util/Preconditions"), (28, .class_ 56), (0, u "jdk/internal/util/Preconditions$4"), (57, .class_ 115), (0, u "jdk/internal/util/Preconditions$1"), (7, u "SIOOBE_FORMATTER"), (0, u "Ljava/util/function/BiFunction;"), (0, .class_ 126), (0, u "jdk/internal/util/Preconditions$2"), (3, u "AIOOBE_FORMATTER"), (0, .class_ 132), (0, u "jdk/internal/util/Preconditions$3"), (3, u "IOOBE_FORMATTER")] 57

def k13m0 : Method := { name := "<init>", desc := "()V", sig := { parameters := [], returnType := none }, accessFlags := 1, code := none }
/-- jdk/internal/util/Preconditions -/
def k13 : Class := { plain "jdk/internal/util/Preconditions" (some 0) with
  accessFlags := 33
  interfaces := #[]
  cf := some (fileOf pool13 24 #[.nestMembers #[55, 131, 125, 114]] #[{ accessFlags := 1, nameIndex := 5, descriptorIndex := 6, attributes := #[] }] 33 2 #[] #[{ accessFlags := 25, nameIndex := 123, descriptorIndex := 124, attributes := #[] }, { accessFlags := 25, nameIndex := 130, descriptorIndex := 124, attributes := #[] }, { accessFlags := 25, nameIndex := 136, descriptorIndex := 124, attributes := #[] }])
  fields := #[{ name := "SIOOBE_FORMATTER", type := (.object "java/util/function/BiFunction"), accessFlags := 25, slot := 0, constantValue := 0 }, { name := "AIOOBE_FORMATTER", type := (.object "java/util/function/BiFunction"), accessFlags := 25, slot := 1, constantValue := 0 }, { name := "IOOBE_FORMATTER", type := (.object "java/util/function/BiFunction"), accessFlags := 25, slot := 2, constantValue := 0 }]
  methods := #[k13m0]
  instanceTypes := #[]
  staticTypes := #[(.object "java/util/function/BiFunction"), (.object "java/util/function/BiFunction"), (.object "java/util/function/BiFunction")]
  resolved := Array.replicate 194 none
  statics := some 1 }

def pool14 : Array CpInfo := pool [(1, u "java/lang/Cloneable"), (0, .class_ 1), (0, u "java/lang/Object"), (0, .class_ 3)] 3

/-- java/lang/Cloneable -/
def k14 : Class := { plain "java/lang/Cloneable" (some 0) with
  accessFlags := 1537
  interfaces := #[]
  cf := some (fileOf pool14 2 #[] #[] 1537 4 #[] #[])
  fields := #[]
  methods := #[]
  instanceTypes := #[]
  staticTypes := #[]
  resolved := Array.replicate 8 none
  statics := none }

/-- the primitive byte -/
def k15 : Class := { plain "byte" none with kind := .primitive 'B', accessFlags := 0x411 }
/-- [B -/
def k16 : Class := { plain "[B" (some 0) with kind := .array 15 .byte, interfaces := #[14, 2], accessFlags := 1041 }

/-- the primitive char -/
def k17 : Class := { plain "char" none with kind := .primitive 'C', accessFlags := 0x411 }
/-- [C -/
def k18 : Class := { plain "[C" (some 0) with kind := .array 17 .char, interfaces := #[14, 2], accessFlags := 1041 }

/-- the primitive int -/
def k19 : Class := { plain "int" none with kind := .primitive 'I', accessFlags := 0x411 }
/-- [I -/
def k20 : Class := { plain "[I" (some 0) with kind := .array 19 .int, interfaces := #[14, 2], accessFlags := 1041 }

def heap : Heap := #[{ cls := 7, slots := #[.long 0, .int 1, .null, .int 0, .null, .int 0, .int 0], vm := .statics 7 },
  { cls := 13, slots := #[.null, .null, .null], vm := .statics 13 }]
def classes : Array Class := #[k0, k1, k2, k3, k4, k5, k6, k7, k8, k9, k10, k11, k12, k13, k14, k15, k16, k17, k18, k19, k20]
def interned : List (Array UInt16 × Addr) := []
def slotsUsed : Nat := 10
def theMethod : MethodId := ⟨1, 2⟩
def args0 : Array Value := #[.int 5, .int 6, .int 9, .int 1, .int 2, .int 3]
def aboutOver (below : List Frame) : State where
  vm := { classes := classes, interned := interned.toArray }
  heap := heap
  slotsUsed := slotsUsed
  threads := #[{ frames := .invoking theMethod args0 :: below }]
def below0 : List Frame := [.native { method := ⟨0, 0⟩, args := #[] }]
def about1 : State := aboutOver below0
def p0 : Program := .bare "" "" ""
def e0 : Env := launch0.env 0 0 0
theorem w_frames : about1.frames = Frame.invoking theMethod args0 :: below0 := rfl
set_option maxRecDepth 65536 in
theorem w_args : argsFit about1.vm theMethod args0 = true := by decide +kernel
set_option maxRecDepth 65536 in
theorem w_heap : heapFits about1 = true := by decide +kernel
set_option maxRecDepth 65536 in
theorem w_runnable : about1.curStatus? = some .runnable := by decide +kernel
set_option maxRecDepth 65536 in
theorem w_alone : about1.alone = true := by decide +kernel
set_option maxRecDepth 65536 in
theorem w_named : about1.methodNamed? x = some theMethod := by decide +kernel
set_option maxRecDepth 65536 in
theorem w_hears : about1.hears theMethod below0 = true := by decide +kernel
set_option maxRecDepth 65536 in
theorem w_ripe : about1.ripe theMethod args0 below0 = true := by decide +kernel
theorem w_running : about1.status = .running := rfl
set_option maxRecDepth 65536 in
theorem w_room : about1.hasRoom e0.platform room_1 = true :=
  launch0.hasRoom_least _ room_1 (by decide +kernel) (by decide +kernel) (by decide +kernel) (by decide +kernel) (by decide +kernel) (by decide +kernel)
theorem allAtoms_all (ts : List Jvm.Cond) (a : Array Jvm.Value) (st : Jvm.State) : (allAtoms ts).before a st = ts.all (fun c => c.before a st) := by
  induction ts with
  | nil => rfl
  | cons c t ih =>
    show (Jvm.Cond.and c (allAtoms t)).before a st = _
    rw [Jvm.Cond.before_and, ih, List.all_cons]
def words1 : List Jvm.Cond := Jvm.Cond.code x code maxLocals ret :: tables_1
/-- a 'code' word, met by the world's own term for the bytes: nothing is compared byte by byte -/
theorem code_word {y : MethodName} {bytes : ByteArray} {mx : Nat} {rt : Option FieldType} {a : Array Value} {s : State} {m : MethodId} {meth : Method} {c : Code} (h1 : s.methodNamed? y = some m) (h2 : s.vm.method? m = some meth) (h3 : meth.code = some c) (h4 : c.code = bytes)
    (h5 : (c.maxLocals == mx && c.exceptionTable.isEmpty && decide (c.maxStack ≤ mostOperands) && decide (meth.sig.returnType = rt) && !meth.locks && decide (parseMethodDescriptor y.desc = some meth.sig)) = true) : (Jvm.Cond.code y bytes mx rt).before a s = true := by
  simp only [Bool.and_eq_true, beq_iff_eq, Bool.not_eq_true', decide_eq_true_eq] at h5
  obtain ⟨⟨⟨⟨⟨g1, g2⟩, g3⟩, g4⟩, g5⟩, g6⟩ := h5
  simp [Cond.before, Cond.holds, Cond.value, h1, h2, h3, h4, g1, g2, g3, g4, g5, g6]
def isCode : Jvm.Cond → Bool
  | .code _ _ _ _ => true
  | _ => false
theorem all_split {L : List Jvm.Cond} {P : Jvm.Cond → Bool} (h1 : L.all (fun c => isCode c || P c) = true) (h2 : ∀ c ∈ L.filter isCode, P c = true) : L.all P = true := by
  refine List.all_eq_true.mpr fun c hc => ?_
  have h := List.all_eq_true.mp h1 c hc
  rcases Bool.eq_false_or_eq_true (isCode c) with hi | hi
  · exact h2 c (List.mem_filter.mpr ⟨hc, hi⟩)
  · simpa [hi] using h
set_option maxRecDepth 65536 in
theorem w_c0 : (Jvm.Cond.code x code maxLocals ret).before args0 about1 = true := code_word (m := ⟨1, 2⟩) (meth := k1m2) (c := k1c2) (by decide +kernel) rfl rfl rfl (by decide +kernel)
set_option maxRecDepth 65536 in
theorem w_c1 : (Jvm.Cond.code ({ cls := "com/example/lachesis/lachesis/model/RecordIdEqualsPinLaw", name := "mk", desc := "(IIII)Ljava/lang/String;" } : Jvm.MethodName) method_2_code (4 : Nat) (Option.some (Jvm.ClassFile.FieldType.object "java/lang/String"))).before args0 about1 = true := code_word (m := ⟨1, 1⟩) (meth := k1m1) (c := k1c1) (by decide +kernel) rfl rfl rfl (by decide +kernel)
set_option maxRecDepth 65536 in
theorem w_c2 : (Jvm.Cond.code ({ cls := "java/lang/String", name := "<init>", desc := "([C)V" } : Jvm.MethodName) jdk_42_method_3_code (2 : Nat) (Option.none : Option Jvm.ClassFile.FieldType)).before args0 about1 = true := code_word (m := ⟨7, 1⟩) (meth := k7m1) (c := k7c1) (by decide +kernel) rfl rfl rfl (by decide +kernel)
set_option maxRecDepth 65536 in
theorem w_c3 : (Jvm.Cond.code ({ cls := "java/lang/String", name := "<init>", desc := "([CIILjava/lang/Void;)V" } : Jvm.MethodName) jdk_42_method_149_code (6 : Nat) (Option.none : Option Jvm.ClassFile.FieldType)).before args0 about1 = true := code_word (m := ⟨7, 4⟩) (meth := k7m4) (c := k7c4) (by decide +kernel) rfl rfl rfl (by decide +kernel)
set_option maxRecDepth 65536 in
theorem w_c4 : (Jvm.Cond.code ({ cls := "java/lang/Object", name := "<init>", desc := "()V" } : Jvm.MethodName) object_method_1_code (1 : Nat) (Option.none : Option Jvm.ClassFile.FieldType)).before args0 about1 = true := code_word (m := ⟨0, 0⟩) (meth := k0m0) (c := k0c0) (by decide +kernel) rfl rfl rfl (by decide +kernel)
set_option maxRecDepth 65536 in
theorem w_c5 : (Jvm.Cond.code ({ cls := "com/example/lachesis/lachesis/model/RecordId", name := "<init>", desc := "(Ljava/lang/String;I)V" } : Jvm.MethodName) prog_53_method_1_code (3 : Nat) (Option.none : Option Jvm.ClassFile.FieldType)).before args0 about1 = true := code_word (m := ⟨8, 0⟩) (meth := k8m0) (c := k8c0) (by decide +kernel) rfl rfl rfl (by decide +kernel)
set_option maxRecDepth 65536 in
theorem w_c6 : (Jvm.Cond.code ({ cls := "java/util/Objects", name := "requireNonNull", desc := "(Ljava/lang/Object;Ljava/lang/String;)Ljava/lang/Object;" } : Jvm.MethodName) jdk_31_method_11_code (2 : Nat) (Option.some (Jvm.ClassFile.FieldType.object "java/lang/Object"))).before args0 about1 = true := code_word (m := ⟨9, 1⟩) (meth := k9m1) (c := k9c1) (by decide +kernel) rfl rfl rfl (by decide +kernel)
set_option maxRecDepth 65536 in
theorem w_c7 : (Jvm.Cond.code ({ cls := "java/lang/String", name := "hashCode", desc := "()I" } : Jvm.MethodName) jdk_42_method_78_code (2 : Nat) (Option.some Jvm.ClassFile.FieldType.int)).before args0 about1 = true := code_word (m := ⟨7, 3⟩) (meth := k7m3) (c := k7c3) (by decide +kernel) rfl rfl rfl (by decide +kernel)
set_option maxRecDepth 65536 in
theorem w_c8 : (Jvm.Cond.code ({ cls := "java/lang/String", name := "isLatin1", desc := "()Z" } : Jvm.MethodName) jdk_42_method_154_code (1 : Nat) (Option.some Jvm.ClassFile.FieldType.boolean)).before args0 about1 = true := code_word (m := ⟨7, 5⟩) (meth := k7m5) (c := k7c5) (by decide +kernel) rfl rfl rfl (by decide +kernel)
set_option maxRecDepth 65536 in
theorem w_c9 : (Jvm.Cond.code ({ cls := "java/lang/StringLatin1", name := "hashCode", desc := "([B)I" } : Jvm.MethodName) jdk_43_method_21_code (1 : Nat) (Option.some Jvm.ClassFile.FieldType.int)).before args0 about1 = true := code_word (m := ⟨10, 2⟩) (meth := k10m2) (c := k10c2) (by decide +kernel) rfl rfl rfl (by decide +kernel)
set_option maxRecDepth 65536 in
theorem w_c10 : (Jvm.Cond.code ({ cls := "com/example/lachesis/lachesis/model/RecordId", name := "equals", desc := "(Ljava/lang/Object;)Z" } : Jvm.MethodName) prog_53_method_4_code (3 : Nat) (Option.some Jvm.ClassFile.FieldType.boolean)).before args0 about1 = true := code_word (m := ⟨8, 1⟩) (meth := k8m1) (c := k8c1) (by decide +kernel) rfl rfl rfl (by decide +kernel)
set_option maxRecDepth 65536 in
theorem w_c11 : (Jvm.Cond.code ({ cls := "java/lang/StringUTF16", name := "compress", desc := "([CII)[B" } : Jvm.MethodName) jdk_52_method_16_code (6 : Nat) (Option.some (Jvm.ClassFile.FieldType.array Jvm.ClassFile.FieldType.byte))).before args0 about1 = true := code_word (m := ⟨11, 2⟩) (meth := k11m2) (c := k11c2) (by decide +kernel) rfl rfl rfl (by decide +kernel)
set_option maxRecDepth 65536 in
theorem w_c12 : (Jvm.Cond.code ({ cls := "java/lang/StringUTF16", name := "compress", desc := "([CI[BII)I" } : Jvm.MethodName) jdk_52_method_21_code (7 : Nat) (Option.some Jvm.ClassFile.FieldType.int)).before args0 about1 = true := code_word (m := ⟨11, 3⟩) (meth := k11m3) (c := k11c3) (by decide +kernel) rfl rfl rfl (by decide +kernel)
set_option maxRecDepth 65536 in
theorem w_c13 : (Jvm.Cond.code ({ cls := "java/lang/StringUTF16", name := "coderFromArrayLen", desc := "([BI)B" } : Jvm.MethodName) jdk_52_method_15_code (2 : Nat) (Option.some Jvm.ClassFile.FieldType.byte)).before args0 about1 = true := code_word (m := ⟨11, 1⟩) (meth := k11m1) (c := k11c1) (by decide +kernel) rfl rfl rfl (by decide +kernel)
set_option maxRecDepth 65536 in
theorem w_c14 : (Jvm.Cond.code ({ cls := "java/lang/String", name := "equals", desc := "(Ljava/lang/Object;)Z" } : Jvm.MethodName) jdk_42_method_66_code (3 : Nat) (Option.some Jvm.ClassFile.FieldType.boolean)).before args0 about1 = true := code_word (m := ⟨7, 2⟩) (meth := k7m2) (c := k7c2) (by decide +kernel) rfl rfl rfl (by decide +kernel)
set_option maxRecDepth 65536 in
theorem w_c15 : (Jvm.Cond.code ({ cls := "jdk/internal/util/ArraysSupport", name := "vectorizedHashCode", desc := "(Ljava/lang/Object;IIII)I" } : Jvm.MethodName) jdk_48_method_4_code (5 : Nat) (Option.some Jvm.ClassFile.FieldType.int)).before args0 about1 = true := code_word (m := ⟨12, 1⟩) (meth := k12m1) (c := k12c1) (by decide +kernel) rfl rfl rfl (by decide +kernel)
set_option maxRecDepth 65536 in
theorem w_c16 : (Jvm.Cond.code ({ cls := "jdk/internal/util/ArraysSupport", name := "signedHashCode", desc := "(I[BII)I" } : Jvm.MethodName) jdk_48_method_5_code (6 : Nat) (Option.some Jvm.ClassFile.FieldType.int)).before args0 about1 = true := code_word (m := ⟨12, 2⟩) (meth := k12m2) (c := k12c2) (by decide +kernel) rfl rfl rfl (by decide +kernel)
set_option maxRecDepth 65536 in
theorem w_c17 : (Jvm.Cond.code ({ cls := "java/lang/StringLatin1", name := "equals", desc := "([B[B)Z" } : Jvm.MethodName) jdk_43_method_13_code (3 : Nat) (Option.some Jvm.ClassFile.FieldType.boolean)).before args0 about1 = true := code_word (m := ⟨10, 1⟩) (meth := k10m1) (c := k10c1) (by decide +kernel) rfl rfl rfl (by decide +kernel)
def codes1 : List Jvm.Cond := [Jvm.Cond.code x code maxLocals ret, Jvm.Cond.code ({ cls := "com/example/lachesis/lachesis/model/RecordIdEqualsPinLaw", name := "mk", desc := "(IIII)Ljava/lang/String;" } : Jvm.MethodName) method_2_code (4 : Nat) (Option.some (Jvm.ClassFile.FieldType.object "java/lang/String")), Jvm.Cond.code ({ cls := "java/lang/String", name := "<init>", desc := "([C)V" } : Jvm.MethodName) jdk_42_method_3_code (2 : Nat) (Option.none : Option Jvm.ClassFile.FieldType), Jvm.Cond.code ({ cls := "java/lang/String", name := "<init>", desc := "([CIILjava/lang/Void;)V" } : Jvm.MethodName) jdk_42_method_149_code (6 : Nat) (Option.none : Option Jvm.ClassFile.FieldType), Jvm.Cond.code ({ cls := "java/lang/Object", name := "<init>", desc := "()V" } : Jvm.MethodName) object_method_1_code (1 : Nat) (Option.none : Option Jvm.ClassFile.FieldType), Jvm.Cond.code ({ cls := "com/example/lachesis/lachesis/model/RecordId", name := "<init>", desc := "(Ljava/lang/String;I)V" } : Jvm.MethodName) prog_53_method_1_code (3 : Nat) (Option.none : Option Jvm.ClassFile.FieldType), Jvm.Cond.code ({ cls := "java/util/Objects", name := "requireNonNull", desc := "(Ljava/lang/Object;Ljava/lang/String;)Ljava/lang/Object;" } : Jvm.MethodName) jdk_31_method_11_code (2 : Nat) (Option.some (Jvm.ClassFile.FieldType.object "java/lang/Object")), Jvm.Cond.code ({ cls := "java/lang/String", name := "hashCode", desc := "()I" } : Jvm.MethodName) jdk_42_method_78_code (2 : Nat) (Option.some Jvm.ClassFile.FieldType.int), Jvm.Cond.code ({ cls := "java/lang/String", name := "isLatin1", desc := "()Z" } : Jvm.MethodName) jdk_42_method_154_code (1 : Nat) (Option.some Jvm.ClassFile.FieldType.boolean), Jvm.Cond.code ({ cls := "java/lang/StringLatin1", name := "hashCode", desc := "([B)I" } : Jvm.MethodName) jdk_43_method_21_code (1 : Nat) (Option.some Jvm.ClassFile.FieldType.int), Jvm.Cond.code ({ cls := "com/example/lachesis/lachesis/model/RecordId", name := "equals", desc := "(Ljava/lang/Object;)Z" } : Jvm.MethodName) prog_53_method_4_code (3 : Nat) (Option.some Jvm.ClassFile.FieldType.boolean), Jvm.Cond.code ({ cls := "java/lang/StringUTF16", name := "compress", desc := "([CII)[B" } : Jvm.MethodName) jdk_52_method_16_code (6 : Nat) (Option.some (Jvm.ClassFile.FieldType.array Jvm.ClassFile.FieldType.byte)), Jvm.Cond.code ({ cls := "java/lang/StringUTF16", name := "compress", desc := "([CI[BII)I" } : Jvm.MethodName) jdk_52_method_21_code (7 : Nat) (Option.some Jvm.ClassFile.FieldType.int), Jvm.Cond.code ({ cls := "java/lang/StringUTF16", name := "coderFromArrayLen", desc := "([BI)B" } : Jvm.MethodName) jdk_52_method_15_code (2 : Nat) (Option.some Jvm.ClassFile.FieldType.byte), Jvm.Cond.code ({ cls := "java/lang/String", name := "equals", desc := "(Ljava/lang/Object;)Z" } : Jvm.MethodName) jdk_42_method_66_code (3 : Nat) (Option.some Jvm.ClassFile.FieldType.boolean), Jvm.Cond.code ({ cls := "jdk/internal/util/ArraysSupport", name := "vectorizedHashCode", desc := "(Ljava/lang/Object;IIII)I" } : Jvm.MethodName) jdk_48_method_4_code (5 : Nat) (Option.some Jvm.ClassFile.FieldType.int), Jvm.Cond.code ({ cls := "jdk/internal/util/ArraysSupport", name := "signedHashCode", desc := "(I[BII)I" } : Jvm.MethodName) jdk_48_method_5_code (6 : Nat) (Option.some Jvm.ClassFile.FieldType.int), Jvm.Cond.code ({ cls := "java/lang/StringLatin1", name := "equals", desc := "([B[B)Z" } : Jvm.MethodName) jdk_43_method_13_code (3 : Nat) (Option.some Jvm.ClassFile.FieldType.boolean)]
set_option maxRecDepth 65536 in
theorem codes_eq : words1.filter isCode = codes1 := rfl
theorem w_codes : ∀ c ∈ words1.filter isCode, c.before args0 about1 = true := by
  rw [codes_eq]
  intro c hc
  simp only [codes1, List.mem_cons, List.not_mem_nil, or_false] at hc
  rcases hc with rfl | rfl | rfl | rfl | rfl | rfl | rfl | rfl | rfl | rfl | rfl | rfl | rfl | rfl | rfl | rfl | rfl | rfl
  · exact w_c0
  · exact w_c1
  · exact w_c2
  · exact w_c3
  · exact w_c4
  · exact w_c5
  · exact w_c6
  · exact w_c7
  · exact w_c8
  · exact w_c9
  · exact w_c10
  · exact w_c11
  · exact w_c12
  · exact w_c13
  · exact w_c14
  · exact w_c15
  · exact w_c16
  · exact w_c17
set_option maxRecDepth 65536 in
theorem w_t1 : (words1.take 24).all (fun c => isCode c || c.before args0 about1) = true := by decide +kernel
set_option maxRecDepth 65536 in
theorem w_t2 : ((words1.drop 24).take 24).all (fun c => isCode c || c.before args0 about1) = true := by decide +kernel
set_option maxRecDepth 65536 in
theorem w_t3 : (((words1.drop 24).drop 24).take 24).all (fun c => isCode c || c.before args0 about1) = true := by decide +kernel
set_option maxRecDepth 65536 in
theorem w_t4 : ((((words1.drop 24).drop 24).drop 24).take 24).all (fun c => isCode c || c.before args0 about1) = true := by decide +kernel
set_option maxRecDepth 65536 in
theorem w_t5 : ((((words1.drop 24).drop 24).drop 24).drop 24).all (fun c => isCode c || c.before args0 about1) = true := by decide +kernel
theorem w_tables : (allAtoms (Jvm.Cond.code x code maxLocals ret :: tables_1)).before args0 about1 = true := by
  rw [allAtoms_all]
  show words1.all (fun c => c.before args0 about1) = true
  refine all_split ?_ w_codes
  rw [← List.take_append_drop 24 words1, List.all_append, w_t1, ← List.take_append_drop 24 (words1.drop 24), List.all_append, w_t2, ← List.take_append_drop 24 ((words1.drop 24).drop 24), List.all_append, w_t3, ← List.take_append_drop 24 (((words1.drop 24).drop 24).drop 24), List.all_append, w_t4, w_t5]
  rfl
set_option maxRecDepth 65536 in
theorem w_rest : rest_1_c.before args0 about1 = true := by decide +kernel
set_option maxRecDepth 65536 in
theorem w_case : (Jvm.Cond.and given_1 narrow_1).before args0 about1 = true := by decide +kernel
set_option maxRecDepth 65536 in
theorem w_consts : constsHeld consts_1 about1 := Jvm.Lit.constsHeldB_iff.mp (by decide +kernel)
theorem w_applies : (headSpec (Jvm.Cond.code x code maxLocals ret :: tables_1) room_1).applies x e0.platform about1 = true :=
  (Spec.applies_iff w_frames).mpr ⟨w_running, w_runnable, w_alone, w_named, w_hears, w_ripe, w_room, w_tables⟩
theorem atStart : AtStart classFile x code maxLocals ret World_1 tables_1 room_1 Calls_1 rest_1 Pre_1 launch0 p0 e0 about1 theMethod args0 below0 :=
  ⟨lists_1, trivial, launch0.admits_env _ _ _, launch0.least_env, fairChoices_fair.cas, fairChoices_fair.clock, w_frames, w_args, w_heap, w_applies, ⟨w_consts, trivial⟩, w_rest, w_case⟩
end start1
theorem witness_1 : WitnessClaimed_1 := ⟨start1.p0, start1.e0, start1.about1, start1.theMethod, start1.args0, start1.below0, start1.atStart⟩
end Jvm.Pilot.@@N@@
