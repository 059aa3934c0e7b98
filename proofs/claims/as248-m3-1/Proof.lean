import JvmDerived
import JvmDerived.Pilot.@@N@@Statement
import JvmDerived.Pilot.@@N@@Code
set_option linter.unusedVariables false
set_option linter.unusedSimpArgs false
namespace Jvm.OwnGo
open Jvm Jvm.ClassFile Sem Op Lib Jvm.Free Jvm.Stand Jvm.LawKit Jvm.RoadKit
section Go
variable {p : Program} {l : Launch} {e : Env} {R : Room} {s : State} {m : MethodId} {args : Array Value} {below : List Frame} {meth : Method} {c : Code} {T T' : State} {locs : List Loc} {cells slots : Nat} {Q : Option Value → Heap → List Loc → Prop} {C S : Nat} {g g' : JFrame}
/-- from here the body comes to a return that Q takes -/
def Go (p : Program) (e : Env) (below : List Frame) (s : State) (Q : Option Value → Heap → List Loc → Prop) (C S : Nat) (T : State) (g : JFrame) : Prop :=
  ∃ s₂ o, Steps p.tables e below (T.setTop g) s₂ ∧ s₂.status = .running ∧ Ended s₂ below o ∧ ∃ v L, o = .returned v ∧ Q v s₂.heap L ∧ FrameEnd s o s₂ L C S
theorem Go.st (h : ∀ t, Steps p.tables e below (T'.setTop g') t → Steps p.tables e below (T.setTop g) t) (k : Go p e below s Q C S T' g') : Go p e below s Q C S T g := by
  obtain ⟨s₂, o, h1, r⟩ := k; exact ⟨s₂, o, h _ h1, r⟩
theorem Go.ts (h : Steps p.tables e below (T.setTop g) (T'.setTop g')) (k : Go p e below s Q C S T' g') : Go p e below s Q C S T g := by
  obtain ⟨s₂, o, h1, r⟩ := k; exact ⟨s₂, o, h.trans h1, r⟩
theorem Go.retw (X : Stand p l e R s m args below meth c T locs cells slots) (hx : p.tables.exec = Jvm.exec) {pc : Nat} {Ls : Array Slot} {w : Value} {t : FieldType} {i : Instr} {rest : List Value} (hret : meth.sig.returnType = some t) (hlk : meth.locks = false) (hn : narrow t w = w)
    (hi : (i = .ireturn ∧ (t = .int ∨ t = .boolean ∨ t = .byte ∨ t = .char ∨ t = .short) ∧ ∃ z, w = .int z) ∨ (i = .lreturn ∧ t = .long ∧ ∃ z, w = .long z) ∨ (i = .dreturn ∧ t = .double ∧ ∃ z, w = .double z) ∨ (i = .freturn ∧ t = .float ∧ ∃ z, w = .float z) ∨ (i = .areturn ∧ t.isReference = true ∧ w.isRef = true))
    (hd : decode c.code pc = .ok (i, 1)) (hc : cells ≤ C) (hs : slots ≤ S) (hq : Q (some w) T.heap locs) : Go p e below s Q C S T (mkF m pc Ls (w :: rest)) := by
  obtain ⟨fs, hr, hrun, hended, hW, hsame⟩ := X.leave (v := some w) (fun h => by rw [hret] at h; cases h)
  exact ⟨_, _, retOut X hx hret hn hi hd hr, hrun, hended, _, _, rfl, hq, ⟨_, rfl⟩, hW, hsame.mono hc hs⟩
theorem Go.retI (X : Stand p l e R s m args below meth c T locs cells slots) (hx : p.tables.exec = Jvm.exec) {pc : Nat} {Ls : Array Slot} {z : Int32} {rest : List Value} (hret : meth.sig.returnType = some .int) (hlk : meth.locks = false) (hd : decode c.code pc = .ok (.ireturn, 1)) (hc : cells ≤ C) (hs : slots ≤ S) (hq : Q (some (.int z)) T.heap locs) : Go p e below s Q C S T (mkF m pc Ls (.int z :: rest)) :=
  Go.retw X hx hret hlk rfl (Or.inl ⟨rfl, Or.inl rfl, _, rfl⟩) hd hc hs hq
theorem Go.retJ (X : Stand p l e R s m args below meth c T locs cells slots) (hx : p.tables.exec = Jvm.exec) {pc : Nat} {Ls : Array Slot} {z : Int64} {rest : List Value} (hret : meth.sig.returnType = some .long) (hlk : meth.locks = false) (hd : decode c.code pc = .ok (.lreturn, 1)) (hc : cells ≤ C) (hs : slots ≤ S) (hq : Q (some (.long z)) T.heap locs) : Go p e below s Q C S T (mkF m pc Ls (.long z :: rest)) :=
  Go.retw X hx hret hlk rfl (Or.inr (Or.inl ⟨rfl, rfl, _, rfl⟩)) hd hc hs hq
theorem Go.retA (X : Stand p l e R s m args below meth c T locs cells slots) (hx : p.tables.exec = Jvm.exec) {pc : Nat} {Ls : Array Slot} {w : Value} {t : FieldType} {rest : List Value} (hret : meth.sig.returnType = some t) (hlk : meth.locks = false) (hn : narrow t w = w) (ht : t.isReference = true) (hw : w.isRef = true) (hd : decode c.code pc = .ok (.areturn, 1)) (hc : cells ≤ C) (hs : slots ≤ S) (hq : Q (some w) T.heap locs) : Go p e below s Q C S T (mkF m pc Ls (w :: rest)) :=
  Go.retw X hx hret hlk hn (Or.inr (Or.inr (Or.inr (Or.inr ⟨rfl, ht, hw⟩)))) hd hc hs hq
theorem Go.retB (X : Stand p l e R s m args below meth c T locs cells slots) (hx : p.tables.exec = Jvm.exec) {pc : Nat} {Ls : Array Slot} {z : Int32} {t : FieldType} {rest : List Value} (hret : meth.sig.returnType = some t) (hlk : meth.locks = false) (ht : t = .boolean ∨ t = .byte ∨ t = .char ∨ t = .short) (hd : decode c.code pc = .ok (.ireturn, 1)) (hc : cells ≤ C) (hs : slots ≤ S) (hq : Q (some (.int (nar t z))) T.heap locs) : Go p e below s Q C S T (mkF m pc Ls (.int z :: rest)) := by
  obtain ⟨fs, hr, hrun, hended, hW, hsame⟩ := X.leave (v := some (.int (nar t z))) (fun h => by rw [hret] at h; cases h)
  exact ⟨_, _, retN X hx hret ht hd hr, hrun, hended, _, _, rfl, hq, ⟨_, rfl⟩, hW, hsame.mono hc hs⟩
theorem Go.ret0 (X : Stand p l e R s m args below meth c T locs cells slots) (hx : p.tables.exec = Jvm.exec) {pc : Nat} {Ls : Array Slot} (hret : meth.sig.returnType = none) (hlk : meth.locks = false) (hd : decode c.code pc = .ok (.return_, 1)) (hc : cells ≤ C) (hs : slots ≤ S) (hq : Q none T.heap locs) : Go p e below s Q C S T (mkF m pc Ls []) := by
  obtain ⟨fs, hr, hrun, hended, hW, hsame⟩ := X.leave (v := none) (fun _ => rfl)
  exact ⟨_, _, X.returnOut hx hret hd hr, hrun, hended, _, _, rfl, hq, ⟨_, rfl⟩, hW, hsame.mono hc hs⟩
end Go
section GoW
variable {p : Program} {l : Launch} {e : Env} {R : Room} {s : State} {m : MethodId} {args : Array Value} {below : List Frame} {meth : Method} {c : Code} {T T' : State} {locs : List Loc} {cells slots : Nat} {Q : Option Value → Heap → List Loc → Prop} {C S : Nat} {g g' : JFrame} {vm0 : Vm} {n : Nat}
/-- as Go, where the body may have booked String constants -/
def GoW (p : Program) (e : Env) (below : List Frame) (s : State) (Q : Option Value → Heap → List Loc → Prop) (C S : Nat) (T : State) (g : JFrame) : Prop :=
  ∃ s₂ o, Steps p.tables e below (T.setTop g) s₂ ∧ s₂.status = .running ∧ Ended s₂ below o ∧ ∃ v L, o = .returned v ∧ Q v s₂.heap L ∧ ReturnedEndW s o s₂ L C S
theorem GoW.st (h : ∀ t, Steps p.tables e below (T'.setTop g') t → Steps p.tables e below (T.setTop g) t) (k : GoW p e below s Q C S T' g') : GoW p e below s Q C S T g := by
  obtain ⟨s₂, o, h1, r⟩ := k; exact ⟨s₂, o, h _ h1, r⟩
theorem GoW.ts (h : Steps p.tables e below (T.setTop g) (T'.setTop g')) (k : GoW p e below s Q C S T' g') : GoW p e below s Q C S T g := by
  obtain ⟨s₂, o, h1, r⟩ := k; exact ⟨s₂, o, h.trans h1, r⟩
theorem GoW.end_ {o : Outcome} {t : State} (h : ReturnedEndW s o t locs cells slots) (hc : cells ≤ C) (hs : slots ≤ S) : ReturnedEndW s o t locs C S := ⟨h.1, h.2.1, h.2.2.1, h.2.2.2.mono hc hs⟩
theorem GoW.retA (X : Stand p l e R (s.setVm vm0) m args below meth c T locs cells slots) (hx : p.tables.exec = Jvm.exec) {pc : Nat} {Ls : Array Slot} {w : Value} {t : FieldType} {rest : List Value} (hret : meth.sig.returnType = some t) (hlk : meth.locks = false) (hS : s.Since vm0 n) (hk : n ≤ T.heap.size) (hn : narrow t w = w) (ht : t.isReference = true) (hw : w.isRef = true) (hd : decode c.code pc = .ok (.areturn, 1)) (hc : cells ≤ C) (hs : slots ≤ S) (hq : Q (some w) T.heap locs) : GoW p e below s Q C S T (mkF m pc Ls (w :: rest)) := by
  obtain ⟨fs, hr, hrun, hended, hW⟩ := X.leaveW hS hk (v := some w) (fun h => by rw [hret] at h; cases h)
  exact ⟨_, _, retOut X hx hret hn (Or.inr (Or.inr (Or.inr (Or.inr ⟨rfl, ht, hw⟩)))) hd hr, hrun, hended, _, _, rfl, hq, GoW.end_ hW hc hs⟩
theorem GoW.retB (X : Stand p l e R (s.setVm vm0) m args below meth c T locs cells slots) (hx : p.tables.exec = Jvm.exec) {pc : Nat} {Ls : Array Slot} {z : Int32} {t : FieldType} {rest : List Value} (hret : meth.sig.returnType = some t) (hlk : meth.locks = false) (hS : s.Since vm0 n) (hk : n ≤ T.heap.size) (ht : t = .boolean ∨ t = .byte ∨ t = .char ∨ t = .short) (hd : decode c.code pc = .ok (.ireturn, 1)) (hc : cells ≤ C) (hs : slots ≤ S) (hq : Q (some (.int (nar t z))) T.heap locs) : GoW p e below s Q C S T (mkF m pc Ls (.int z :: rest)) := by
  obtain ⟨fs, hr, hrun, hended, hW⟩ := X.leaveW hS hk (v := some (.int (nar t z))) (fun h => by rw [hret] at h; cases h)
  exact ⟨_, _, retN X hx hret ht hd hr, hrun, hended, _, _, rfl, hq, GoW.end_ hW hc hs⟩
theorem GoW.ret0 (X : Stand p l e R (s.setVm vm0) m args below meth c T locs cells slots) (hx : p.tables.exec = Jvm.exec) {pc : Nat} {Ls : Array Slot} (hret : meth.sig.returnType = none) (hlk : meth.locks = false) (hS : s.Since vm0 n) (hk : n ≤ T.heap.size) (hd : decode c.code pc = .ok (.return_, 1)) (hc : cells ≤ C) (hs : slots ≤ S) (hq : Q none T.heap locs) : GoW p e below s Q C S T (mkF m pc Ls []) := by
  obtain ⟨fs, hr, hrun, hended, hW⟩ := X.leaveW hS hk (v := none) (fun _ => rfl)
  exact ⟨_, _, X.returnOut hx hret hd hr, hrun, hended, _, _, rfl, hq, GoW.end_ hW hc hs⟩
end GoW
theorem lcw_lt {x y : Int64} (h : x < y) : lcmpW x y < 0 := by rw [lcW]; exact (lc_lt _ _).mpr h
theorem lcw_nlt {x y : Int64} (h : ¬ x < y) : ¬ lcmpW x y < 0 := by rw [lcW]; exact fun q => h ((lc_lt _ _).mp q)
theorem lcw_gt {x y : Int64} (h : y < x) : 0 < lcmpW x y := by rw [lcW]; exact (lc_gt _ _).mpr h
theorem lcw_ngt {x y : Int64} (h : ¬ y < x) : ¬ 0 < lcmpW x y := by rw [lcW]; exact fun q => h ((lc_gt _ _).mp q)
theorem lcw_eq {x y : Int64} (h : x = y) : lcmpW x y = 0 := by rw [lcW]; exact (lc_eq _ _).mpr h
theorem lcw_ne {x y : Int64} (h : ¬ x = y) : ¬ lcmpW x y = 0 := by rw [lcW]; exact fun q => h ((lc_eq _ _).mp q)
section Words
variable {args : Array Value} {first s : State} {o : Option Outcome} {idx : List Nat} {a b : Term}
theorem eqI_v {n : Int32} (h : (Cond.eq a (.int n)).value args first o s idx = some true) : a.eval args first o idx s = some (.int n) := by
  simp only [Cond.value, Term.eval] at h; cases ha : a.eval args first o idx s with | none => simp [ha] at h | some x => cases x <;> simp [ha] at h ⊢; exact h
theorem eqJ_v {n : Int64} (h : (Cond.eq a (.long n)).value args first o s idx = some true) : a.eval args first o idx s = some (.long n) := by
  simp only [Cond.value, Term.eval] at h; cases ha : a.eval args first o idx s with | none => simp [ha] at h | some x => cases x <;> simp [ha] at h ⊢; exact h
theorem eqR_v {x : Addr} (hb : b.eval args first o idx s = some (.ref x)) (h : (Cond.eq a b).value args first o s idx = some true) : a.eval args first o idx s = some (.ref x) := by
  simp only [Cond.value, hb] at h; cases ha : a.eval args first o idx s with | none => simp [ha] at h | some x => cases x <;> simp [ha] at h ⊢; exact h
end Words
end Jvm.OwnGo
namespace Jvm.OwnGo
theorem own_and {x m : Int64} (hm : 0 ≤ m.toInt) : 0 ≤ (x &&& m).toInt := by
  have e1 : (x &&& m).toBitVec.toNat = x.toBitVec.toNat &&& m.toBitVec.toNat := by simp
  have e2 : (x &&& m).toBitVec.toNat ≤ m.toBitVec.toNat := by rw [e1]; exact Nat.and_le_right
  have e3 : m.toInt = m.toBitVec.toInt := rfl
  have e4 : (x &&& m).toInt = (x &&& m).toBitVec.toInt := rfl
  have q1 := BitVec.toInt_eq_toNat_cond m.toBitVec
  have q2 := BitVec.toInt_eq_toNat_cond (x &&& m).toBitVec
  have l1 := m.toBitVec.isLt
  rw [e3] at hm; rw [e4]
  split at q1 <;> split at q2 <;> omega
theorem own_and32 {x m : Int32} (hm : 0 ≤ m.toInt) : 0 ≤ (x &&& m).toInt := by
  have e1 : (x &&& m).toBitVec.toNat = x.toBitVec.toNat &&& m.toBitVec.toNat := by simp
  have e2 : (x &&& m).toBitVec.toNat ≤ m.toBitVec.toNat := by rw [e1]; exact Nat.and_le_right
  have e3 : m.toInt = m.toBitVec.toInt := rfl
  have e4 : (x &&& m).toInt = (x &&& m).toBitVec.toInt := rfl
  have q1 := BitVec.toInt_eq_toNat_cond m.toBitVec
  have q2 := BitVec.toInt_eq_toNat_cond (x &&& m).toBitVec
  have l1 := m.toBitVec.isLt
  rw [e3] at hm; rw [e4]
  split at q1 <;> split at q2 <;> omega
theorem own_0J {x : Int64} : ¬ ((x &&& (9223372036854775807 : Int64)) < (0 : Int64)) := by
  rw [Int64.lt_iff_toInt_lt, show (0 : Int64).toInt = 0 from by decide]
  have := own_and (x := x) (m := (9223372036854775807 : Int64)) (by decide)
  omega
theorem own_0I {x : Int32} : ¬ ((x &&& (2147483647 : Int32)).toInt64 < (0 : Int64)) := by
  rw [Int64.lt_iff_toInt_lt, Int32.toInt_toInt64, show (0 : Int64).toInt = 0 from by decide]
  have := own_and32 (x := x) (m := (2147483647 : Int32)) (by decide)
  omega
theorem own_1J {r t : Int64} (h : r = if (1 : Int64) < t then t else (1 : Int64)) : ¬ (r < (1 : Int64)) := by
  rw [h]; split
  · rename_i q; rw [Int64.lt_iff_toInt_lt] at q ⊢; omega
  · decide
theorem own_1I {r t : Int32} (h : r = if (1 : Int32) < t then t else (1 : Int32)) : ¬ (r.toInt64 < (1 : Int64)) := by
  rw [h]; split
  · rename_i q; rw [Int32.lt_iff_toInt_lt] at q; rw [Int64.lt_iff_toInt_lt, Int32.toInt_toInt64, show (1 : Int64).toInt = 1 from by decide]
    rw [show (1 : Int32).toInt = 1 from by decide] at q; omega
  · decide
end Jvm.OwnGo
namespace Jvm.Pilot.@@N@@
open Jvm Jvm.ClassFile Sem Op Lib Jvm.Free Jvm.Stand Jvm.LawKit Jvm.RoadKit Jvm.OwnGo Bundle Jvm.Pilot.@@N@@.Jvm.D
theorem own_wS {Z : State} {a0 : Array Value} (hw : ∀ d ∈ tables_1, d.before a0 Z = true) : ∀ a ∈ Bundle.stringAtoms, a.before a0 Z = true := fun a ha => by
  rcases List.mem_cons.mp ha with rfl | ha
  · exact (hw _ (List.mem_of_getElem? (i := 37) rfl))
  rcases List.mem_cons.mp ha with rfl | ha
  · exact (hw _ (List.mem_of_getElem? (i := 38) rfl))
  rcases List.mem_cons.mp ha with rfl | ha
  · exact (hw _ (List.mem_of_getElem? (i := 39) rfl))
  rcases List.mem_cons.mp ha with rfl | ha
  · exact (hw _ (List.mem_of_getElem? (i := 40) rfl))
  rcases List.mem_cons.mp ha with rfl | ha
  · exact (hw _ (List.mem_of_getElem? (i := 41) rfl))
  rcases List.mem_cons.mp ha with rfl | ha
  · exact (hw _ (List.mem_of_getElem? (i := 42) rfl))
  rcases List.mem_cons.mp ha with rfl | ha
  · exact (hw _ (List.mem_of_getElem? (i := 43) rfl))
  exact nomatch ha
theorem d1_0 : decode jdk_29_method_65_code 0 = .ok (.iload_n 0, 1) := by decide +kernel
theorem d1_1 : decode jdk_29_method_65_code 1 = .ok (.iload_n 1, 1) := by decide +kernel
theorem d1_2 : decode jdk_29_method_65_code 2 = .ok (.if_icmp .lt 7, 3) := by decide +kernel
theorem d1_5 : decode jdk_29_method_65_code 5 = .ok (.iload_n 0, 1) := by decide +kernel
theorem d1_6 : decode jdk_29_method_65_code 6 = .ok (.goto 4, 3) := by decide +kernel
theorem d1_9 : decode jdk_29_method_65_code 9 = .ok (.iload_n 1, 1) := by decide +kernel
theorem d1_10 : decode jdk_29_method_65_code 10 = .ok (.ireturn, 1) := by decide +kernel
theorem ef_1 (m : MethodId) (x1 : Int32) (y1 : Int32) : entryFrame m #[(.int x1), (.int y1)] 2 = mkF m 0 #[.val (.int x1), .val (.int y1)] [] := by first | (simp [entryFrame, mkF, argsToLocals, Value.category]; done) | rfl
def Q1 (Z : State) (x1 : Int32) (y1 : Int32) (r : Int32) (h0 : Heap) (n0 : Nat) (v : Option Value) (h : Heap) (L : List Loc) : Prop := v = some (.int r) ∧ Fr n0 L ∧ h = h0
set_option maxRecDepth 65536 in
set_option maxHeartbeats 40000000 in
theorem rm1 (l : Launch) (Z : State) (a0 : Array Value) (hw : ∀ d ∈ tables_1, d.before a0 Z = true) (ws : List Jvm.Cond) (x1 : Int32) (y1 : Int32) (r : Int32) (h0 : Heap) (n0 : Nat) (Z0 : n0 ≤ h0.size) (hr : r = if x1 < y1 then y1 else x1) :
    MetFree l (⟨"java/lang/Math", "max", "(II)I"⟩ : MethodName) (head1 (Jvm.Cond.code (⟨"java/lang/Math", "max", "(II)I"⟩ : MethodName) jdk_29_method_65_code 2 (some .int) :: ws) ({ frames := 0, cells := 0, slots := 0, locals := 0 } : Room)) (fun a U => a = #[(.int x1), (.int y1)] ∧ Z.Warmed39 U.vm ∧ U.heap = h0) (fun _ _ _ _ _ => True) (fun _ U o U' => ∃ v L, o = .returned v ∧ Q1 Z x1 y1 r h0 n0 v U'.heap L ∧ FrameEnd U o U' L ({ frames := 0, cells := 0, slots := 0, locals := 0 } : Room).cells ({ frames := 0, cells := 0, slots := 0, locals := 0 } : Room).slots) := by
  refine MetFree.of_bodySF (Jvm.Free.JP.mathPlain rfl (by decide +kernel)) hisR ?_
  intro p e s m args below meth c s₁ Bd hml0 hP hK
  obtain ⟨rfl, hZ, hh⟩ := hP
  have hx := Bd.exec
  have hby := Bd.bytes
  have hml : c.maxLocals = 2 := hml0
  have hown : s.vm.findClass "java/lang/Math" = some m.cls := findClass_of_methodNamed Bd.named
  have hnm := (name_of_methodNamed Bd.named Bd.method).1
  have hlk : meth.locks = false := BodyLoose.notSynchronized Bd
  have X0 : Stand p l e ({ frames := 0, cells := 0, slots := 0, locals := 0 } : Room) s m #[(.int x1), (.int y1)] below meth c s₁ [] 0 0 := Stand.of_body Bd
  have e0 : s₁.heap = h0 := by rw [← hh, Bd.state]; rfl
  have N0 := Fr.nil n0
  suffices hgo : Go p e below s (Q1 Z x1 y1 r h0 n0) ({ frames := 0, cells := 0, slots := 0, locals := 0 } : Room).cells ({ frames := 0, cells := 0, slots := 0, locals := 0 } : Room).slots s₁ (mkF m 0 #[.val (.int x1), .val (.int y1)] []) by
    obtain ⟨s₂, o, k1, k2⟩ := hgo
    exact ⟨s₂, o, castTop (ef_1 m x1 y1) k1, k2⟩
  refine Go.st (T' := s₁) (g' := (mkF m 1 #[.val (.int x1), .val (.int y1)] [(.int x1)])) (fun t_ k_ => XS.iloadN X0.here hx rfl (hb hby d1_0) rfl  k_) ?_
  refine Go.st (T' := s₁) (g' := (mkF m 2 #[.val (.int x1), .val (.int y1)] [(.int y1), (.int x1)])) (fun t_ k_ => XS.iloadN X0.here hx rfl (hb hby d1_1) rfl  k_) ?_
  by_cases hc2 : x1 < y1
  · refine Go.st (T' := s₁) (g' := (mkF m 9 #[.val (.int x1), .val (.int y1)] [])) (fun t_ k_ => XS.icmpYes X0.here hx rfl (pc0 := 2) (pc' := 9) rfl (hb hby d1_2) rfl (tlt hc2).1 (by decide) (by decide) k_) ?_
    refine Go.st (T' := s₁) (g' := (mkF m 10 #[.val (.int x1), .val (.int y1)] [(.int y1)])) (fun t_ k_ => XS.iloadN X0.here hx rfl (hb hby d1_9) rfl  k_) ?_
    refine Go.retI X0 hx Bd.returns hlk (hb hby d1_10) (by decide) (by decide) ?_
    rw [e0]
    exact ⟨by rw [hr, if_pos hc2], N0, rfl⟩
  · refine Go.st (T' := s₁) (g' := (mkF m 5 #[.val (.int x1), .val (.int y1)] [])) (fun t_ k_ => XS.icmpNo X0.here hx rfl (hb hby d1_2) rfl (flt hc2).1 k_) ?_
    refine Go.st (T' := s₁) (g' := (mkF m 6 #[.val (.int x1), .val (.int y1)] [(.int x1)])) (fun t_ k_ => XS.iloadN X0.here hx rfl (hb hby d1_5) rfl  k_) ?_
    refine Go.st (T' := s₁) (g' := (mkF m 10 #[.val (.int x1), .val (.int y1)] [(.int x1)])) (fun t_ k_ => XS.goto X0.here hx rfl (pc0 := 6) (pc' := 10) rfl (hb hby d1_6) (by decide) (by decide) k_) ?_
    refine Go.retI X0 hx Bd.returns hlk (hb hby d1_10) (by decide) (by decide) ?_
    rw [e0]
    exact ⟨by rw [hr, if_neg hc2], N0, rfl⟩
theorem d4_0 : decode jdk_29_method_66_code 0 = .ok (.lload_n 0, 1) := by decide +kernel
theorem d4_1 : decode jdk_29_method_66_code 1 = .ok (.lload_n 2, 1) := by decide +kernel
theorem d4_2 : decode jdk_29_method_66_code 2 = .ok (.lcmp, 1) := by decide +kernel
theorem d4_3 : decode jdk_29_method_66_code 3 = .ok (.ifCond .lt 7, 3) := by decide +kernel
theorem d4_6 : decode jdk_29_method_66_code 6 = .ok (.lload_n 0, 1) := by decide +kernel
theorem d4_7 : decode jdk_29_method_66_code 7 = .ok (.goto 4, 3) := by decide +kernel
theorem d4_10 : decode jdk_29_method_66_code 10 = .ok (.lload_n 2, 1) := by decide +kernel
theorem d4_11 : decode jdk_29_method_66_code 11 = .ok (.lreturn, 1) := by decide +kernel
theorem ef_4 (m : MethodId) (x1 : Int64) (y1 : Int64) : entryFrame m #[(.long x1), (.long y1)] 4 = mkF m 0 #[.val (.long x1), .second, .val (.long y1), .second] [] := by first | (simp [entryFrame, mkF, argsToLocals, Value.category]; done) | rfl
def Q4 (Z : State) (x1 : Int64) (y1 : Int64) (r : Int64) (h0 : Heap) (n0 : Nat) (v : Option Value) (h : Heap) (L : List Loc) : Prop := v = some (.long r) ∧ Fr n0 L ∧ h = h0
set_option maxRecDepth 65536 in
set_option maxHeartbeats 40000000 in
theorem rm4 (l : Launch) (Z : State) (a0 : Array Value) (hw : ∀ d ∈ tables_1, d.before a0 Z = true) (ws : List Jvm.Cond) (x1 : Int64) (y1 : Int64) (r : Int64) (h0 : Heap) (n0 : Nat) (Z0 : n0 ≤ h0.size) (hr : r = if x1 < y1 then y1 else x1) :
    MetFree l (⟨"java/lang/Math", "max", "(JJ)J"⟩ : MethodName) (head1 (Jvm.Cond.code (⟨"java/lang/Math", "max", "(JJ)J"⟩ : MethodName) jdk_29_method_66_code 4 (some .long) :: ws) ({ frames := 0, cells := 0, slots := 0, locals := 0 } : Room)) (fun a U => a = #[(.long x1), (.long y1)] ∧ Z.Warmed39 U.vm ∧ U.heap = h0) (fun _ _ _ _ _ => True) (fun _ U o U' => ∃ v L, o = .returned v ∧ Q4 Z x1 y1 r h0 n0 v U'.heap L ∧ FrameEnd U o U' L ({ frames := 0, cells := 0, slots := 0, locals := 0 } : Room).cells ({ frames := 0, cells := 0, slots := 0, locals := 0 } : Room).slots) := by
  refine MetFree.of_bodySF (Jvm.Free.JP.mathPlain rfl (by decide +kernel)) hisR ?_
  intro p e s m args below meth c s₁ Bd hml0 hP hK
  obtain ⟨rfl, hZ, hh⟩ := hP
  have hx := Bd.exec
  have hby := Bd.bytes
  have hml : c.maxLocals = 4 := hml0
  have hown : s.vm.findClass "java/lang/Math" = some m.cls := findClass_of_methodNamed Bd.named
  have hnm := (name_of_methodNamed Bd.named Bd.method).1
  have hlk : meth.locks = false := BodyLoose.notSynchronized Bd
  have X0 : Stand p l e ({ frames := 0, cells := 0, slots := 0, locals := 0 } : Room) s m #[(.long x1), (.long y1)] below meth c s₁ [] 0 0 := Stand.of_body Bd
  have e0 : s₁.heap = h0 := by rw [← hh, Bd.state]; rfl
  have N0 := Fr.nil n0
  suffices hgo : Go p e below s (Q4 Z x1 y1 r h0 n0) ({ frames := 0, cells := 0, slots := 0, locals := 0 } : Room).cells ({ frames := 0, cells := 0, slots := 0, locals := 0 } : Room).slots s₁ (mkF m 0 #[.val (.long x1), .second, .val (.long y1), .second] []) by
    obtain ⟨s₂, o, k1, k2⟩ := hgo
    exact ⟨s₂, o, castTop (ef_4 m x1 y1) k1, k2⟩
  refine Go.st (T' := s₁) (g' := (mkF m 1 #[.val (.long x1), .second, .val (.long y1), .second] [(.long x1)])) (fun t_ k_ => XS.lloadN X0.here hx rfl (hb hby d4_0) rfl  k_) ?_
  refine Go.st (T' := s₁) (g' := (mkF m 2 #[.val (.long x1), .second, .val (.long y1), .second] [(.long y1), (.long x1)])) (fun t_ k_ => XS.lloadN X0.here hx rfl (hb hby d4_1) rfl  k_) ?_
  refine Go.st (T' := s₁) (g' := (mkF m 3 #[.val (.long x1), .second, .val (.long y1), .second] [(.int (lcmpW x1 y1))])) (fun t_ k_ => XS.lcmp X0.here hx rfl (hb hby d4_2) rfl k_) ?_
  by_cases hc3 : x1 < y1
  · refine Go.st (T' := s₁) (g' := (mkF m 10 #[.val (.long x1), .second, .val (.long y1), .second] [])) (fun t_ k_ => XS.ifYes X0.here hx rfl (pc0 := 3) (pc' := 10) rfl (hb hby d4_3) rfl ((if0 _ _).trans (tlt (lcw_lt hc3)).1) (by decide) (by decide) k_) ?_
    refine Go.st (T' := s₁) (g' := (mkF m 11 #[.val (.long x1), .second, .val (.long y1), .second] [(.long y1)])) (fun t_ k_ => XS.lloadN X0.here hx rfl (hb hby d4_10) rfl  k_) ?_
    refine Go.retJ X0 hx Bd.returns hlk (hb hby d4_11) (by decide) (by decide) ?_
    rw [e0]
    exact ⟨by rw [hr, if_pos hc3], N0, rfl⟩
  · refine Go.st (T' := s₁) (g' := (mkF m 6 #[.val (.long x1), .second, .val (.long y1), .second] [])) (fun t_ k_ => XS.ifNo X0.here hx rfl (hb hby d4_3) rfl ((if0 _ _).trans (flt (lcw_nlt hc3)).1) k_) ?_
    refine Go.st (T' := s₁) (g' := (mkF m 7 #[.val (.long x1), .second, .val (.long y1), .second] [(.long x1)])) (fun t_ k_ => XS.lloadN X0.here hx rfl (hb hby d4_6) rfl  k_) ?_
    refine Go.st (T' := s₁) (g' := (mkF m 11 #[.val (.long x1), .second, .val (.long y1), .second] [(.long x1)])) (fun t_ k_ => XS.goto X0.here hx rfl (pc0 := 7) (pc' := 11) rfl (hb hby d4_7) (by decide) (by decide) k_) ?_
    refine Go.retJ X0 hx Bd.returns hlk (hb hby d4_11) (by decide) (by decide) ?_
    rw [e0]
    exact ⟨by rw [hr, if_neg hc3], N0, rfl⟩
theorem pn_0 : plainName "com/example/rollback_for_flows/rollbackforflows/connector/PoolingProfileWithExhaustedActionPinLaw" = true := by first | (simp [plainName, overriddenIn]; done) | decide +kernel
theorem d2_0 : decode method_2_code 0 = .ok (.iload_n 0, 1) := by decide +kernel
theorem d2_1 : decode method_2_code 1 = .ok (.ifCond .ne 7, 3) := by decide +kernel
theorem d2_4 : decode method_2_code 4 = .ok (.getstatic 7, 3) := by decide +kernel
theorem d2_7 : decode method_2_code 7 = .ok (.areturn, 1) := by decide +kernel
theorem d2_8 : decode method_2_code 8 = .ok (.iload_n 0, 1) := by decide +kernel
theorem d2_9 : decode method_2_code 9 = .ok (.iconst 1, 1) := by decide +kernel
theorem d2_10 : decode method_2_code 10 = .ok (.if_icmp .ne 7, 3) := by decide +kernel
theorem d2_13 : decode method_2_code 13 = .ok (.getstatic 13, 3) := by decide +kernel
theorem d2_16 : decode method_2_code 16 = .ok (.areturn, 1) := by decide +kernel
theorem d2_17 : decode method_2_code 17 = .ok (.getstatic 16, 3) := by decide +kernel
theorem d2_20 : decode method_2_code 20 = .ok (.areturn, 1) := by decide +kernel
theorem ef_2 (m : MethodId) (i1 : Int32) : entryFrame m #[(.int i1)] 1 = mkF m 0 #[.val (.int i1)] [] := by first | (simp [entryFrame, mkF, argsToLocals, Value.category]; done) | rfl
def Q2 (Z : State) (i1 : Int32) (w0 : Addr) (w1 : Addr) (w2 : Addr) (r : Addr) (h0 : Heap) (n0 : Nat) (v : Option Value) (h : Heap) (L : List Loc) : Prop := v = some (.ref r) ∧ Fr n0 L ∧ h = h0
set_option maxRecDepth 65536 in
set_option maxHeartbeats 40000000 in
theorem rm2 (l : Launch) (Z : State) (a0 : Array Value) (hw : ∀ d ∈ tables_1, d.before a0 Z = true) (ws : List Jvm.Cond) (i1 : Int32) (w0 : Addr) (w1 : Addr) (w2 : Addr) (r : Addr) (h0 : Heap) (n0 : Nat) (Z0 : n0 ≤ h0.size) (S_0 : Sta Z h0 "com/example/rollback_for_flows/rollbackforflows/connector/PoolingProfile$ExhaustedAction" "WAIT" "Lcom/example/rollback_for_flows/rollbackforflows/connector/PoolingProfile$ExhaustedAction;" (.ref w0)) (S_1 : Sta Z h0 "com/example/rollback_for_flows/rollbackforflows/connector/PoolingProfile$ExhaustedAction" "FAIL" "Lcom/example/rollback_for_flows/rollbackforflows/connector/PoolingProfile$ExhaustedAction;" (.ref w1)) (S_2 : Sta Z h0 "com/example/rollback_for_flows/rollbackforflows/connector/PoolingProfile$ExhaustedAction" "GROW" "Lcom/example/rollback_for_flows/rollbackforflows/connector/PoolingProfile$ExhaustedAction;" (.ref w2)) (hr : r = if i1 = (0 : Int32) then w0 else if i1 = (1 : Int32) then w1 else w2) :
    MetFree l (⟨"com/example/rollback_for_flows/rollbackforflows/connector/PoolingProfileWithExhaustedActionPinLaw", "action", "(I)Lcom/example/rollback_for_flows/rollbackforflows/connector/PoolingProfile$ExhaustedAction;"⟩ : MethodName) (head1 (Jvm.Cond.code (⟨"com/example/rollback_for_flows/rollbackforflows/connector/PoolingProfileWithExhaustedActionPinLaw", "action", "(I)Lcom/example/rollback_for_flows/rollbackforflows/connector/PoolingProfile$ExhaustedAction;"⟩ : MethodName) method_2_code 1 (some (.object "com/example/rollback_for_flows/rollbackforflows/connector/PoolingProfile$ExhaustedAction")) :: ws) ({ frames := 0, cells := 0, slots := 0, locals := 0 } : Room)) (fun a U => a = #[(.int i1)] ∧ Z.Warmed39 U.vm ∧ U.heap = h0) (fun _ _ _ _ _ => True) (fun _ U o U' => ∃ v L, o = .returned v ∧ Q2 Z i1 w0 w1 w2 r h0 n0 v U'.heap L ∧ FrameEnd U o U' L ({ frames := 0, cells := 0, slots := 0, locals := 0 } : Room).cells ({ frames := 0, cells := 0, slots := 0, locals := 0 } : Room).slots) := by
  refine MetFree.of_bodySF (plainFor_of_name pn_0) hisR ?_
  intro p e s m args below meth c s₁ Bd hml0 hP hK
  obtain ⟨rfl, hZ, hh⟩ := hP
  have hx := Bd.exec
  have hby := Bd.bytes
  have hml : c.maxLocals = 1 := hml0
  have hown : s.vm.findClass "com/example/rollback_for_flows/rollbackforflows/connector/PoolingProfileWithExhaustedActionPinLaw" = some m.cls := findClass_of_methodNamed Bd.named
  have hnm := (name_of_methodNamed Bd.named Bd.method).1
  have hlk : meth.locks = false := BodyLoose.notSynchronized Bd
  have X0 : Stand p l e ({ frames := 0, cells := 0, slots := 0, locals := 0 } : Room) s m #[(.int i1)] below meth c s₁ [] 0 0 := Stand.of_body Bd
  have e0 : s₁.heap = h0 := by rw [← hh, Bd.state]; rfl
  have N0 := Fr.nil n0
  suffices hgo : Go p e below s (Q2 Z i1 w0 w1 w2 r h0 n0) ({ frames := 0, cells := 0, slots := 0, locals := 0 } : Room).cells ({ frames := 0, cells := 0, slots := 0, locals := 0 } : Room).slots s₁ (mkF m 0 #[.val (.int i1)] []) by
    obtain ⟨s₂, o, k1, k2⟩ := hgo
    exact ⟨s₂, o, castTop (ef_2 m i1) k1, k2⟩
  refine Go.st (T' := s₁) (g' := (mkF m 1 #[.val (.int i1)] [(.int i1)])) (fun t_ k_ => XS.iloadN X0.here hx rfl (hb hby d2_0) rfl  k_) ?_
  by_cases hc1 : i1 = (0 : Int32)
  · refine Go.st (T' := s₁) (g' := (mkF m 4 #[.val (.int i1)] [])) (fun t_ k_ => XS.ifNo X0.here hx rfl (hb hby d2_1) rfl ((if0 _ _).trans (teq hc1).2) k_) ?_
    obtain ⟨T1, X1, e1, st1⟩ := getS2 X0 hx hZ hown (host := "") (Or.inl (hw _ (List.mem_of_getElem? (i := 10) rfl))) Via.refl e0 S_0 (g := (mkF m 4 #[.val (.int i1)] [])) rfl (hb hby d2_4)
    refine Go.st (T' := T1) (g' := (mkF m 7 #[.val (.int i1)] [(.ref w0)])) st1 ?_
    refine Go.retA X1 hx Bd.returns hlk rfl rfl rfl (hb hby d2_7) (by decide) (by decide) ?_
    rw [e1]
    exact ⟨by rw [hr, if_pos hc1], N0, rfl⟩
  · refine Go.st (T' := s₁) (g' := (mkF m 8 #[.val (.int i1)] [])) (fun t_ k_ => XS.ifYes X0.here hx rfl (pc0 := 1) (pc' := 8) rfl (hb hby d2_1) rfl ((if0 _ _).trans (feq hc1).2) (by decide) (by decide) k_) ?_
    refine Go.st (T' := s₁) (g' := (mkF m 9 #[.val (.int i1)] [(.int i1)])) (fun t_ k_ => XS.iloadN X0.here hx rfl (hb hby d2_8) rfl  k_) ?_
    refine Go.st (T' := s₁) (g' := (mkF m 10 #[.val (.int i1)] [(.int (1 : Int32)), (.int i1)])) (fun t_ k_ => XS.iconst X0.here hx rfl (hb hby d2_9) k_) ?_
    by_cases hc10 : i1 = (1 : Int32)
    · refine Go.st (T' := s₁) (g' := (mkF m 13 #[.val (.int i1)] [])) (fun t_ k_ => XS.icmpNo X0.here hx rfl (hb hby d2_10) rfl (teq hc10).2 k_) ?_
      obtain ⟨T2, X2, e2, st2⟩ := getS2 X0 hx hZ hown (host := "") (Or.inl (hw _ (List.mem_of_getElem? (i := 120) rfl))) Via.refl e0 S_1 (g := (mkF m 13 #[.val (.int i1)] [])) rfl (hb hby d2_13)
      refine Go.st (T' := T2) (g' := (mkF m 16 #[.val (.int i1)] [(.ref w1)])) st2 ?_
      refine Go.retA X2 hx Bd.returns hlk rfl rfl rfl (hb hby d2_16) (by decide) (by decide) ?_
      rw [e2]
      exact ⟨by rw [hr, if_neg hc1, if_pos hc10], N0, rfl⟩
    · refine Go.st (T' := s₁) (g' := (mkF m 17 #[.val (.int i1)] [])) (fun t_ k_ => XS.icmpYes X0.here hx rfl (pc0 := 10) (pc' := 17) rfl (hb hby d2_10) rfl (feq hc10).2 (by decide) (by decide) k_) ?_
      obtain ⟨T3, X3, e3, st3⟩ := getS2 X0 hx hZ hown (host := "") (Or.inl (hw _ (List.mem_of_getElem? (i := 122) rfl))) Via.refl e0 S_2 (g := (mkF m 17 #[.val (.int i1)] [])) rfl (hb hby d2_17)
      refine Go.st (T' := T3) (g' := (mkF m 20 #[.val (.int i1)] [(.ref w2)])) st3 ?_
      refine Go.retA X3 hx Bd.returns hlk rfl rfl rfl (hb hby d2_20) (by decide) (by decide) ?_
      rw [e3]
      exact ⟨by rw [hr, if_neg hc1, if_neg hc10], N0, rfl⟩
theorem d3_0 : decode method_3_code 0 = .ok (.iload_n 0, 1) := by decide +kernel
theorem d3_1 : decode method_3_code 1 = .ok (.ifCond .ne 7, 3) := by decide +kernel
theorem d3_4 : decode method_3_code 4 = .ok (.getstatic 19, 3) := by decide +kernel
theorem d3_7 : decode method_3_code 7 = .ok (.areturn, 1) := by decide +kernel
theorem d3_8 : decode method_3_code 8 = .ok (.iload_n 0, 1) := by decide +kernel
theorem d3_9 : decode method_3_code 9 = .ok (.iconst 1, 1) := by decide +kernel
theorem d3_10 : decode method_3_code 10 = .ok (.if_icmp .ne 7, 3) := by decide +kernel
theorem d3_13 : decode method_3_code 13 = .ok (.getstatic 25, 3) := by decide +kernel
theorem d3_16 : decode method_3_code 16 = .ok (.areturn, 1) := by decide +kernel
theorem d3_17 : decode method_3_code 17 = .ok (.getstatic 28, 3) := by decide +kernel
theorem d3_20 : decode method_3_code 20 = .ok (.areturn, 1) := by decide +kernel
theorem ef_3 (m : MethodId) (i1 : Int32) : entryFrame m #[(.int i1)] 1 = mkF m 0 #[.val (.int i1)] [] := by first | (simp [entryFrame, mkF, argsToLocals, Value.category]; done) | rfl
def Q3 (Z : State) (i1 : Int32) (w0 : Addr) (w1 : Addr) (w2 : Addr) (r : Addr) (h0 : Heap) (n0 : Nat) (v : Option Value) (h : Heap) (L : List Loc) : Prop := v = some (.ref r) ∧ Fr n0 L ∧ h = h0
set_option maxRecDepth 65536 in
set_option maxHeartbeats 40000000 in
theorem rm3 (l : Launch) (Z : State) (a0 : Array Value) (hw : ∀ d ∈ tables_1, d.before a0 Z = true) (ws : List Jvm.Cond) (i1 : Int32) (w0 : Addr) (w1 : Addr) (w2 : Addr) (r : Addr) (h0 : Heap) (n0 : Nat) (Z0 : n0 ≤ h0.size) (S_0 : Sta Z h0 "com/example/rollback_for_flows/rollbackforflows/connector/PoolingProfile$InitialisationPolicy" "NONE" "Lcom/example/rollback_for_flows/rollbackforflows/connector/PoolingProfile$InitialisationPolicy;" (.ref w0)) (S_1 : Sta Z h0 "com/example/rollback_for_flows/rollbackforflows/connector/PoolingProfile$InitialisationPolicy" "ONE" "Lcom/example/rollback_for_flows/rollbackforflows/connector/PoolingProfile$InitialisationPolicy;" (.ref w1)) (S_2 : Sta Z h0 "com/example/rollback_for_flows/rollbackforflows/connector/PoolingProfile$InitialisationPolicy" "ALL" "Lcom/example/rollback_for_flows/rollbackforflows/connector/PoolingProfile$InitialisationPolicy;" (.ref w2)) (hr : r = if i1 = (0 : Int32) then w0 else if i1 = (1 : Int32) then w1 else w2) :
    MetFree l (⟨"com/example/rollback_for_flows/rollbackforflows/connector/PoolingProfileWithExhaustedActionPinLaw", "policy", "(I)Lcom/example/rollback_for_flows/rollbackforflows/connector/PoolingProfile$InitialisationPolicy;"⟩ : MethodName) (head1 (Jvm.Cond.code (⟨"com/example/rollback_for_flows/rollbackforflows/connector/PoolingProfileWithExhaustedActionPinLaw", "policy", "(I)Lcom/example/rollback_for_flows/rollbackforflows/connector/PoolingProfile$InitialisationPolicy;"⟩ : MethodName) method_3_code 1 (some (.object "com/example/rollback_for_flows/rollbackforflows/connector/PoolingProfile$InitialisationPolicy")) :: ws) ({ frames := 0, cells := 0, slots := 0, locals := 0 } : Room)) (fun a U => a = #[(.int i1)] ∧ Z.Warmed39 U.vm ∧ U.heap = h0) (fun _ _ _ _ _ => True) (fun _ U o U' => ∃ v L, o = .returned v ∧ Q3 Z i1 w0 w1 w2 r h0 n0 v U'.heap L ∧ FrameEnd U o U' L ({ frames := 0, cells := 0, slots := 0, locals := 0 } : Room).cells ({ frames := 0, cells := 0, slots := 0, locals := 0 } : Room).slots) := by
  refine MetFree.of_bodySF (plainFor_of_name pn_0) hisR ?_
  intro p e s m args below meth c s₁ Bd hml0 hP hK
  obtain ⟨rfl, hZ, hh⟩ := hP
  have hx := Bd.exec
  have hby := Bd.bytes
  have hml : c.maxLocals = 1 := hml0
  have hown : s.vm.findClass "com/example/rollback_for_flows/rollbackforflows/connector/PoolingProfileWithExhaustedActionPinLaw" = some m.cls := findClass_of_methodNamed Bd.named
  have hnm := (name_of_methodNamed Bd.named Bd.method).1
  have hlk : meth.locks = false := BodyLoose.notSynchronized Bd
  have X0 : Stand p l e ({ frames := 0, cells := 0, slots := 0, locals := 0 } : Room) s m #[(.int i1)] below meth c s₁ [] 0 0 := Stand.of_body Bd
  have e0 : s₁.heap = h0 := by rw [← hh, Bd.state]; rfl
  have N0 := Fr.nil n0
  suffices hgo : Go p e below s (Q3 Z i1 w0 w1 w2 r h0 n0) ({ frames := 0, cells := 0, slots := 0, locals := 0 } : Room).cells ({ frames := 0, cells := 0, slots := 0, locals := 0 } : Room).slots s₁ (mkF m 0 #[.val (.int i1)] []) by
    obtain ⟨s₂, o, k1, k2⟩ := hgo
    exact ⟨s₂, o, castTop (ef_3 m i1) k1, k2⟩
  refine Go.st (T' := s₁) (g' := (mkF m 1 #[.val (.int i1)] [(.int i1)])) (fun t_ k_ => XS.iloadN X0.here hx rfl (hb hby d3_0) rfl  k_) ?_
  by_cases hc1 : i1 = (0 : Int32)
  · refine Go.st (T' := s₁) (g' := (mkF m 4 #[.val (.int i1)] [])) (fun t_ k_ => XS.ifNo X0.here hx rfl (hb hby d3_1) rfl ((if0 _ _).trans (teq hc1).2) k_) ?_
    obtain ⟨T1, X1, e1, st1⟩ := getS2 X0 hx hZ hown (host := "") (Or.inl (hw _ (List.mem_of_getElem? (i := 16) rfl))) Via.refl e0 S_0 (g := (mkF m 4 #[.val (.int i1)] [])) rfl (hb hby d3_4)
    refine Go.st (T' := T1) (g' := (mkF m 7 #[.val (.int i1)] [(.ref w0)])) st1 ?_
    refine Go.retA X1 hx Bd.returns hlk rfl rfl rfl (hb hby d3_7) (by decide) (by decide) ?_
    rw [e1]
    exact ⟨by rw [hr, if_pos hc1], N0, rfl⟩
  · refine Go.st (T' := s₁) (g' := (mkF m 8 #[.val (.int i1)] [])) (fun t_ k_ => XS.ifYes X0.here hx rfl (pc0 := 1) (pc' := 8) rfl (hb hby d3_1) rfl ((if0 _ _).trans (feq hc1).2) (by decide) (by decide) k_) ?_
    refine Go.st (T' := s₁) (g' := (mkF m 9 #[.val (.int i1)] [(.int i1)])) (fun t_ k_ => XS.iloadN X0.here hx rfl (hb hby d3_8) rfl  k_) ?_
    refine Go.st (T' := s₁) (g' := (mkF m 10 #[.val (.int i1)] [(.int (1 : Int32)), (.int i1)])) (fun t_ k_ => XS.iconst X0.here hx rfl (hb hby d3_9) k_) ?_
    by_cases hc10 : i1 = (1 : Int32)
    · refine Go.st (T' := s₁) (g' := (mkF m 13 #[.val (.int i1)] [])) (fun t_ k_ => XS.icmpNo X0.here hx rfl (hb hby d3_10) rfl (teq hc10).2 k_) ?_
      obtain ⟨T2, X2, e2, st2⟩ := getS2 X0 hx hZ hown (host := "") (Or.inl (hw _ (List.mem_of_getElem? (i := 126) rfl))) Via.refl e0 S_1 (g := (mkF m 13 #[.val (.int i1)] [])) rfl (hb hby d3_13)
      refine Go.st (T' := T2) (g' := (mkF m 16 #[.val (.int i1)] [(.ref w1)])) st2 ?_
      refine Go.retA X2 hx Bd.returns hlk rfl rfl rfl (hb hby d3_16) (by decide) (by decide) ?_
      rw [e2]
      exact ⟨by rw [hr, if_neg hc1, if_pos hc10], N0, rfl⟩
    · refine Go.st (T' := s₁) (g' := (mkF m 17 #[.val (.int i1)] [])) (fun t_ k_ => XS.icmpYes X0.here hx rfl (pc0 := 10) (pc' := 17) rfl (hb hby d3_10) rfl (feq hc10).2 (by decide) (by decide) k_) ?_
      obtain ⟨T3, X3, e3, st3⟩ := getS2 X0 hx hZ hown (host := "") (Or.inl (hw _ (List.mem_of_getElem? (i := 124) rfl))) Via.refl e0 S_2 (g := (mkF m 17 #[.val (.int i1)] [])) rfl (hb hby d3_17)
      refine Go.st (T' := T3) (g' := (mkF m 20 #[.val (.int i1)] [(.ref w2)])) st3 ?_
      refine Go.retA X3 hx Bd.returns hlk rfl rfl rfl (hb hby d3_20) (by decide) (by decide) ?_
      rw [e3]
      exact ⟨by rw [hr, if_neg hc1, if_neg hc10], N0, rfl⟩
theorem pn_1 : plainName "java/lang/Record" = true := by first | (simp [plainName, overriddenIn]; done) | decide +kernel
theorem d6_0 : decode jdk_30_method_1_code 0 = .ok (.aload_n 0, 1) := by decide +kernel
theorem d6_1 : decode jdk_30_method_1_code 1 = .ok (.invokespecial 1, 3) := by decide +kernel
theorem d6_4 : decode jdk_30_method_1_code 4 = .ok (.return_, 1) := by decide +kernel
theorem ef_6 (m : MethodId) (a1 : Addr) : entryFrame m #[(.ref a1)] 1 = mkF m 0 #[.val (.ref a1)] [] := by first | (simp [entryFrame, mkF, argsToLocals, Value.category]; done) | rfl
def Q6 (Z : State) (a1 : Addr) (h0 : Heap) (n0 : Nat) (v : Option Value) (h : Heap) (L : List Loc) : Prop := v = none ∧ Fr n0 L ∧ h = h0
set_option maxRecDepth 65536 in
set_option maxHeartbeats 40000000 in
theorem rm6 (l : Launch) (Z : State) (a0 : Array Value) (hw : ∀ d ∈ tables_1, d.before a0 Z = true) (ws : List Jvm.Cond) (a1 : Addr) (h0 : Heap) (n0 : Nat) (Z0 : n0 ≤ h0.size)  :
    MetFree l (⟨"java/lang/Record", "<init>", "()V"⟩ : MethodName) (head1 (Jvm.Cond.code (⟨"java/lang/Record", "<init>", "()V"⟩ : MethodName) jdk_30_method_1_code 1 none :: ws) ({ frames := 1, cells := 0, slots := 0, locals := 12 } : Room)) (fun a U => a = #[(.ref a1)] ∧ Z.Warmed39 U.vm ∧ U.heap = h0) (fun _ _ _ _ _ => True) (fun _ U o U' => ∃ v L, o = .returned v ∧ Q6 Z a1 h0 n0 v U'.heap L ∧ FrameEnd U o U' L ({ frames := 1, cells := 0, slots := 0, locals := 12 } : Room).cells ({ frames := 1, cells := 0, slots := 0, locals := 12 } : Room).slots) := by
  refine MetFree.of_bodySF (plainFor_of_name pn_1) hisR ?_
  intro p e s m args below meth c s₁ Bd hml0 hP hK
  obtain ⟨rfl, hZ, hh⟩ := hP
  have hx := Bd.exec
  have hby := Bd.bytes
  have hml : c.maxLocals = 1 := hml0
  have hown : s.vm.findClass "java/lang/Record" = some m.cls := findClass_of_methodNamed Bd.named
  have hnm := (name_of_methodNamed Bd.named Bd.method).1
  have hlk : meth.locks = false := BodyLoose.notSynchronized Bd
  have X0 : Stand p l e ({ frames := 1, cells := 0, slots := 0, locals := 12 } : Room) s m #[(.ref a1)] below meth c s₁ [] 0 0 := Stand.of_body Bd
  have e0 : s₁.heap = h0 := by rw [← hh, Bd.state]; rfl
  have N0 := Fr.nil n0
  suffices hgo : Go p e below s (Q6 Z a1 h0 n0) ({ frames := 1, cells := 0, slots := 0, locals := 12 } : Room).cells ({ frames := 1, cells := 0, slots := 0, locals := 12 } : Room).slots s₁ (mkF m 0 #[.val (.ref a1)] []) by
    obtain ⟨s₂, o, k1, k2⟩ := hgo
    exact ⟨s₂, o, castTop (ef_6 m a1) k1, k2⟩
  refine Go.st (T' := s₁) (g' := (mkF m 1 #[.val (.ref a1)] [(.ref a1)])) (fun t_ k_ => XS.aloadN X0.here hx rfl (hb hby d6_0) rfl rfl k_) ?_
  obtain ⟨T1, X1, e1, st1⟩ := initO X0 hx hZ hown (hw _ (List.mem_of_getElem? (i := 33) rfl)) (hw _ (List.mem_of_getElem? (i := 34) rfl)) (hw _ (List.mem_of_getElem? (i := 35) rfl)) e0 (g := (mkF m 1 #[.val (.ref a1)] [(.ref a1)])) rfl (by rw [hml]; rfl) rfl (hb hby d6_1) (by decide) (W := 0) (by show 2 * 0 + _ ≤ _; exact Nat.le_of_eq rfl) (by decide)
  refine Go.st (T' := T1) (g' := (mkF m 4 #[.val (.ref a1)] [])) st1 ?_
  refine Go.ret0 X1 hx Bd.returns hlk (hb hby d6_4) (by decide) (by decide) ?_
  rw [e1]
  exact ⟨rfl, N0, rfl⟩
theorem pn_2 : plainName "java/util/Objects" = true := by first | (simp [plainName, overriddenIn]; done) | decide +kernel
theorem d8_0 : decode jdk_31_method_11_code 0 = .ok (.aload_n 0, 1) := by decide +kernel
theorem d8_1 : decode jdk_31_method_11_code 1 = .ok (.ifnonnull 12, 3) := by decide +kernel
theorem d8_13 : decode jdk_31_method_11_code 13 = .ok (.aload_n 0, 1) := by decide +kernel
theorem d8_14 : decode jdk_31_method_11_code 14 = .ok (.areturn, 1) := by decide +kernel
theorem ef_8 (m : MethodId) (a1 : Addr) (a2 : Addr) : entryFrame m #[(.ref a1), (.ref a2)] 2 = mkF m 0 #[.val (.ref a1), .val (.ref a2)] [] := by first | (simp [entryFrame, mkF, argsToLocals, Value.category]; done) | rfl
def Q8 (Z : State) (a1 : Addr) (a2 : Addr) (h0 : Heap) (n0 : Nat) (v : Option Value) (h : Heap) (L : List Loc) : Prop := v = some (.ref a1) ∧ Fr n0 L ∧ h = h0
set_option maxRecDepth 65536 in
set_option maxHeartbeats 40000000 in
theorem rm8 (l : Launch) (Z : State) (a0 : Array Value) (hw : ∀ d ∈ tables_1, d.before a0 Z = true) (ws : List Jvm.Cond) (a1 : Addr) (a2 : Addr) (h0 : Heap) (n0 : Nat) (Z0 : n0 ≤ h0.size)  :
    MetFree l (⟨"java/util/Objects", "requireNonNull", "(Ljava/lang/Object;Ljava/lang/String;)Ljava/lang/Object;"⟩ : MethodName) (head1 (Jvm.Cond.code (⟨"java/util/Objects", "requireNonNull", "(Ljava/lang/Object;Ljava/lang/String;)Ljava/lang/Object;"⟩ : MethodName) jdk_31_method_11_code 2 (some (.object "java/lang/Object")) :: ws) ({ frames := 0, cells := 0, slots := 0, locals := 0 } : Room)) (fun a U => a = #[(.ref a1), (.ref a2)] ∧ Z.Warmed39 U.vm ∧ U.heap = h0) (fun _ _ _ _ _ => True) (fun _ U o U' => ∃ v L, o = .returned v ∧ Q8 Z a1 a2 h0 n0 v U'.heap L ∧ FrameEnd U o U' L ({ frames := 0, cells := 0, slots := 0, locals := 0 } : Room).cells ({ frames := 0, cells := 0, slots := 0, locals := 0 } : Room).slots) := by
  refine MetFree.of_bodySF (plainFor_of_name pn_2) hisR ?_
  intro p e s m args below meth c s₁ Bd hml0 hP hK
  obtain ⟨rfl, hZ, hh⟩ := hP
  have hx := Bd.exec
  have hby := Bd.bytes
  have hml : c.maxLocals = 2 := hml0
  have hown : s.vm.findClass "java/util/Objects" = some m.cls := findClass_of_methodNamed Bd.named
  have hnm := (name_of_methodNamed Bd.named Bd.method).1
  have hlk : meth.locks = false := BodyLoose.notSynchronized Bd
  have X0 : Stand p l e ({ frames := 0, cells := 0, slots := 0, locals := 0 } : Room) s m #[(.ref a1), (.ref a2)] below meth c s₁ [] 0 0 := Stand.of_body Bd
  have e0 : s₁.heap = h0 := by rw [← hh, Bd.state]; rfl
  have N0 := Fr.nil n0
  suffices hgo : Go p e below s (Q8 Z a1 a2 h0 n0) ({ frames := 0, cells := 0, slots := 0, locals := 0 } : Room).cells ({ frames := 0, cells := 0, slots := 0, locals := 0 } : Room).slots s₁ (mkF m 0 #[.val (.ref a1), .val (.ref a2)] []) by
    obtain ⟨s₂, o, k1, k2⟩ := hgo
    exact ⟨s₂, o, castTop (ef_8 m a1 a2) k1, k2⟩
  refine Go.st (T' := s₁) (g' := (mkF m 1 #[.val (.ref a1), .val (.ref a2)] [(.ref a1)])) (fun t_ k_ => XS.aloadN X0.here hx rfl (hb hby d8_0) rfl rfl k_) ?_
  refine Go.st (T' := s₁) (g' := (mkF m 13 #[.val (.ref a1), .val (.ref a2)] [])) (fun t_ k_ => XS.ifnonnullYes X0.here hx rfl (pc0 := 1) (pc' := 13) rfl (hb hby d8_1) rfl (by decide) (by decide) k_) ?_
  refine Go.st (T' := s₁) (g' := (mkF m 14 #[.val (.ref a1), .val (.ref a2)] [(.ref a1)])) (fun t_ k_ => XS.aloadN X0.here hx rfl (hb hby d8_13) rfl rfl k_) ?_
  refine Go.retA X0 hx Bd.returns hlk rfl rfl rfl (hb hby d8_14) (by decide) (by decide) ?_
  rw [e0]
  exact ⟨rfl, N0, rfl⟩
theorem pn_3 : plainName "com/example/rollback_for_flows/rollbackforflows/connector/PoolingProfile" = true := by first | (simp [plainName, overriddenIn]; done) | decide +kernel
theorem d9_0 : decode prog_31_method_10_code 0 = .ok (.lload_n 2, 1) := by decide +kernel
theorem d9_1 : decode prog_31_method_10_code 1 = .ok (.lload_n 0, 1) := by decide +kernel
theorem d9_2 : decode prog_31_method_10_code 2 = .ok (.lcmp, 1) := by decide +kernel
theorem d9_3 : decode prog_31_method_10_code 3 = .ok (.ifCond .ge 39, 3) := by decide +kernel
theorem d9_42 : decode prog_31_method_10_code 42 = .ok (.return_, 1) := by decide +kernel
theorem ef_9 (m : MethodId) (x1 : Int64) (y1 : Int64) (a3 : Addr) : entryFrame m #[(.long x1), (.long y1), (.ref a3)] 5 = mkF m 0 #[.val (.long x1), .second, .val (.long y1), .second, .val (.ref a3)] [] := by first | (simp [entryFrame, mkF, argsToLocals, Value.category]; done) | rfl
def Q9 (Z : State) (x1 : Int64) (y1 : Int64) (a3 : Addr) (h0 : Heap) (n0 : Nat) (v : Option Value) (h : Heap) (L : List Loc) : Prop := v = none ∧ Fr n0 L ∧ h = h0
set_option maxRecDepth 65536 in
set_option maxHeartbeats 40000000 in
theorem rm9 (l : Launch) (Z : State) (a0 : Array Value) (hw : ∀ d ∈ tables_1, d.before a0 Z = true) (ws : List Jvm.Cond) (x1 : Int64) (y1 : Int64) (a3 : Addr) (h0 : Heap) (n0 : Nat) (Z0 : n0 ≤ h0.size) (hge : ¬ (y1 < x1)) :
    MetFree l (⟨"com/example/rollback_for_flows/rollbackforflows/connector/PoolingProfile", "requireAtLeast", "(JJLjava/lang/String;)V"⟩ : MethodName) (head1 (Jvm.Cond.code (⟨"com/example/rollback_for_flows/rollbackforflows/connector/PoolingProfile", "requireAtLeast", "(JJLjava/lang/String;)V"⟩ : MethodName) prog_31_method_10_code 5 none :: ws) ({ frames := 0, cells := 0, slots := 0, locals := 0 } : Room)) (fun a U => a = #[(.long x1), (.long y1), (.ref a3)] ∧ Z.Warmed39 U.vm ∧ U.heap = h0) (fun _ _ _ _ _ => True) (fun _ U o U' => ∃ v L, o = .returned v ∧ Q9 Z x1 y1 a3 h0 n0 v U'.heap L ∧ FrameEnd U o U' L ({ frames := 0, cells := 0, slots := 0, locals := 0 } : Room).cells ({ frames := 0, cells := 0, slots := 0, locals := 0 } : Room).slots) := by
  refine MetFree.of_bodySF (plainFor_of_name pn_3) hisR ?_
  intro p e s m args below meth c s₁ Bd hml0 hP hK
  obtain ⟨rfl, hZ, hh⟩ := hP
  have hx := Bd.exec
  have hby := Bd.bytes
  have hml : c.maxLocals = 5 := hml0
  have hown : s.vm.findClass "com/example/rollback_for_flows/rollbackforflows/connector/PoolingProfile" = some m.cls := findClass_of_methodNamed Bd.named
  have hnm := (name_of_methodNamed Bd.named Bd.method).1
  have hlk : meth.locks = false := BodyLoose.notSynchronized Bd
  have X0 : Stand p l e ({ frames := 0, cells := 0, slots := 0, locals := 0 } : Room) s m #[(.long x1), (.long y1), (.ref a3)] below meth c s₁ [] 0 0 := Stand.of_body Bd
  have e0 : s₁.heap = h0 := by rw [← hh, Bd.state]; rfl
  have N0 := Fr.nil n0
  suffices hgo : Go p e below s (Q9 Z x1 y1 a3 h0 n0) ({ frames := 0, cells := 0, slots := 0, locals := 0 } : Room).cells ({ frames := 0, cells := 0, slots := 0, locals := 0 } : Room).slots s₁ (mkF m 0 #[.val (.long x1), .second, .val (.long y1), .second, .val (.ref a3)] []) by
    obtain ⟨s₂, o, k1, k2⟩ := hgo
    exact ⟨s₂, o, castTop (ef_9 m x1 y1 a3) k1, k2⟩
  refine Go.st (T' := s₁) (g' := (mkF m 1 #[.val (.long x1), .second, .val (.long y1), .second, .val (.ref a3)] [(.long y1)])) (fun t_ k_ => XS.lloadN X0.here hx rfl (hb hby d9_0) rfl  k_) ?_
  refine Go.st (T' := s₁) (g' := (mkF m 2 #[.val (.long x1), .second, .val (.long y1), .second, .val (.ref a3)] [(.long x1), (.long y1)])) (fun t_ k_ => XS.lloadN X0.here hx rfl (hb hby d9_1) rfl  k_) ?_
  refine Go.st (T' := s₁) (g' := (mkF m 3 #[.val (.long x1), .second, .val (.long y1), .second, .val (.ref a3)] [(.int (lcmpW y1 x1))])) (fun t_ k_ => XS.lcmp X0.here hx rfl (hb hby d9_2) rfl k_) ?_
  refine Go.st (T' := s₁) (g' := (mkF m 42 #[.val (.long x1), .second, .val (.long y1), .second, .val (.ref a3)] [])) (fun t_ k_ => XS.ifYes X0.here hx rfl (pc0 := 3) (pc' := 42) rfl (hb hby d9_3) rfl ((if0 _ _).trans (flt (lcw_nlt hge)).2.1) (by decide) (by decide) k_) ?_
  refine Go.ret0 X0 hx Bd.returns hlk (hb hby d9_42) (by decide) (by decide) ?_
  rw [e0]
  exact ⟨rfl, N0, rfl⟩
theorem pd_0 : parseMethodDescriptor "()V" = some ⟨[], none⟩ := by decide +kernel
theorem pd_1 : parseMethodDescriptor "(Ljava/lang/Object;Ljava/lang/String;)Ljava/lang/Object;" = some ⟨[(.object "java/lang/Object"), (.object "java/lang/String")], some (.object "java/lang/Object")⟩ := by decide +kernel
theorem pd_2 : parseMethodDescriptor "(JJLjava/lang/String;)V" = some ⟨[.long, .long, (.object "java/lang/String")], none⟩ := by decide +kernel
theorem d5_0 : decode prog_31_method_1_code 0 = .ok (.aload_n 0, 1) := by decide +kernel
theorem d5_1 : decode prog_31_method_1_code 1 = .ok (.invokespecial 1, 3) := by decide +kernel
theorem d5_4 : decode prog_31_method_1_code 4 = .ok (.aload 5, 2) := by decide +kernel
theorem d5_6 : decode prog_31_method_1_code 6 = .ok (.ldc 7, 2) := by decide +kernel
theorem d5_8 : decode prog_31_method_1_code 8 = .ok (.invokestatic 9, 3) := by decide +kernel
theorem d5_11 : decode prog_31_method_1_code 11 = .ok (.pop, 1) := by decide +kernel
theorem d5_12 : decode prog_31_method_1_code 12 = .ok (.aload 6, 2) := by decide +kernel
theorem d5_14 : decode prog_31_method_1_code 14 = .ok (.ldc 15, 2) := by decide +kernel
theorem d5_16 : decode prog_31_method_1_code 16 = .ok (.invokestatic 9, 3) := by decide +kernel
theorem d5_19 : decode prog_31_method_1_code 19 = .ok (.pop, 1) := by decide +kernel
theorem d5_20 : decode prog_31_method_1_code 20 = .ok (.lconst 1, 1) := by decide +kernel
theorem d5_21 : decode prog_31_method_1_code 21 = .ok (.iload_n 1, 1) := by decide +kernel
theorem d5_22 : decode prog_31_method_1_code 22 = .ok (.i2l, 1) := by decide +kernel
theorem d5_23 : decode prog_31_method_1_code 23 = .ok (.ldc 17, 2) := by decide +kernel
theorem d5_25 : decode prog_31_method_1_code 25 = .ok (.invokestatic 19, 3) := by decide +kernel
theorem d5_28 : decode prog_31_method_1_code 28 = .ok (.lconst 0, 1) := by decide +kernel
theorem d5_29 : decode prog_31_method_1_code 29 = .ok (.iload_n 2, 1) := by decide +kernel
theorem d5_30 : decode prog_31_method_1_code 30 = .ok (.i2l, 1) := by decide +kernel
theorem d5_31 : decode prog_31_method_1_code 31 = .ok (.ldc 25, 2) := by decide +kernel
theorem d5_33 : decode prog_31_method_1_code 33 = .ok (.invokestatic 19, 3) := by decide +kernel
theorem d5_36 : decode prog_31_method_1_code 36 = .ok (.lconst 0, 1) := by decide +kernel
theorem d5_37 : decode prog_31_method_1_code 37 = .ok (.lload_n 3, 1) := by decide +kernel
theorem d5_38 : decode prog_31_method_1_code 38 = .ok (.ldc 27, 2) := by decide +kernel
theorem d5_40 : decode prog_31_method_1_code 40 = .ok (.invokestatic 19, 3) := by decide +kernel
theorem d5_43 : decode prog_31_method_1_code 43 = .ok (.lconst 0, 1) := by decide +kernel
theorem d5_44 : decode prog_31_method_1_code 44 = .ok (.lload 8, 2) := by decide +kernel
theorem d5_46 : decode prog_31_method_1_code 46 = .ok (.ldc 29, 2) := by decide +kernel
theorem d5_48 : decode prog_31_method_1_code 48 = .ok (.invokestatic 19, 3) := by decide +kernel
theorem d5_51 : decode prog_31_method_1_code 51 = .ok (.lconst 1, 1) := by decide +kernel
theorem d5_52 : decode prog_31_method_1_code 52 = .ok (.lload 10, 2) := by decide +kernel
theorem d5_54 : decode prog_31_method_1_code 54 = .ok (.ldc 31, 2) := by decide +kernel
theorem d5_56 : decode prog_31_method_1_code 56 = .ok (.invokestatic 19, 3) := by decide +kernel
theorem d5_59 : decode prog_31_method_1_code 59 = .ok (.aload_n 0, 1) := by decide +kernel
theorem d5_60 : decode prog_31_method_1_code 60 = .ok (.iload_n 1, 1) := by decide +kernel
theorem d5_61 : decode prog_31_method_1_code 61 = .ok (.putfield 33, 3) := by decide +kernel
theorem d5_64 : decode prog_31_method_1_code 64 = .ok (.aload_n 0, 1) := by decide +kernel
theorem d5_65 : decode prog_31_method_1_code 65 = .ok (.iload_n 2, 1) := by decide +kernel
theorem d5_66 : decode prog_31_method_1_code 66 = .ok (.putfield 37, 3) := by decide +kernel
theorem d5_69 : decode prog_31_method_1_code 69 = .ok (.aload_n 0, 1) := by decide +kernel
theorem d5_70 : decode prog_31_method_1_code 70 = .ok (.lload_n 3, 1) := by decide +kernel
theorem d5_71 : decode prog_31_method_1_code 71 = .ok (.putfield 40, 3) := by decide +kernel
theorem d5_74 : decode prog_31_method_1_code 74 = .ok (.aload_n 0, 1) := by decide +kernel
theorem d5_75 : decode prog_31_method_1_code 75 = .ok (.aload 5, 2) := by decide +kernel
theorem d5_77 : decode prog_31_method_1_code 77 = .ok (.putfield 44, 3) := by decide +kernel
theorem d5_80 : decode prog_31_method_1_code 80 = .ok (.aload_n 0, 1) := by decide +kernel
theorem d5_81 : decode prog_31_method_1_code 81 = .ok (.aload 6, 2) := by decide +kernel
theorem d5_83 : decode prog_31_method_1_code 83 = .ok (.putfield 47, 3) := by decide +kernel
theorem d5_86 : decode prog_31_method_1_code 86 = .ok (.aload_n 0, 1) := by decide +kernel
theorem d5_87 : decode prog_31_method_1_code 87 = .ok (.iload 7, 2) := by decide +kernel
theorem d5_89 : decode prog_31_method_1_code 89 = .ok (.putfield 50, 3) := by decide +kernel
theorem d5_92 : decode prog_31_method_1_code 92 = .ok (.aload_n 0, 1) := by decide +kernel
theorem d5_93 : decode prog_31_method_1_code 93 = .ok (.lload 8, 2) := by decide +kernel
theorem d5_95 : decode prog_31_method_1_code 95 = .ok (.putfield 54, 3) := by decide +kernel
theorem d5_98 : decode prog_31_method_1_code 98 = .ok (.aload_n 0, 1) := by decide +kernel
theorem d5_99 : decode prog_31_method_1_code 99 = .ok (.lload 10, 2) := by decide +kernel
theorem d5_101 : decode prog_31_method_1_code 101 = .ok (.putfield 57, 3) := by decide +kernel
theorem d5_104 : decode prog_31_method_1_code 104 = .ok (.return_, 1) := by decide +kernel
theorem ef_5 (m : MethodId) (a1 : Addr) (i1 : Int32) (i2 : Int32) (j3 : Int64) (r4 : Addr) (r5 : Addr) (z6 : Int32) (j7 : Int64) (j8 : Int64) : entryFrame m #[(.ref a1), (.int i1), (.int i2), (.long j3), (.ref r4), (.ref r5), (.int z6), (.long j7), (.long j8)] 12 = mkF m 0 #[.val (.ref a1), .val (.int i1), .val (.int i2), .val (.long j3), .second, .val (.ref r4), .val (.ref r5), .val (.int z6), .val (.long j7), .second, .val (.long j8), .second] [] := by first | (simp [entryFrame, mkF, argsToLocals, Value.category]; done) | rfl
def Q5 (Z : State) (a1 : Addr) (i1 : Int32) (i2 : Int32) (j3 : Int64) (r4 : Addr) (r5 : Addr) (z6 : Int32) (j7 : Int64) (j8 : Int64) (h0 : Heap) (n0 : Nat) (v : Option Value) (h : Heap) (L : List Loc) : Prop := v = none ∧ Fr n0 L ∧ Keep h0 h [a1] ∧ Exa Z h a1 "com/example/rollback_for_flows/rollbackforflows/connector/PoolingProfile" ∧ Fld Z h a1 "com/example/rollback_for_flows/rollbackforflows/connector/PoolingProfile" "maxActive" "I" (.int i1) ∧ Fld Z h a1 "com/example/rollback_for_flows/rollbackforflows/connector/PoolingProfile" "maxIdle" "I" (.int i2) ∧ Fld Z h a1 "com/example/rollback_for_flows/rollbackforflows/connector/PoolingProfile" "maxWaitMillis" "J" (.long j3) ∧ Fld Z h a1 "com/example/rollback_for_flows/rollbackforflows/connector/PoolingProfile" "exhaustedAction" "Lcom/example/rollback_for_flows/rollbackforflows/connector/PoolingProfile$ExhaustedAction;" (.ref r4) ∧ Fld Z h a1 "com/example/rollback_for_flows/rollbackforflows/connector/PoolingProfile" "initialisationPolicy" "Lcom/example/rollback_for_flows/rollbackforflows/connector/PoolingProfile$InitialisationPolicy;" (.ref r5) ∧ Fld Z h a1 "com/example/rollback_for_flows/rollbackforflows/connector/PoolingProfile" "evicts" "Z" (.int z6) ∧ Fld Z h a1 "com/example/rollback_for_flows/rollbackforflows/connector/PoolingProfile" "minEvictionMillis" "J" (.long j7) ∧ Fld Z h a1 "com/example/rollback_for_flows/rollbackforflows/connector/PoolingProfile" "evictionCheckIntervalMillis" "J" (.long j8)
set_option maxRecDepth 65536 in
set_option maxHeartbeats 40000000 in
theorem rm5 (l : Launch) (Z : State) (a0 : Array Value) (hw : ∀ d ∈ tables_1, d.before a0 Z = true) (ws : List Jvm.Cond) (a1 : Addr) (i1 : Int32) (i2 : Int32) (j3 : Int64) (r4 : Addr) (r5 : Addr) (z6 : Int32) (j7 : Int64) (j8 : Int64) (h0 : Heap) (n0 : Nat) (Z0 : n0 ≤ h0.size) (E_a1 : Exa Z h0 a1 "com/example/rollback_for_flows/rollbackforflows/connector/PoolingProfile") (g_a1 : n0 ≤ a1) (F_maxActive : Fld Z h0 a1 "com/example/rollback_for_flows/rollbackforflows/connector/PoolingProfile" "maxActive" "I" (.int (0 : Int32))) (F_maxIdle : Fld Z h0 a1 "com/example/rollback_for_flows/rollbackforflows/connector/PoolingProfile" "maxIdle" "I" (.int (0 : Int32))) (F_maxWaitMillis : Fld Z h0 a1 "com/example/rollback_for_flows/rollbackforflows/connector/PoolingProfile" "maxWaitMillis" "J" (.long (0 : Int64))) (F_exhaustedAction : Fld Z h0 a1 "com/example/rollback_for_flows/rollbackforflows/connector/PoolingProfile" "exhaustedAction" "Lcom/example/rollback_for_flows/rollbackforflows/connector/PoolingProfile$ExhaustedAction;" .null) (F_initialisationPolicy : Fld Z h0 a1 "com/example/rollback_for_flows/rollbackforflows/connector/PoolingProfile" "initialisationPolicy" "Lcom/example/rollback_for_flows/rollbackforflows/connector/PoolingProfile$InitialisationPolicy;" .null) (F_evicts : Fld Z h0 a1 "com/example/rollback_for_flows/rollbackforflows/connector/PoolingProfile" "evicts" "Z" (.int (0 : Int32))) (F_minEvictionMillis : Fld Z h0 a1 "com/example/rollback_for_flows/rollbackforflows/connector/PoolingProfile" "minEvictionMillis" "J" (.long (0 : Int64))) (F_evictionCheckIntervalMillis : Fld Z h0 a1 "com/example/rollback_for_flows/rollbackforflows/connector/PoolingProfile" "evictionCheckIntervalMillis" "J" (.long (0 : Int64))) (hp1 : ¬ ((i1.toInt64) < (1 : Int64))) (hp2 : ¬ ((i2.toInt64) < (0 : Int64))) (hp3 : ¬ (j3 < (0 : Int64))) (hz : nar .boolean z6 = z6) (hp7 : ¬ (j7 < (0 : Int64))) (hp8 : ¬ (j8 < (1 : Int64))) :
    MetFree l (⟨"com/example/rollback_for_flows/rollbackforflows/connector/PoolingProfile", "<init>", "(IIJLcom/example/rollback_for_flows/rollbackforflows/connector/PoolingProfile$ExhaustedAction;Lcom/example/rollback_for_flows/rollbackforflows/connector/PoolingProfile$InitialisationPolicy;ZJJ)V"⟩ : MethodName) (head1 (Jvm.Cond.code (⟨"com/example/rollback_for_flows/rollbackforflows/connector/PoolingProfile", "<init>", "(IIJLcom/example/rollback_for_flows/rollbackforflows/connector/PoolingProfile$ExhaustedAction;Lcom/example/rollback_for_flows/rollbackforflows/connector/PoolingProfile$InitialisationPolicy;ZJJ)V"⟩ : MethodName) prog_31_method_1_code 12 none :: ws) ({ frames := 2, cells := 14, slots := 496, locals := 24 } : Room)) (fun a U => a = #[(.ref a1), (.int i1), (.int i2), (.long j3), (.ref r4), (.ref r5), (.int z6), (.long j7), (.long j8)] ∧ Z.Warmed39 U.vm ∧ U.heap = h0) (fun _ _ _ _ _ => True) (fun _ U o U' => ∃ v L, o = .returned v ∧ Q5 Z a1 i1 i2 j3 r4 r5 z6 j7 j8 h0 n0 v U'.heap L ∧ ReturnedEndW U o U' L ({ frames := 2, cells := 14, slots := 496, locals := 24 } : Room).cells ({ frames := 2, cells := 14, slots := 496, locals := 24 } : Room).slots) := by
  refine MetFree.of_bodySF (plainFor_of_name pn_3) hisR ?_
  intro p e s m args below meth c s₁ Bd hml0 hP hK
  obtain ⟨rfl, hZ, hh⟩ := hP
  have hx := Bd.exec
  have hby := Bd.bytes
  have hml : c.maxLocals = 12 := hml0
  have hown : s.vm.findClass "com/example/rollback_for_flows/rollbackforflows/connector/PoolingProfile" = some m.cls := findClass_of_methodNamed Bd.named
  have hnm := (name_of_methodNamed Bd.named Bd.method).1
  have hlk : meth.locks = false := BodyLoose.notSynchronized Bd
  have X0 : Stand p l e ({ frames := 2, cells := 14, slots := 496, locals := 24 } : Room) (s.setVm s.vm) m #[(.ref a1), (.int i1), (.int i2), (.long j3), (.ref r4), (.ref r5), (.int z6), (.long j7), (.long j8)] below meth c s₁ [] 0 0 := Stand.of_body Bd
  have e0 : s₁.heap = h0 := by rw [← hh, Bd.state]; rfl
  have N0 := Fr.nil n0
  suffices hgo : GoW p e below s (Q5 Z a1 i1 i2 j3 r4 r5 z6 j7 j8 h0 n0) ({ frames := 2, cells := 14, slots := 496, locals := 24 } : Room).cells ({ frames := 2, cells := 14, slots := 496, locals := 24 } : Room).slots s₁ (mkF m 0 #[.val (.ref a1), .val (.int i1), .val (.int i2), .val (.long j3), .second, .val (.ref r4), .val (.ref r5), .val (.int z6), .val (.long j7), .second, .val (.long j8), .second] []) by
    obtain ⟨s₂, o, k1, k2⟩ := hgo
    exact ⟨s₂, o, castTop (ef_5 m a1 i1 i2 j3 r4 r5 z6 j7 j8) k1, k2⟩
  have hS0 : s.Since s.vm h0.size := State.WarmedH.since (State.WarmedH.refl s) _
  have hk0 : h0.size ≤ h0.size := Nat.le_refl _
  have hZ : Z.Warmed39 (s.setVm s.vm).vm := hZ
  have hown : (s.setVm s.vm).vm.findClass "com/example/rollback_for_flows/rollbackforflows/connector/PoolingProfile" = some m.cls := hown
  refine GoW.st (T' := s₁) (g' := (mkF m 1 #[.val (.ref a1), .val (.int i1), .val (.int i2), .val (.long j3), .second, .val (.ref r4), .val (.ref r5), .val (.int z6), .val (.long j7), .second, .val (.long j8), .second] [(.ref a1)])) (fun t_ k_ => XS.aloadN X0.here hx rfl (hb hby d5_0) rfl rfl k_) ?_
  obtain ⟨_, _, ⟨T1, L1, k1, n1⟩, -, X1, ⟨Lc1, hQ1, l1, y1, z1⟩, st1⟩ := X0.specialBack hx (y := (⟨"java/lang/Record", "<init>", "()V"⟩ : MethodName)) rfl hown (mvT hZ (hw _ (List.mem_of_getElem? (i := 28) rfl))) (mvT hZ (hw _ (List.mem_of_getElem? (i := 29) rfl))) (mvT hZ (hw _ (List.mem_of_getElem? (i := 32) rfl))) (by decide) (backOf (W := 0) (rm6 l Z a0 hw [] a1  h0 n0 Z0 ) hZ (hw _ (List.mem_of_getElem? (i := 32) rfl)) (hw _ (List.mem_of_getElem? (i := 31) rfl)) (by decide) (by decide)) (g := (mkF m 1 #[.val (.ref a1), .val (.int i1), .val (.int i2), .val (.long j3), .second, .val (.ref r4), .val (.ref r5), .val (.int z6), .val (.long j7), .second, .val (.long j8), .second] [(.ref a1)])) rfl (by rw [hml]; rfl) (Steps.refl _) (a := a1) (argsL := []) (rest := []) (lenOf pd_0 rfl) rfl (by show 2 * 0 + _ ≤ _; exact Nat.le_of_eq rfl) (hb hby d5_1) (fun _ _ => ⟨rfl, e0, (by decide : 0 + 0 ≤ _), (by decide : 0 + 0 ≤ _)⟩)
  dsimp only [Pt.U, Pt.locs, Pt.cells, Pt.slots] at X1 l1 y1 z1 st1 hQ1
  subst l1 y1 z1
  obtain ⟨rfl, Nq1, e1⟩ := hQ1
  have N1 := Fr.app N0 Nq1
  refine GoW.ts (T' := T1) (g' := (mkF m 4 #[.val (.ref a1), .val (.int i1), .val (.int i2), .val (.long j3), .second, .val (.ref r4), .val (.ref r5), .val (.int z6), .val (.long j7), .second, .val (.long j8), .second] [])) st1 ?_
  refine GoW.st (T' := T1) (g' := (mkF m 6 #[.val (.ref a1), .val (.int i1), .val (.int i2), .val (.long j3), .second, .val (.ref r4), .val (.ref r5), .val (.int z6), .val (.long j7), .second, .val (.long j8), .second] [(.ref r4)])) (fun t_ k_ => XS.aload X1.here hx rfl (hb hby d5_4) rfl rfl k_) ?_
  obtain ⟨a2, T2, h2, ks2, X2, e2, E2, hS2, hk2, hZ, hown, st2⟩ := ldcS X1 hx hZ hown (hw _ (List.mem_of_getElem? (i := 36) rfl)) (own_wS hw) e1 hS0 hk0 (g := (mkF m 6 #[.val (.ref a1), .val (.int i1), .val (.int i2), .val (.long j3), .second, .val (.ref r4), .val (.ref r5), .val (.int z6), .val (.long j7), .second, .val (.long j8), .second] [(.ref r4)])) rfl (hb hby d5_6) (n := 60) (by decide) (by decide) (by decide) (by decide)
  have K2 := Keep.ext (Keep.refl h0 [a1]) E2
  refine GoW.st (T' := T2) (g' := (mkF m 8 #[.val (.ref a1), .val (.int i1), .val (.int i2), .val (.long j3), .second, .val (.ref r4), .val (.ref r5), .val (.int z6), .val (.long j7), .second, .val (.long j8), .second] [(.ref a2), (.ref r4)])) st2 ?_
  obtain ⟨_, _, ⟨T3, L3, k3, n3⟩, -, X3, ⟨Lc3, hQ3, l3, y3, z3⟩, st3⟩ := Jvm.LawKit.callS X2 hx (y := (⟨"java/util/Objects", "requireNonNull", "(Ljava/lang/Object;Ljava/lang/String;)Ljava/lang/Object;"⟩ : MethodName)) hown (mvT hZ (hw _ (List.mem_of_getElem? (i := 44) rfl))) (mvT hZ (hw _ (List.mem_of_getElem? (i := 45) rfl))) (mvT hZ (hw _ (List.mem_of_getElem? (i := 46) rfl))) (mvT hZ (hw _ (List.mem_of_getElem? (i := 47) rfl))) (by decide) (backOf (W := 0) (rm8 l Z a0 hw [] r4 a2  h2 n0 (Nat.le_trans Z0 E2.1) ) hZ (hw _ (List.mem_of_getElem? (i := 47) rfl)) (hw _ (List.mem_of_getElem? (i := 46) rfl)) (by decide) (by decide)) (g := (mkF m 8 #[.val (.ref a1), .val (.int i1), .val (.int i2), .val (.long j3), .second, .val (.ref r4), .val (.ref r5), .val (.int z6), .val (.long j7), .second, .val (.long j8), .second] [(.ref a2), (.ref r4)])) rfl (by rw [hml]; rfl) (argsL := [(.ref r4), (.ref a2)]) (rest := []) (lenOf pd_1 rfl) rfl (by show 2 * 0 + _ ≤ _; exact Nat.le_of_eq rfl) (hb hby d5_8) (fun _ _ => ⟨rfl, e2, (by decide : 2 + 0 ≤ _), (by decide : 64 + 0 ≤ _)⟩)
  dsimp only [Pt.U, Pt.locs, Pt.cells, Pt.slots] at X3 l3 y3 z3 st3 hQ3
  subst l3 y3 z3
  obtain ⟨rfl, Nq3, e3⟩ := hQ3
  have N3 := Fr.app N1 Nq3
  refine GoW.st (T' := T3) (g' := (mkF m 11 #[.val (.ref a1), .val (.int i1), .val (.int i2), .val (.long j3), .second, .val (.ref r4), .val (.ref r5), .val (.int z6), .val (.long j7), .second, .val (.long j8), .second] [(.ref r4)])) st3 ?_
  refine GoW.st (T' := T3) (g' := (mkF m 12 #[.val (.ref a1), .val (.int i1), .val (.int i2), .val (.long j3), .second, .val (.ref r4), .val (.ref r5), .val (.int z6), .val (.long j7), .second, .val (.long j8), .second] [])) (fun t_ k_ => XS.pop X3.here hx rfl (hb hby d5_11) rfl rfl k_) ?_
  refine GoW.st (T' := T3) (g' := (mkF m 14 #[.val (.ref a1), .val (.int i1), .val (.int i2), .val (.long j3), .second, .val (.ref r4), .val (.ref r5), .val (.int z6), .val (.long j7), .second, .val (.long j8), .second] [(.ref r5)])) (fun t_ k_ => XS.aload X3.here hx rfl (hb hby d5_12) rfl rfl k_) ?_
  obtain ⟨a4, T4, h4, ks4, X4, e4, E4, hS4, hk4, hZ, hown, st4⟩ := ldcS X3 hx hZ hown (hw _ (List.mem_of_getElem? (i := 48) rfl)) (own_wS hw) e3 hS2 hk2 (g := (mkF m 14 #[.val (.ref a1), .val (.int i1), .val (.int i2), .val (.long j3), .second, .val (.ref r4), .val (.ref r5), .val (.int z6), .val (.long j7), .second, .val (.long j8), .second] [(.ref r5)])) rfl (hb hby d5_14) (n := 80) (by decide) (by decide) (by decide) (by decide)
  have K4 := Keep.ext K2 E4
  refine GoW.st (T' := T4) (g' := (mkF m 16 #[.val (.ref a1), .val (.int i1), .val (.int i2), .val (.long j3), .second, .val (.ref r4), .val (.ref r5), .val (.int z6), .val (.long j7), .second, .val (.long j8), .second] [(.ref a4), (.ref r5)])) st4 ?_
  obtain ⟨_, _, ⟨T5, L5, k5, n5⟩, -, X5, ⟨Lc5, hQ5, l5, y5, z5⟩, st5⟩ := Jvm.LawKit.callS X4 hx (y := (⟨"java/util/Objects", "requireNonNull", "(Ljava/lang/Object;Ljava/lang/String;)Ljava/lang/Object;"⟩ : MethodName)) hown (mvT hZ (hw _ (List.mem_of_getElem? (i := 44) rfl))) (mvT hZ (hw _ (List.mem_of_getElem? (i := 45) rfl))) (mvT hZ (hw _ (List.mem_of_getElem? (i := 46) rfl))) (mvT hZ (hw _ (List.mem_of_getElem? (i := 47) rfl))) (by decide) (backOf (W := 0) (rm8 l Z a0 hw [] r5 a4  h4 n0 (Nat.le_trans (Nat.le_trans Z0 E2.1) E4.1) ) hZ (hw _ (List.mem_of_getElem? (i := 47) rfl)) (hw _ (List.mem_of_getElem? (i := 46) rfl)) (by decide) (by decide)) (g := (mkF m 16 #[.val (.ref a1), .val (.int i1), .val (.int i2), .val (.long j3), .second, .val (.ref r4), .val (.ref r5), .val (.int z6), .val (.long j7), .second, .val (.long j8), .second] [(.ref a4), (.ref r5)])) rfl (by rw [hml]; rfl) (argsL := [(.ref r5), (.ref a4)]) (rest := []) (lenOf pd_1 rfl) rfl (by show 2 * 0 + _ ≤ _; exact Nat.le_of_eq rfl) (hb hby d5_16) (fun _ _ => ⟨rfl, e4, (by decide : 4 + 0 ≤ _), (by decide : 148 + 0 ≤ _)⟩)
  dsimp only [Pt.U, Pt.locs, Pt.cells, Pt.slots] at X5 l5 y5 z5 st5 hQ5
  subst l5 y5 z5
  obtain ⟨rfl, Nq5, e5⟩ := hQ5
  have N5 := Fr.app N3 Nq5
  refine GoW.st (T' := T5) (g' := (mkF m 19 #[.val (.ref a1), .val (.int i1), .val (.int i2), .val (.long j3), .second, .val (.ref r4), .val (.ref r5), .val (.int z6), .val (.long j7), .second, .val (.long j8), .second] [(.ref r5)])) st5 ?_
  refine GoW.st (T' := T5) (g' := (mkF m 20 #[.val (.ref a1), .val (.int i1), .val (.int i2), .val (.long j3), .second, .val (.ref r4), .val (.ref r5), .val (.int z6), .val (.long j7), .second, .val (.long j8), .second] [])) (fun t_ k_ => XS.pop X5.here hx rfl (hb hby d5_19) rfl rfl k_) ?_
  refine GoW.st (T' := T5) (g' := (mkF m 21 #[.val (.ref a1), .val (.int i1), .val (.int i2), .val (.long j3), .second, .val (.ref r4), .val (.ref r5), .val (.int z6), .val (.long j7), .second, .val (.long j8), .second] [(.long (1 : Int64))])) (fun t_ k_ => XS.lconst X5.here hx rfl (hb hby d5_20) k_) ?_
  refine GoW.st (T' := T5) (g' := (mkF m 22 #[.val (.ref a1), .val (.int i1), .val (.int i2), .val (.long j3), .second, .val (.ref r4), .val (.ref r5), .val (.int z6), .val (.long j7), .second, .val (.long j8), .second] [(.int i1), (.long (1 : Int64))])) (fun t_ k_ => XS.iloadN X5.here hx rfl (hb hby d5_21) rfl  k_) ?_
  refine GoW.st (T' := T5) (g' := (mkF m 23 #[.val (.ref a1), .val (.int i1), .val (.int i2), .val (.long j3), .second, .val (.ref r4), .val (.ref r5), .val (.int z6), .val (.long j7), .second, .val (.long j8), .second] [(.long (i1.toInt64)), (.long (1 : Int64))])) (fun t_ k_ => XS.i2l X5.here hx rfl (hb hby d5_22) rfl k_) ?_
  obtain ⟨a6, T6, h6, ks6, X6, e6, E6, hS6, hk6, hZ, hown, st6⟩ := ldcS X5 hx hZ hown (hw _ (List.mem_of_getElem? (i := 49) rfl)) (own_wS hw) e5 hS4 hk4 (g := (mkF m 23 #[.val (.ref a1), .val (.int i1), .val (.int i2), .val (.long j3), .second, .val (.ref r4), .val (.ref r5), .val (.int z6), .val (.long j7), .second, .val (.long j8), .second] [(.long (i1.toInt64)), (.long (1 : Int64))])) rfl (hb hby d5_23) (n := 40) (by decide) (by decide) (by decide) (by decide)
  have K6 := Keep.ext K4 E6
  refine GoW.st (T' := T6) (g' := (mkF m 25 #[.val (.ref a1), .val (.int i1), .val (.int i2), .val (.long j3), .second, .val (.ref r4), .val (.ref r5), .val (.int z6), .val (.long j7), .second, .val (.long j8), .second] [(.ref a6), (.long (i1.toInt64)), (.long (1 : Int64))])) st6 ?_
  obtain ⟨_, _, ⟨T7, L7, k7, n7⟩, -, X7, ⟨Lc7, hQ7, l7, y7, z7⟩, st7⟩ := Jvm.LawKit.callS X6 hx (y := (⟨"com/example/rollback_for_flows/rollbackforflows/connector/PoolingProfile", "requireAtLeast", "(JJLjava/lang/String;)V"⟩ : MethodName)) hown (mvT hZ (hw _ (List.mem_of_getElem? (i := 50) rfl))) (mvT hZ (hw _ (List.mem_of_getElem? (i := 51) rfl))) (mvT hZ (hw _ (List.mem_of_getElem? (i := 24) rfl))) (mvT hZ (hw _ (List.mem_of_getElem? (i := 52) rfl))) (by decide) (backOf (W := 0) (rm9 l Z a0 hw [] (1 : Int64) (i1.toInt64) a6  h6 n0 (Nat.le_trans (Nat.le_trans (Nat.le_trans Z0 E2.1) E4.1) E6.1) hp1) hZ (hw _ (List.mem_of_getElem? (i := 52) rfl)) (hw _ (List.mem_of_getElem? (i := 24) rfl)) (by decide) (by decide)) (g := (mkF m 25 #[.val (.ref a1), .val (.int i1), .val (.int i2), .val (.long j3), .second, .val (.ref r4), .val (.ref r5), .val (.int z6), .val (.long j7), .second, .val (.long j8), .second] [(.ref a6), (.long (i1.toInt64)), (.long (1 : Int64))])) rfl (by rw [hml]; rfl) (argsL := [(.long (1 : Int64)), (.long (i1.toInt64)), (.ref a6)]) (rest := []) (lenOf pd_2 rfl) rfl (by show 2 * 0 + _ ≤ _; exact Nat.le_of_eq rfl) (hb hby d5_25) (fun _ _ => ⟨rfl, e6, (by decide : 6 + 0 ≤ _), (by decide : 192 + 0 ≤ _)⟩)
  dsimp only [Pt.U, Pt.locs, Pt.cells, Pt.slots] at X7 l7 y7 z7 st7 hQ7
  subst l7 y7 z7
  obtain ⟨rfl, Nq7, e7⟩ := hQ7
  have N7 := Fr.app N5 Nq7
  refine GoW.st (T' := T7) (g' := (mkF m 28 #[.val (.ref a1), .val (.int i1), .val (.int i2), .val (.long j3), .second, .val (.ref r4), .val (.ref r5), .val (.int z6), .val (.long j7), .second, .val (.long j8), .second] [])) st7 ?_
  refine GoW.st (T' := T7) (g' := (mkF m 29 #[.val (.ref a1), .val (.int i1), .val (.int i2), .val (.long j3), .second, .val (.ref r4), .val (.ref r5), .val (.int z6), .val (.long j7), .second, .val (.long j8), .second] [(.long (0 : Int64))])) (fun t_ k_ => XS.lconst X7.here hx rfl (hb hby d5_28) k_) ?_
  refine GoW.st (T' := T7) (g' := (mkF m 30 #[.val (.ref a1), .val (.int i1), .val (.int i2), .val (.long j3), .second, .val (.ref r4), .val (.ref r5), .val (.int z6), .val (.long j7), .second, .val (.long j8), .second] [(.int i2), (.long (0 : Int64))])) (fun t_ k_ => XS.iloadN X7.here hx rfl (hb hby d5_29) rfl  k_) ?_
  refine GoW.st (T' := T7) (g' := (mkF m 31 #[.val (.ref a1), .val (.int i1), .val (.int i2), .val (.long j3), .second, .val (.ref r4), .val (.ref r5), .val (.int z6), .val (.long j7), .second, .val (.long j8), .second] [(.long (i2.toInt64)), (.long (0 : Int64))])) (fun t_ k_ => XS.i2l X7.here hx rfl (hb hby d5_30) rfl k_) ?_
  obtain ⟨a8, T8, h8, ks8, X8, e8, E8, hS8, hk8, hZ, hown, st8⟩ := ldcS X7 hx hZ hown (hw _ (List.mem_of_getElem? (i := 53) rfl)) (own_wS hw) e7 hS6 hk6 (g := (mkF m 31 #[.val (.ref a1), .val (.int i1), .val (.int i2), .val (.long j3), .second, .val (.ref r4), .val (.ref r5), .val (.int z6), .val (.long j7), .second, .val (.long j8), .second] [(.long (i2.toInt64)), (.long (0 : Int64))])) rfl (hb hby d5_31) (n := 32) (by decide) (by decide) (by decide) (by decide)
  have K8 := Keep.ext K6 E8
  refine GoW.st (T' := T8) (g' := (mkF m 33 #[.val (.ref a1), .val (.int i1), .val (.int i2), .val (.long j3), .second, .val (.ref r4), .val (.ref r5), .val (.int z6), .val (.long j7), .second, .val (.long j8), .second] [(.ref a8), (.long (i2.toInt64)), (.long (0 : Int64))])) st8 ?_
  obtain ⟨_, _, ⟨T9, L9, k9, n9⟩, -, X9, ⟨Lc9, hQ9, l9, y9, z9⟩, st9⟩ := Jvm.LawKit.callS X8 hx (y := (⟨"com/example/rollback_for_flows/rollbackforflows/connector/PoolingProfile", "requireAtLeast", "(JJLjava/lang/String;)V"⟩ : MethodName)) hown (mvT hZ (hw _ (List.mem_of_getElem? (i := 50) rfl))) (mvT hZ (hw _ (List.mem_of_getElem? (i := 51) rfl))) (mvT hZ (hw _ (List.mem_of_getElem? (i := 24) rfl))) (mvT hZ (hw _ (List.mem_of_getElem? (i := 52) rfl))) (by decide) (backOf (W := 0) (rm9 l Z a0 hw [] (0 : Int64) (i2.toInt64) a8  h8 n0 (Nat.le_trans (Nat.le_trans (Nat.le_trans (Nat.le_trans Z0 E2.1) E4.1) E6.1) E8.1) hp2) hZ (hw _ (List.mem_of_getElem? (i := 52) rfl)) (hw _ (List.mem_of_getElem? (i := 24) rfl)) (by decide) (by decide)) (g := (mkF m 33 #[.val (.ref a1), .val (.int i1), .val (.int i2), .val (.long j3), .second, .val (.ref r4), .val (.ref r5), .val (.int z6), .val (.long j7), .second, .val (.long j8), .second] [(.ref a8), (.long (i2.toInt64)), (.long (0 : Int64))])) rfl (by rw [hml]; rfl) (argsL := [(.long (0 : Int64)), (.long (i2.toInt64)), (.ref a8)]) (rest := []) (lenOf pd_2 rfl) rfl (by show 2 * 0 + _ ≤ _; exact Nat.le_of_eq rfl) (hb hby d5_33) (fun _ _ => ⟨rfl, e8, (by decide : 8 + 0 ≤ _), (by decide : 228 + 0 ≤ _)⟩)
  dsimp only [Pt.U, Pt.locs, Pt.cells, Pt.slots] at X9 l9 y9 z9 st9 hQ9
  subst l9 y9 z9
  obtain ⟨rfl, Nq9, e9⟩ := hQ9
  have N9 := Fr.app N7 Nq9
  refine GoW.st (T' := T9) (g' := (mkF m 36 #[.val (.ref a1), .val (.int i1), .val (.int i2), .val (.long j3), .second, .val (.ref r4), .val (.ref r5), .val (.int z6), .val (.long j7), .second, .val (.long j8), .second] [])) st9 ?_
  refine GoW.st (T' := T9) (g' := (mkF m 37 #[.val (.ref a1), .val (.int i1), .val (.int i2), .val (.long j3), .second, .val (.ref r4), .val (.ref r5), .val (.int z6), .val (.long j7), .second, .val (.long j8), .second] [(.long (0 : Int64))])) (fun t_ k_ => XS.lconst X9.here hx rfl (hb hby d5_36) k_) ?_
  refine GoW.st (T' := T9) (g' := (mkF m 38 #[.val (.ref a1), .val (.int i1), .val (.int i2), .val (.long j3), .second, .val (.ref r4), .val (.ref r5), .val (.int z6), .val (.long j7), .second, .val (.long j8), .second] [(.long j3), (.long (0 : Int64))])) (fun t_ k_ => XS.lloadN X9.here hx rfl (hb hby d5_37) rfl  k_) ?_
  obtain ⟨a10, T10, h10, ks10, X10, e10, E10, hS10, hk10, hZ, hown, st10⟩ := ldcS X9 hx hZ hown (hw _ (List.mem_of_getElem? (i := 54) rfl)) (own_wS hw) e9 hS8 hk8 (g := (mkF m 38 #[.val (.ref a1), .val (.int i1), .val (.int i2), .val (.long j3), .second, .val (.ref r4), .val (.ref r5), .val (.int z6), .val (.long j7), .second, .val (.long j8), .second] [(.long j3), (.long (0 : Int64))])) rfl (hb hby d5_38) (n := 60) (by decide) (by decide) (by decide) (by decide)
  have K10 := Keep.ext K8 E10
  refine GoW.st (T' := T10) (g' := (mkF m 40 #[.val (.ref a1), .val (.int i1), .val (.int i2), .val (.long j3), .second, .val (.ref r4), .val (.ref r5), .val (.int z6), .val (.long j7), .second, .val (.long j8), .second] [(.ref a10), (.long j3), (.long (0 : Int64))])) st10 ?_
  obtain ⟨_, _, ⟨T11, L11, k11, n11⟩, -, X11, ⟨Lc11, hQ11, l11, y11, z11⟩, st11⟩ := Jvm.LawKit.callS X10 hx (y := (⟨"com/example/rollback_for_flows/rollbackforflows/connector/PoolingProfile", "requireAtLeast", "(JJLjava/lang/String;)V"⟩ : MethodName)) hown (mvT hZ (hw _ (List.mem_of_getElem? (i := 50) rfl))) (mvT hZ (hw _ (List.mem_of_getElem? (i := 51) rfl))) (mvT hZ (hw _ (List.mem_of_getElem? (i := 24) rfl))) (mvT hZ (hw _ (List.mem_of_getElem? (i := 52) rfl))) (by decide) (backOf (W := 0) (rm9 l Z a0 hw [] (0 : Int64) j3 a10  h10 n0 (Nat.le_trans (Nat.le_trans (Nat.le_trans (Nat.le_trans (Nat.le_trans Z0 E2.1) E4.1) E6.1) E8.1) E10.1) hp3) hZ (hw _ (List.mem_of_getElem? (i := 52) rfl)) (hw _ (List.mem_of_getElem? (i := 24) rfl)) (by decide) (by decide)) (g := (mkF m 40 #[.val (.ref a1), .val (.int i1), .val (.int i2), .val (.long j3), .second, .val (.ref r4), .val (.ref r5), .val (.int z6), .val (.long j7), .second, .val (.long j8), .second] [(.ref a10), (.long j3), (.long (0 : Int64))])) rfl (by rw [hml]; rfl) (argsL := [(.long (0 : Int64)), (.long j3), (.ref a10)]) (rest := []) (lenOf pd_2 rfl) rfl (by show 2 * 0 + _ ≤ _; exact Nat.le_of_eq rfl) (hb hby d5_40) (fun _ _ => ⟨rfl, e10, (by decide : 10 + 0 ≤ _), (by decide : 292 + 0 ≤ _)⟩)
  dsimp only [Pt.U, Pt.locs, Pt.cells, Pt.slots] at X11 l11 y11 z11 st11 hQ11
  subst l11 y11 z11
  obtain ⟨rfl, Nq11, e11⟩ := hQ11
  have N11 := Fr.app N9 Nq11
  refine GoW.st (T' := T11) (g' := (mkF m 43 #[.val (.ref a1), .val (.int i1), .val (.int i2), .val (.long j3), .second, .val (.ref r4), .val (.ref r5), .val (.int z6), .val (.long j7), .second, .val (.long j8), .second] [])) st11 ?_
  refine GoW.st (T' := T11) (g' := (mkF m 44 #[.val (.ref a1), .val (.int i1), .val (.int i2), .val (.long j3), .second, .val (.ref r4), .val (.ref r5), .val (.int z6), .val (.long j7), .second, .val (.long j8), .second] [(.long (0 : Int64))])) (fun t_ k_ => XS.lconst X11.here hx rfl (hb hby d5_43) k_) ?_
  refine GoW.st (T' := T11) (g' := (mkF m 46 #[.val (.ref a1), .val (.int i1), .val (.int i2), .val (.long j3), .second, .val (.ref r4), .val (.ref r5), .val (.int z6), .val (.long j7), .second, .val (.long j8), .second] [(.long j7), (.long (0 : Int64))])) (fun t_ k_ => XS.lload X11.here hx rfl (hb hby d5_44) rfl  k_) ?_
  obtain ⟨a12, T12, h12, ks12, X12, e12, E12, hS12, hk12, hZ, hown, st12⟩ := ldcS X11 hx hZ hown (hw _ (List.mem_of_getElem? (i := 55) rfl)) (own_wS hw) e11 hS10 hk10 (g := (mkF m 46 #[.val (.ref a1), .val (.int i1), .val (.int i2), .val (.long j3), .second, .val (.ref r4), .val (.ref r5), .val (.int z6), .val (.long j7), .second, .val (.long j8), .second] [(.long j7), (.long (0 : Int64))])) rfl (hb hby d5_46) (n := 76) (by decide) (by decide) (by decide) (by decide)
  have K12 := Keep.ext K10 E12
  refine GoW.st (T' := T12) (g' := (mkF m 48 #[.val (.ref a1), .val (.int i1), .val (.int i2), .val (.long j3), .second, .val (.ref r4), .val (.ref r5), .val (.int z6), .val (.long j7), .second, .val (.long j8), .second] [(.ref a12), (.long j7), (.long (0 : Int64))])) st12 ?_
  obtain ⟨_, _, ⟨T13, L13, k13, n13⟩, -, X13, ⟨Lc13, hQ13, l13, y13, z13⟩, st13⟩ := Jvm.LawKit.callS X12 hx (y := (⟨"com/example/rollback_for_flows/rollbackforflows/connector/PoolingProfile", "requireAtLeast", "(JJLjava/lang/String;)V"⟩ : MethodName)) hown (mvT hZ (hw _ (List.mem_of_getElem? (i := 50) rfl))) (mvT hZ (hw _ (List.mem_of_getElem? (i := 51) rfl))) (mvT hZ (hw _ (List.mem_of_getElem? (i := 24) rfl))) (mvT hZ (hw _ (List.mem_of_getElem? (i := 52) rfl))) (by decide) (backOf (W := 0) (rm9 l Z a0 hw [] (0 : Int64) j7 a12  h12 n0 (Nat.le_trans (Nat.le_trans (Nat.le_trans (Nat.le_trans (Nat.le_trans (Nat.le_trans Z0 E2.1) E4.1) E6.1) E8.1) E10.1) E12.1) hp7) hZ (hw _ (List.mem_of_getElem? (i := 52) rfl)) (hw _ (List.mem_of_getElem? (i := 24) rfl)) (by decide) (by decide)) (g := (mkF m 48 #[.val (.ref a1), .val (.int i1), .val (.int i2), .val (.long j3), .second, .val (.ref r4), .val (.ref r5), .val (.int z6), .val (.long j7), .second, .val (.long j8), .second] [(.ref a12), (.long j7), (.long (0 : Int64))])) rfl (by rw [hml]; rfl) (argsL := [(.long (0 : Int64)), (.long j7), (.ref a12)]) (rest := []) (lenOf pd_2 rfl) rfl (by show 2 * 0 + _ ≤ _; exact Nat.le_of_eq rfl) (hb hby d5_48) (fun _ _ => ⟨rfl, e12, (by decide : 12 + 0 ≤ _), (by decide : 372 + 0 ≤ _)⟩)
  dsimp only [Pt.U, Pt.locs, Pt.cells, Pt.slots] at X13 l13 y13 z13 st13 hQ13
  subst l13 y13 z13
  obtain ⟨rfl, Nq13, e13⟩ := hQ13
  have N13 := Fr.app N11 Nq13
  refine GoW.st (T' := T13) (g' := (mkF m 51 #[.val (.ref a1), .val (.int i1), .val (.int i2), .val (.long j3), .second, .val (.ref r4), .val (.ref r5), .val (.int z6), .val (.long j7), .second, .val (.long j8), .second] [])) st13 ?_
  refine GoW.st (T' := T13) (g' := (mkF m 52 #[.val (.ref a1), .val (.int i1), .val (.int i2), .val (.long j3), .second, .val (.ref r4), .val (.ref r5), .val (.int z6), .val (.long j7), .second, .val (.long j8), .second] [(.long (1 : Int64))])) (fun t_ k_ => XS.lconst X13.here hx rfl (hb hby d5_51) k_) ?_
  refine GoW.st (T' := T13) (g' := (mkF m 54 #[.val (.ref a1), .val (.int i1), .val (.int i2), .val (.long j3), .second, .val (.ref r4), .val (.ref r5), .val (.int z6), .val (.long j7), .second, .val (.long j8), .second] [(.long j8), (.long (1 : Int64))])) (fun t_ k_ => XS.lload X13.here hx rfl (hb hby d5_52) rfl  k_) ?_
  obtain ⟨a14, T14, h14, ks14, X14, e14, E14, hS14, hk14, hZ, hown, st14⟩ := ldcS X13 hx hZ hown (hw _ (List.mem_of_getElem? (i := 56) rfl)) (own_wS hw) e13 hS12 hk12 (g := (mkF m 54 #[.val (.ref a1), .val (.int i1), .val (.int i2), .val (.long j3), .second, .val (.ref r4), .val (.ref r5), .val (.int z6), .val (.long j7), .second, .val (.long j8), .second] [(.long j8), (.long (1 : Int64))])) rfl (hb hby d5_54) (n := 120) (by decide) (by decide) (by decide) (by decide)
  have K14 := Keep.ext K12 E14
  refine GoW.st (T' := T14) (g' := (mkF m 56 #[.val (.ref a1), .val (.int i1), .val (.int i2), .val (.long j3), .second, .val (.ref r4), .val (.ref r5), .val (.int z6), .val (.long j7), .second, .val (.long j8), .second] [(.ref a14), (.long j8), (.long (1 : Int64))])) st14 ?_
  obtain ⟨_, _, ⟨T15, L15, k15, n15⟩, -, X15, ⟨Lc15, hQ15, l15, y15, z15⟩, st15⟩ := Jvm.LawKit.callS X14 hx (y := (⟨"com/example/rollback_for_flows/rollbackforflows/connector/PoolingProfile", "requireAtLeast", "(JJLjava/lang/String;)V"⟩ : MethodName)) hown (mvT hZ (hw _ (List.mem_of_getElem? (i := 50) rfl))) (mvT hZ (hw _ (List.mem_of_getElem? (i := 51) rfl))) (mvT hZ (hw _ (List.mem_of_getElem? (i := 24) rfl))) (mvT hZ (hw _ (List.mem_of_getElem? (i := 52) rfl))) (by decide) (backOf (W := 0) (rm9 l Z a0 hw [] (1 : Int64) j8 a14  h14 n0 (Nat.le_trans (Nat.le_trans (Nat.le_trans (Nat.le_trans (Nat.le_trans (Nat.le_trans (Nat.le_trans Z0 E2.1) E4.1) E6.1) E8.1) E10.1) E12.1) E14.1) hp8) hZ (hw _ (List.mem_of_getElem? (i := 52) rfl)) (hw _ (List.mem_of_getElem? (i := 24) rfl)) (by decide) (by decide)) (g := (mkF m 56 #[.val (.ref a1), .val (.int i1), .val (.int i2), .val (.long j3), .second, .val (.ref r4), .val (.ref r5), .val (.int z6), .val (.long j7), .second, .val (.long j8), .second] [(.ref a14), (.long j8), (.long (1 : Int64))])) rfl (by rw [hml]; rfl) (argsL := [(.long (1 : Int64)), (.long j8), (.ref a14)]) (rest := []) (lenOf pd_2 rfl) rfl (by show 2 * 0 + _ ≤ _; exact Nat.le_of_eq rfl) (hb hby d5_56) (fun _ _ => ⟨rfl, e14, (by decide : 14 + 0 ≤ _), (by decide : 496 + 0 ≤ _)⟩)
  dsimp only [Pt.U, Pt.locs, Pt.cells, Pt.slots] at X15 l15 y15 z15 st15 hQ15
  subst l15 y15 z15
  obtain ⟨rfl, Nq15, e15⟩ := hQ15
  have N15 := Fr.app N13 Nq15
  refine GoW.st (T' := T15) (g' := (mkF m 59 #[.val (.ref a1), .val (.int i1), .val (.int i2), .val (.long j3), .second, .val (.ref r4), .val (.ref r5), .val (.int z6), .val (.long j7), .second, .val (.long j8), .second] [])) st15 ?_
  refine GoW.st (T' := T15) (g' := (mkF m 60 #[.val (.ref a1), .val (.int i1), .val (.int i2), .val (.long j3), .second, .val (.ref r4), .val (.ref r5), .val (.int z6), .val (.long j7), .second, .val (.long j8), .second] [(.ref a1)])) (fun t_ k_ => XS.aloadN X15.here hx rfl (hb hby d5_59) rfl rfl k_) ?_
  refine GoW.st (T' := T15) (g' := (mkF m 61 #[.val (.ref a1), .val (.int i1), .val (.int i2), .val (.long j3), .second, .val (.ref r4), .val (.ref r5), .val (.int z6), .val (.long j7), .second, .val (.long j8), .second] [(.int i1), (.ref a1)])) (fun t_ k_ => XS.iloadN X15.here hx rfl (hb hby d5_60) rfl  k_) ?_
  obtain ⟨T16, h16, X16, e16, W16, st16⟩ := putF X15 hx hZ hown (host := "") (Or.inl (hw _ (List.mem_of_getElem? (i := 57) rfl))) Via.refl e15 (Fld.ext E14 (Fld.ext E12 (Fld.ext E10 (Fld.ext E8 (Fld.ext E6 (Fld.ext E4 (Fld.ext E2 F_maxActive))))))) (Exa.ext E14 (Exa.ext E12 (Exa.ext E10 (Exa.ext E8 (Exa.ext E6 (Exa.ext E4 (Exa.ext E2 E_a1))))))) (Or.inr ⟨(hw _ (List.mem_of_getElem? (i := 58) rfl)), rfl, hnm⟩) (hw _ (List.mem_of_getElem? (i := 23) rfl)) (ty := .int) (by decide) rfl rfl (g := (mkF m 61 #[.val (.ref a1), .val (.int i1), .val (.int i2), .val (.long j3), .second, .val (.ref r4), .val (.ref r5), .val (.int z6), .val (.long j7), .second, .val (.long j8), .second] [(.int i1), (.ref a1)])) rfl rfl (hb hby d5_61)
  have Fw16 := Fld.same W16 (Fld.ext E14 (Fld.ext E12 (Fld.ext E10 (Fld.ext E8 (Fld.ext E6 (Fld.ext E4 (Fld.ext E2 F_maxActive)))))))
  have K16 := Keep.wr K14 W16 (Or.inl (List.mem_of_getElem? (i := 0) rfl))
  have N16 := Fr.snoc X16 N15 g_a1
  refine GoW.st (T' := T16) (g' := (mkF m 64 #[.val (.ref a1), .val (.int i1), .val (.int i2), .val (.long j3), .second, .val (.ref r4), .val (.ref r5), .val (.int z6), .val (.long j7), .second, .val (.long j8), .second] [])) st16 ?_
  refine GoW.st (T' := T16) (g' := (mkF m 65 #[.val (.ref a1), .val (.int i1), .val (.int i2), .val (.long j3), .second, .val (.ref r4), .val (.ref r5), .val (.int z6), .val (.long j7), .second, .val (.long j8), .second] [(.ref a1)])) (fun t_ k_ => XS.aloadN X16.here hx rfl (hb hby d5_64) rfl rfl k_) ?_
  refine GoW.st (T' := T16) (g' := (mkF m 66 #[.val (.ref a1), .val (.int i1), .val (.int i2), .val (.long j3), .second, .val (.ref r4), .val (.ref r5), .val (.int z6), .val (.long j7), .second, .val (.long j8), .second] [(.int i2), (.ref a1)])) (fun t_ k_ => XS.iloadN X16.here hx rfl (hb hby d5_65) rfl  k_) ?_
  obtain ⟨T17, h17, X17, e17, W17, st17⟩ := putF X16 hx hZ hown (host := "") (Or.inl (hw _ (List.mem_of_getElem? (i := 59) rfl))) Via.refl e16 (Fld.other W16 (Fld.ext E14 (Fld.ext E12 (Fld.ext E10 (Fld.ext E8 (Fld.ext E6 (Fld.ext E4 (Fld.ext E2 F_maxIdle))))))) (Or.inr (slot_ne (Or.inr (hw _ (List.mem_of_getElem? (i := 60) rfl))) (Or.inr (hw _ (List.mem_of_getElem? (i := 58) rfl))) (by decide) (t := .int) (t' := .int) (by decide) (by decide)))) (Exa.wr W16 (Exa.ext E14 (Exa.ext E12 (Exa.ext E10 (Exa.ext E8 (Exa.ext E6 (Exa.ext E4 (Exa.ext E2 E_a1)))))))) (Or.inr ⟨(hw _ (List.mem_of_getElem? (i := 60) rfl)), rfl, hnm⟩) (hw _ (List.mem_of_getElem? (i := 23) rfl)) (ty := .int) (by decide) rfl rfl (g := (mkF m 66 #[.val (.ref a1), .val (.int i1), .val (.int i2), .val (.long j3), .second, .val (.ref r4), .val (.ref r5), .val (.int z6), .val (.long j7), .second, .val (.long j8), .second] [(.int i2), (.ref a1)])) rfl rfl (hb hby d5_66)
  have Fw17 := Fld.same W17 (Fld.other W16 (Fld.ext E14 (Fld.ext E12 (Fld.ext E10 (Fld.ext E8 (Fld.ext E6 (Fld.ext E4 (Fld.ext E2 F_maxIdle))))))) (Or.inr (slot_ne (Or.inr (hw _ (List.mem_of_getElem? (i := 60) rfl))) (Or.inr (hw _ (List.mem_of_getElem? (i := 58) rfl))) (by decide) (t := .int) (t' := .int) (by decide) (by decide))))
  have K17 := Keep.wr K16 W17 (Or.inl (List.mem_of_getElem? (i := 0) rfl))
  have N17 := Fr.snoc X17 N16 g_a1
  refine GoW.st (T' := T17) (g' := (mkF m 69 #[.val (.ref a1), .val (.int i1), .val (.int i2), .val (.long j3), .second, .val (.ref r4), .val (.ref r5), .val (.int z6), .val (.long j7), .second, .val (.long j8), .second] [])) st17 ?_
  refine GoW.st (T' := T17) (g' := (mkF m 70 #[.val (.ref a1), .val (.int i1), .val (.int i2), .val (.long j3), .second, .val (.ref r4), .val (.ref r5), .val (.int z6), .val (.long j7), .second, .val (.long j8), .second] [(.ref a1)])) (fun t_ k_ => XS.aloadN X17.here hx rfl (hb hby d5_69) rfl rfl k_) ?_
  refine GoW.st (T' := T17) (g' := (mkF m 71 #[.val (.ref a1), .val (.int i1), .val (.int i2), .val (.long j3), .second, .val (.ref r4), .val (.ref r5), .val (.int z6), .val (.long j7), .second, .val (.long j8), .second] [(.long j3), (.ref a1)])) (fun t_ k_ => XS.lloadN X17.here hx rfl (hb hby d5_70) rfl  k_) ?_
  obtain ⟨T18, h18, X18, e18, W18, st18⟩ := putF X17 hx hZ hown (host := "") (Or.inl (hw _ (List.mem_of_getElem? (i := 61) rfl))) Via.refl e17 (Fld.other W17 (Fld.other W16 (Fld.ext E14 (Fld.ext E12 (Fld.ext E10 (Fld.ext E8 (Fld.ext E6 (Fld.ext E4 (Fld.ext E2 F_maxWaitMillis))))))) (Or.inr (slot_ne (Or.inr (hw _ (List.mem_of_getElem? (i := 62) rfl))) (Or.inr (hw _ (List.mem_of_getElem? (i := 58) rfl))) (by decide) (t := .long) (t' := .int) (by decide) (by decide)))) (Or.inr (slot_ne (Or.inr (hw _ (List.mem_of_getElem? (i := 62) rfl))) (Or.inr (hw _ (List.mem_of_getElem? (i := 60) rfl))) (by decide) (t := .long) (t' := .int) (by decide) (by decide)))) (Exa.wr W17 (Exa.wr W16 (Exa.ext E14 (Exa.ext E12 (Exa.ext E10 (Exa.ext E8 (Exa.ext E6 (Exa.ext E4 (Exa.ext E2 E_a1))))))))) (Or.inr ⟨(hw _ (List.mem_of_getElem? (i := 62) rfl)), rfl, hnm⟩) (hw _ (List.mem_of_getElem? (i := 23) rfl)) (ty := .long) (by decide) rfl rfl (g := (mkF m 71 #[.val (.ref a1), .val (.int i1), .val (.int i2), .val (.long j3), .second, .val (.ref r4), .val (.ref r5), .val (.int z6), .val (.long j7), .second, .val (.long j8), .second] [(.long j3), (.ref a1)])) rfl rfl (hb hby d5_71)
  have Fw18 := Fld.same W18 (Fld.other W17 (Fld.other W16 (Fld.ext E14 (Fld.ext E12 (Fld.ext E10 (Fld.ext E8 (Fld.ext E6 (Fld.ext E4 (Fld.ext E2 F_maxWaitMillis))))))) (Or.inr (slot_ne (Or.inr (hw _ (List.mem_of_getElem? (i := 62) rfl))) (Or.inr (hw _ (List.mem_of_getElem? (i := 58) rfl))) (by decide) (t := .long) (t' := .int) (by decide) (by decide)))) (Or.inr (slot_ne (Or.inr (hw _ (List.mem_of_getElem? (i := 62) rfl))) (Or.inr (hw _ (List.mem_of_getElem? (i := 60) rfl))) (by decide) (t := .long) (t' := .int) (by decide) (by decide))))
  have K18 := Keep.wr K17 W18 (Or.inl (List.mem_of_getElem? (i := 0) rfl))
  have N18 := Fr.snoc X18 N17 g_a1
  refine GoW.st (T' := T18) (g' := (mkF m 74 #[.val (.ref a1), .val (.int i1), .val (.int i2), .val (.long j3), .second, .val (.ref r4), .val (.ref r5), .val (.int z6), .val (.long j7), .second, .val (.long j8), .second] [])) st18 ?_
  refine GoW.st (T' := T18) (g' := (mkF m 75 #[.val (.ref a1), .val (.int i1), .val (.int i2), .val (.long j3), .second, .val (.ref r4), .val (.ref r5), .val (.int z6), .val (.long j7), .second, .val (.long j8), .second] [(.ref a1)])) (fun t_ k_ => XS.aloadN X18.here hx rfl (hb hby d5_74) rfl rfl k_) ?_
  refine GoW.st (T' := T18) (g' := (mkF m 77 #[.val (.ref a1), .val (.int i1), .val (.int i2), .val (.long j3), .second, .val (.ref r4), .val (.ref r5), .val (.int z6), .val (.long j7), .second, .val (.long j8), .second] [(.ref r4), (.ref a1)])) (fun t_ k_ => XS.aload X18.here hx rfl (hb hby d5_75) rfl rfl k_) ?_
  obtain ⟨T19, h19, X19, e19, W19, st19⟩ := putF X18 hx hZ hown (host := "") (Or.inl (hw _ (List.mem_of_getElem? (i := 63) rfl))) Via.refl e18 (Fld.other W18 (Fld.other W17 (Fld.other W16 (Fld.ext E14 (Fld.ext E12 (Fld.ext E10 (Fld.ext E8 (Fld.ext E6 (Fld.ext E4 (Fld.ext E2 F_exhaustedAction))))))) (Or.inr (slot_ne (Or.inr (hw _ (List.mem_of_getElem? (i := 64) rfl))) (Or.inr (hw _ (List.mem_of_getElem? (i := 58) rfl))) (by decide) (t := (.object "com/example/rollback_for_flows/rollbackforflows/connector/PoolingProfile$ExhaustedAction")) (t' := .int) (by decide) (by decide)))) (Or.inr (slot_ne (Or.inr (hw _ (List.mem_of_getElem? (i := 64) rfl))) (Or.inr (hw _ (List.mem_of_getElem? (i := 60) rfl))) (by decide) (t := (.object "com/example/rollback_for_flows/rollbackforflows/connector/PoolingProfile$ExhaustedAction")) (t' := .int) (by decide) (by decide)))) (Or.inr (slot_ne (Or.inr (hw _ (List.mem_of_getElem? (i := 64) rfl))) (Or.inr (hw _ (List.mem_of_getElem? (i := 62) rfl))) (by decide) (t := (.object "com/example/rollback_for_flows/rollbackforflows/connector/PoolingProfile$ExhaustedAction")) (t' := .long) (by decide) (by decide)))) (Exa.wr W18 (Exa.wr W17 (Exa.wr W16 (Exa.ext E14 (Exa.ext E12 (Exa.ext E10 (Exa.ext E8 (Exa.ext E6 (Exa.ext E4 (Exa.ext E2 E_a1)))))))))) (Or.inr ⟨(hw _ (List.mem_of_getElem? (i := 64) rfl)), rfl, hnm⟩) (hw _ (List.mem_of_getElem? (i := 23) rfl)) (ty := (.object "com/example/rollback_for_flows/rollbackforflows/connector/PoolingProfile$ExhaustedAction")) (by decide) rfl rfl (g := (mkF m 77 #[.val (.ref a1), .val (.int i1), .val (.int i2), .val (.long j3), .second, .val (.ref r4), .val (.ref r5), .val (.int z6), .val (.long j7), .second, .val (.long j8), .second] [(.ref r4), (.ref a1)])) rfl rfl (hb hby d5_77)
  have Fw19 := Fld.same W19 (Fld.other W18 (Fld.other W17 (Fld.other W16 (Fld.ext E14 (Fld.ext E12 (Fld.ext E10 (Fld.ext E8 (Fld.ext E6 (Fld.ext E4 (Fld.ext E2 F_exhaustedAction))))))) (Or.inr (slot_ne (Or.inr (hw _ (List.mem_of_getElem? (i := 64) rfl))) (Or.inr (hw _ (List.mem_of_getElem? (i := 58) rfl))) (by decide) (t := (.object "com/example/rollback_for_flows/rollbackforflows/connector/PoolingProfile$ExhaustedAction")) (t' := .int) (by decide) (by decide)))) (Or.inr (slot_ne (Or.inr (hw _ (List.mem_of_getElem? (i := 64) rfl))) (Or.inr (hw _ (List.mem_of_getElem? (i := 60) rfl))) (by decide) (t := (.object "com/example/rollback_for_flows/rollbackforflows/connector/PoolingProfile$ExhaustedAction")) (t' := .int) (by decide) (by decide)))) (Or.inr (slot_ne (Or.inr (hw _ (List.mem_of_getElem? (i := 64) rfl))) (Or.inr (hw _ (List.mem_of_getElem? (i := 62) rfl))) (by decide) (t := (.object "com/example/rollback_for_flows/rollbackforflows/connector/PoolingProfile$ExhaustedAction")) (t' := .long) (by decide) (by decide))))
  have K19 := Keep.wr K18 W19 (Or.inl (List.mem_of_getElem? (i := 0) rfl))
  have N19 := Fr.snoc X19 N18 g_a1
  refine GoW.st (T' := T19) (g' := (mkF m 80 #[.val (.ref a1), .val (.int i1), .val (.int i2), .val (.long j3), .second, .val (.ref r4), .val (.ref r5), .val (.int z6), .val (.long j7), .second, .val (.long j8), .second] [])) st19 ?_
  refine GoW.st (T' := T19) (g' := (mkF m 81 #[.val (.ref a1), .val (.int i1), .val (.int i2), .val (.long j3), .second, .val (.ref r4), .val (.ref r5), .val (.int z6), .val (.long j7), .second, .val (.long j8), .second] [(.ref a1)])) (fun t_ k_ => XS.aloadN X19.here hx rfl (hb hby d5_80) rfl rfl k_) ?_
  refine GoW.st (T' := T19) (g' := (mkF m 83 #[.val (.ref a1), .val (.int i1), .val (.int i2), .val (.long j3), .second, .val (.ref r4), .val (.ref r5), .val (.int z6), .val (.long j7), .second, .val (.long j8), .second] [(.ref r5), (.ref a1)])) (fun t_ k_ => XS.aload X19.here hx rfl (hb hby d5_81) rfl rfl k_) ?_
  obtain ⟨T20, h20, X20, e20, W20, st20⟩ := putF X19 hx hZ hown (host := "") (Or.inl (hw _ (List.mem_of_getElem? (i := 65) rfl))) Via.refl e19 (Fld.other W19 (Fld.other W18 (Fld.other W17 (Fld.other W16 (Fld.ext E14 (Fld.ext E12 (Fld.ext E10 (Fld.ext E8 (Fld.ext E6 (Fld.ext E4 (Fld.ext E2 F_initialisationPolicy))))))) (Or.inr (slot_ne (Or.inr (hw _ (List.mem_of_getElem? (i := 66) rfl))) (Or.inr (hw _ (List.mem_of_getElem? (i := 58) rfl))) (by decide) (t := (.object "com/example/rollback_for_flows/rollbackforflows/connector/PoolingProfile$InitialisationPolicy")) (t' := .int) (by decide) (by decide)))) (Or.inr (slot_ne (Or.inr (hw _ (List.mem_of_getElem? (i := 66) rfl))) (Or.inr (hw _ (List.mem_of_getElem? (i := 60) rfl))) (by decide) (t := (.object "com/example/rollback_for_flows/rollbackforflows/connector/PoolingProfile$InitialisationPolicy")) (t' := .int) (by decide) (by decide)))) (Or.inr (slot_ne (Or.inr (hw _ (List.mem_of_getElem? (i := 66) rfl))) (Or.inr (hw _ (List.mem_of_getElem? (i := 62) rfl))) (by decide) (t := (.object "com/example/rollback_for_flows/rollbackforflows/connector/PoolingProfile$InitialisationPolicy")) (t' := .long) (by decide) (by decide)))) (Or.inr (slot_ne (Or.inr (hw _ (List.mem_of_getElem? (i := 66) rfl))) (Or.inr (hw _ (List.mem_of_getElem? (i := 64) rfl))) (by decide) (t := (.object "com/example/rollback_for_flows/rollbackforflows/connector/PoolingProfile$InitialisationPolicy")) (t' := (.object "com/example/rollback_for_flows/rollbackforflows/connector/PoolingProfile$ExhaustedAction")) (by decide) (by decide)))) (Exa.wr W19 (Exa.wr W18 (Exa.wr W17 (Exa.wr W16 (Exa.ext E14 (Exa.ext E12 (Exa.ext E10 (Exa.ext E8 (Exa.ext E6 (Exa.ext E4 (Exa.ext E2 E_a1))))))))))) (Or.inr ⟨(hw _ (List.mem_of_getElem? (i := 66) rfl)), rfl, hnm⟩) (hw _ (List.mem_of_getElem? (i := 23) rfl)) (ty := (.object "com/example/rollback_for_flows/rollbackforflows/connector/PoolingProfile$InitialisationPolicy")) (by decide) rfl rfl (g := (mkF m 83 #[.val (.ref a1), .val (.int i1), .val (.int i2), .val (.long j3), .second, .val (.ref r4), .val (.ref r5), .val (.int z6), .val (.long j7), .second, .val (.long j8), .second] [(.ref r5), (.ref a1)])) rfl rfl (hb hby d5_83)
  have Fw20 := Fld.same W20 (Fld.other W19 (Fld.other W18 (Fld.other W17 (Fld.other W16 (Fld.ext E14 (Fld.ext E12 (Fld.ext E10 (Fld.ext E8 (Fld.ext E6 (Fld.ext E4 (Fld.ext E2 F_initialisationPolicy))))))) (Or.inr (slot_ne (Or.inr (hw _ (List.mem_of_getElem? (i := 66) rfl))) (Or.inr (hw _ (List.mem_of_getElem? (i := 58) rfl))) (by decide) (t := (.object "com/example/rollback_for_flows/rollbackforflows/connector/PoolingProfile$InitialisationPolicy")) (t' := .int) (by decide) (by decide)))) (Or.inr (slot_ne (Or.inr (hw _ (List.mem_of_getElem? (i := 66) rfl))) (Or.inr (hw _ (List.mem_of_getElem? (i := 60) rfl))) (by decide) (t := (.object "com/example/rollback_for_flows/rollbackforflows/connector/PoolingProfile$InitialisationPolicy")) (t' := .int) (by decide) (by decide)))) (Or.inr (slot_ne (Or.inr (hw _ (List.mem_of_getElem? (i := 66) rfl))) (Or.inr (hw _ (List.mem_of_getElem? (i := 62) rfl))) (by decide) (t := (.object "com/example/rollback_for_flows/rollbackforflows/connector/PoolingProfile$InitialisationPolicy")) (t' := .long) (by decide) (by decide)))) (Or.inr (slot_ne (Or.inr (hw _ (List.mem_of_getElem? (i := 66) rfl))) (Or.inr (hw _ (List.mem_of_getElem? (i := 64) rfl))) (by decide) (t := (.object "com/example/rollback_for_flows/rollbackforflows/connector/PoolingProfile$InitialisationPolicy")) (t' := (.object "com/example/rollback_for_flows/rollbackforflows/connector/PoolingProfile$ExhaustedAction")) (by decide) (by decide))))
  have K20 := Keep.wr K19 W20 (Or.inl (List.mem_of_getElem? (i := 0) rfl))
  have N20 := Fr.snoc X20 N19 g_a1
  refine GoW.st (T' := T20) (g' := (mkF m 86 #[.val (.ref a1), .val (.int i1), .val (.int i2), .val (.long j3), .second, .val (.ref r4), .val (.ref r5), .val (.int z6), .val (.long j7), .second, .val (.long j8), .second] [])) st20 ?_
  refine GoW.st (T' := T20) (g' := (mkF m 87 #[.val (.ref a1), .val (.int i1), .val (.int i2), .val (.long j3), .second, .val (.ref r4), .val (.ref r5), .val (.int z6), .val (.long j7), .second, .val (.long j8), .second] [(.ref a1)])) (fun t_ k_ => XS.aloadN X20.here hx rfl (hb hby d5_86) rfl rfl k_) ?_
  refine GoW.st (T' := T20) (g' := (mkF m 89 #[.val (.ref a1), .val (.int i1), .val (.int i2), .val (.long j3), .second, .val (.ref r4), .val (.ref r5), .val (.int z6), .val (.long j7), .second, .val (.long j8), .second] [(.int z6), (.ref a1)])) (fun t_ k_ => XS.iload X20.here hx rfl (hb hby d5_87) rfl  k_) ?_
  obtain ⟨T21, h21, X21, e21, W21, st21⟩ := putFN X20 hx hZ hown (hw _ (List.mem_of_getElem? (i := 67) rfl)) Via.refl e20 (Fld.other W20 (Fld.other W19 (Fld.other W18 (Fld.other W17 (Fld.other W16 (Fld.ext E14 (Fld.ext E12 (Fld.ext E10 (Fld.ext E8 (Fld.ext E6 (Fld.ext E4 (Fld.ext E2 F_evicts))))))) (Or.inr (slot_ne (Or.inr (hw _ (List.mem_of_getElem? (i := 68) rfl))) (Or.inr (hw _ (List.mem_of_getElem? (i := 58) rfl))) (by decide) (t := .boolean) (t' := .int) (by decide) (by decide)))) (Or.inr (slot_ne (Or.inr (hw _ (List.mem_of_getElem? (i := 68) rfl))) (Or.inr (hw _ (List.mem_of_getElem? (i := 60) rfl))) (by decide) (t := .boolean) (t' := .int) (by decide) (by decide)))) (Or.inr (slot_ne (Or.inr (hw _ (List.mem_of_getElem? (i := 68) rfl))) (Or.inr (hw _ (List.mem_of_getElem? (i := 62) rfl))) (by decide) (t := .boolean) (t' := .long) (by decide) (by decide)))) (Or.inr (slot_ne (Or.inr (hw _ (List.mem_of_getElem? (i := 68) rfl))) (Or.inr (hw _ (List.mem_of_getElem? (i := 64) rfl))) (by decide) (t := .boolean) (t' := (.object "com/example/rollback_for_flows/rollbackforflows/connector/PoolingProfile$ExhaustedAction")) (by decide) (by decide)))) (Or.inr (slot_ne (Or.inr (hw _ (List.mem_of_getElem? (i := 68) rfl))) (Or.inr (hw _ (List.mem_of_getElem? (i := 66) rfl))) (by decide) (t := .boolean) (t' := (.object "com/example/rollback_for_flows/rollbackforflows/connector/PoolingProfile$InitialisationPolicy")) (by decide) (by decide)))) (Exa.wr W20 (Exa.wr W19 (Exa.wr W18 (Exa.wr W17 (Exa.wr W16 (Exa.ext E14 (Exa.ext E12 (Exa.ext E10 (Exa.ext E8 (Exa.ext E6 (Exa.ext E4 (Exa.ext E2 E_a1)))))))))))) (Or.inr ⟨(hw _ (List.mem_of_getElem? (i := 68) rfl)), rfl, hnm⟩) (hw _ (List.mem_of_getElem? (i := 23) rfl)) (ty := .boolean) (v := (.int z6)) (v' := (.int z6)) (by decide) (congrArg Value.int hz) (by have q := fits_nar_bool z6; rw [hz] at q; exact q) (g := (mkF m 89 #[.val (.ref a1), .val (.int i1), .val (.int i2), .val (.long j3), .second, .val (.ref r4), .val (.ref r5), .val (.int z6), .val (.long j7), .second, .val (.long j8), .second] [(.int z6), (.ref a1)])) rfl rfl (hb hby d5_89)
  have Fw21 := Fld.same W21 (Fld.other W20 (Fld.other W19 (Fld.other W18 (Fld.other W17 (Fld.other W16 (Fld.ext E14 (Fld.ext E12 (Fld.ext E10 (Fld.ext E8 (Fld.ext E6 (Fld.ext E4 (Fld.ext E2 F_evicts))))))) (Or.inr (slot_ne (Or.inr (hw _ (List.mem_of_getElem? (i := 68) rfl))) (Or.inr (hw _ (List.mem_of_getElem? (i := 58) rfl))) (by decide) (t := .boolean) (t' := .int) (by decide) (by decide)))) (Or.inr (slot_ne (Or.inr (hw _ (List.mem_of_getElem? (i := 68) rfl))) (Or.inr (hw _ (List.mem_of_getElem? (i := 60) rfl))) (by decide) (t := .boolean) (t' := .int) (by decide) (by decide)))) (Or.inr (slot_ne (Or.inr (hw _ (List.mem_of_getElem? (i := 68) rfl))) (Or.inr (hw _ (List.mem_of_getElem? (i := 62) rfl))) (by decide) (t := .boolean) (t' := .long) (by decide) (by decide)))) (Or.inr (slot_ne (Or.inr (hw _ (List.mem_of_getElem? (i := 68) rfl))) (Or.inr (hw _ (List.mem_of_getElem? (i := 64) rfl))) (by decide) (t := .boolean) (t' := (.object "com/example/rollback_for_flows/rollbackforflows/connector/PoolingProfile$ExhaustedAction")) (by decide) (by decide)))) (Or.inr (slot_ne (Or.inr (hw _ (List.mem_of_getElem? (i := 68) rfl))) (Or.inr (hw _ (List.mem_of_getElem? (i := 66) rfl))) (by decide) (t := .boolean) (t' := (.object "com/example/rollback_for_flows/rollbackforflows/connector/PoolingProfile$InitialisationPolicy")) (by decide) (by decide))))
  have K21 := Keep.wr K20 W21 (Or.inl (List.mem_of_getElem? (i := 0) rfl))
  have N21 := Fr.snoc X21 N20 g_a1
  refine GoW.st (T' := T21) (g' := (mkF m 92 #[.val (.ref a1), .val (.int i1), .val (.int i2), .val (.long j3), .second, .val (.ref r4), .val (.ref r5), .val (.int z6), .val (.long j7), .second, .val (.long j8), .second] [])) st21 ?_
  refine GoW.st (T' := T21) (g' := (mkF m 93 #[.val (.ref a1), .val (.int i1), .val (.int i2), .val (.long j3), .second, .val (.ref r4), .val (.ref r5), .val (.int z6), .val (.long j7), .second, .val (.long j8), .second] [(.ref a1)])) (fun t_ k_ => XS.aloadN X21.here hx rfl (hb hby d5_92) rfl rfl k_) ?_
  refine GoW.st (T' := T21) (g' := (mkF m 95 #[.val (.ref a1), .val (.int i1), .val (.int i2), .val (.long j3), .second, .val (.ref r4), .val (.ref r5), .val (.int z6), .val (.long j7), .second, .val (.long j8), .second] [(.long j7), (.ref a1)])) (fun t_ k_ => XS.lload X21.here hx rfl (hb hby d5_93) rfl  k_) ?_
  obtain ⟨T22, h22, X22, e22, W22, st22⟩ := putF X21 hx hZ hown (host := "") (Or.inl (hw _ (List.mem_of_getElem? (i := 69) rfl))) Via.refl e21 (Fld.other W21 (Fld.other W20 (Fld.other W19 (Fld.other W18 (Fld.other W17 (Fld.other W16 (Fld.ext E14 (Fld.ext E12 (Fld.ext E10 (Fld.ext E8 (Fld.ext E6 (Fld.ext E4 (Fld.ext E2 F_minEvictionMillis))))))) (Or.inr (slot_ne (Or.inr (hw _ (List.mem_of_getElem? (i := 70) rfl))) (Or.inr (hw _ (List.mem_of_getElem? (i := 58) rfl))) (by decide) (t := .long) (t' := .int) (by decide) (by decide)))) (Or.inr (slot_ne (Or.inr (hw _ (List.mem_of_getElem? (i := 70) rfl))) (Or.inr (hw _ (List.mem_of_getElem? (i := 60) rfl))) (by decide) (t := .long) (t' := .int) (by decide) (by decide)))) (Or.inr (slot_ne (Or.inr (hw _ (List.mem_of_getElem? (i := 70) rfl))) (Or.inr (hw _ (List.mem_of_getElem? (i := 62) rfl))) (by decide) (t := .long) (t' := .long) (by decide) (by decide)))) (Or.inr (slot_ne (Or.inr (hw _ (List.mem_of_getElem? (i := 70) rfl))) (Or.inr (hw _ (List.mem_of_getElem? (i := 64) rfl))) (by decide) (t := .long) (t' := (.object "com/example/rollback_for_flows/rollbackforflows/connector/PoolingProfile$ExhaustedAction")) (by decide) (by decide)))) (Or.inr (slot_ne (Or.inr (hw _ (List.mem_of_getElem? (i := 70) rfl))) (Or.inr (hw _ (List.mem_of_getElem? (i := 66) rfl))) (by decide) (t := .long) (t' := (.object "com/example/rollback_for_flows/rollbackforflows/connector/PoolingProfile$InitialisationPolicy")) (by decide) (by decide)))) (Or.inr (slot_ne (Or.inr (hw _ (List.mem_of_getElem? (i := 70) rfl))) (Or.inr (hw _ (List.mem_of_getElem? (i := 68) rfl))) (by decide) (t := .long) (t' := .boolean) (by decide) (by decide)))) (Exa.wr W21 (Exa.wr W20 (Exa.wr W19 (Exa.wr W18 (Exa.wr W17 (Exa.wr W16 (Exa.ext E14 (Exa.ext E12 (Exa.ext E10 (Exa.ext E8 (Exa.ext E6 (Exa.ext E4 (Exa.ext E2 E_a1))))))))))))) (Or.inr ⟨(hw _ (List.mem_of_getElem? (i := 70) rfl)), rfl, hnm⟩) (hw _ (List.mem_of_getElem? (i := 23) rfl)) (ty := .long) (by decide) rfl rfl (g := (mkF m 95 #[.val (.ref a1), .val (.int i1), .val (.int i2), .val (.long j3), .second, .val (.ref r4), .val (.ref r5), .val (.int z6), .val (.long j7), .second, .val (.long j8), .second] [(.long j7), (.ref a1)])) rfl rfl (hb hby d5_95)
  have Fw22 := Fld.same W22 (Fld.other W21 (Fld.other W20 (Fld.other W19 (Fld.other W18 (Fld.other W17 (Fld.other W16 (Fld.ext E14 (Fld.ext E12 (Fld.ext E10 (Fld.ext E8 (Fld.ext E6 (Fld.ext E4 (Fld.ext E2 F_minEvictionMillis))))))) (Or.inr (slot_ne (Or.inr (hw _ (List.mem_of_getElem? (i := 70) rfl))) (Or.inr (hw _ (List.mem_of_getElem? (i := 58) rfl))) (by decide) (t := .long) (t' := .int) (by decide) (by decide)))) (Or.inr (slot_ne (Or.inr (hw _ (List.mem_of_getElem? (i := 70) rfl))) (Or.inr (hw _ (List.mem_of_getElem? (i := 60) rfl))) (by decide) (t := .long) (t' := .int) (by decide) (by decide)))) (Or.inr (slot_ne (Or.inr (hw _ (List.mem_of_getElem? (i := 70) rfl))) (Or.inr (hw _ (List.mem_of_getElem? (i := 62) rfl))) (by decide) (t := .long) (t' := .long) (by decide) (by decide)))) (Or.inr (slot_ne (Or.inr (hw _ (List.mem_of_getElem? (i := 70) rfl))) (Or.inr (hw _ (List.mem_of_getElem? (i := 64) rfl))) (by decide) (t := .long) (t' := (.object "com/example/rollback_for_flows/rollbackforflows/connector/PoolingProfile$ExhaustedAction")) (by decide) (by decide)))) (Or.inr (slot_ne (Or.inr (hw _ (List.mem_of_getElem? (i := 70) rfl))) (Or.inr (hw _ (List.mem_of_getElem? (i := 66) rfl))) (by decide) (t := .long) (t' := (.object "com/example/rollback_for_flows/rollbackforflows/connector/PoolingProfile$InitialisationPolicy")) (by decide) (by decide)))) (Or.inr (slot_ne (Or.inr (hw _ (List.mem_of_getElem? (i := 70) rfl))) (Or.inr (hw _ (List.mem_of_getElem? (i := 68) rfl))) (by decide) (t := .long) (t' := .boolean) (by decide) (by decide))))
  have K22 := Keep.wr K21 W22 (Or.inl (List.mem_of_getElem? (i := 0) rfl))
  have N22 := Fr.snoc X22 N21 g_a1
  refine GoW.st (T' := T22) (g' := (mkF m 98 #[.val (.ref a1), .val (.int i1), .val (.int i2), .val (.long j3), .second, .val (.ref r4), .val (.ref r5), .val (.int z6), .val (.long j7), .second, .val (.long j8), .second] [])) st22 ?_
  refine GoW.st (T' := T22) (g' := (mkF m 99 #[.val (.ref a1), .val (.int i1), .val (.int i2), .val (.long j3), .second, .val (.ref r4), .val (.ref r5), .val (.int z6), .val (.long j7), .second, .val (.long j8), .second] [(.ref a1)])) (fun t_ k_ => XS.aloadN X22.here hx rfl (hb hby d5_98) rfl rfl k_) ?_
  refine GoW.st (T' := T22) (g' := (mkF m 101 #[.val (.ref a1), .val (.int i1), .val (.int i2), .val (.long j3), .second, .val (.ref r4), .val (.ref r5), .val (.int z6), .val (.long j7), .second, .val (.long j8), .second] [(.long j8), (.ref a1)])) (fun t_ k_ => XS.lload X22.here hx rfl (hb hby d5_99) rfl  k_) ?_
  obtain ⟨T23, h23, X23, e23, W23, st23⟩ := putF X22 hx hZ hown (host := "") (Or.inl (hw _ (List.mem_of_getElem? (i := 71) rfl))) Via.refl e22 (Fld.other W22 (Fld.other W21 (Fld.other W20 (Fld.other W19 (Fld.other W18 (Fld.other W17 (Fld.other W16 (Fld.ext E14 (Fld.ext E12 (Fld.ext E10 (Fld.ext E8 (Fld.ext E6 (Fld.ext E4 (Fld.ext E2 F_evictionCheckIntervalMillis))))))) (Or.inr (slot_ne (Or.inr (hw _ (List.mem_of_getElem? (i := 72) rfl))) (Or.inr (hw _ (List.mem_of_getElem? (i := 58) rfl))) (by decide) (t := .long) (t' := .int) (by decide) (by decide)))) (Or.inr (slot_ne (Or.inr (hw _ (List.mem_of_getElem? (i := 72) rfl))) (Or.inr (hw _ (List.mem_of_getElem? (i := 60) rfl))) (by decide) (t := .long) (t' := .int) (by decide) (by decide)))) (Or.inr (slot_ne (Or.inr (hw _ (List.mem_of_getElem? (i := 72) rfl))) (Or.inr (hw _ (List.mem_of_getElem? (i := 62) rfl))) (by decide) (t := .long) (t' := .long) (by decide) (by decide)))) (Or.inr (slot_ne (Or.inr (hw _ (List.mem_of_getElem? (i := 72) rfl))) (Or.inr (hw _ (List.mem_of_getElem? (i := 64) rfl))) (by decide) (t := .long) (t' := (.object "com/example/rollback_for_flows/rollbackforflows/connector/PoolingProfile$ExhaustedAction")) (by decide) (by decide)))) (Or.inr (slot_ne (Or.inr (hw _ (List.mem_of_getElem? (i := 72) rfl))) (Or.inr (hw _ (List.mem_of_getElem? (i := 66) rfl))) (by decide) (t := .long) (t' := (.object "com/example/rollback_for_flows/rollbackforflows/connector/PoolingProfile$InitialisationPolicy")) (by decide) (by decide)))) (Or.inr (slot_ne (Or.inr (hw _ (List.mem_of_getElem? (i := 72) rfl))) (Or.inr (hw _ (List.mem_of_getElem? (i := 68) rfl))) (by decide) (t := .long) (t' := .boolean) (by decide) (by decide)))) (Or.inr (slot_ne (Or.inr (hw _ (List.mem_of_getElem? (i := 72) rfl))) (Or.inr (hw _ (List.mem_of_getElem? (i := 70) rfl))) (by decide) (t := .long) (t' := .long) (by decide) (by decide)))) (Exa.wr W22 (Exa.wr W21 (Exa.wr W20 (Exa.wr W19 (Exa.wr W18 (Exa.wr W17 (Exa.wr W16 (Exa.ext E14 (Exa.ext E12 (Exa.ext E10 (Exa.ext E8 (Exa.ext E6 (Exa.ext E4 (Exa.ext E2 E_a1)))))))))))))) (Or.inr ⟨(hw _ (List.mem_of_getElem? (i := 72) rfl)), rfl, hnm⟩) (hw _ (List.mem_of_getElem? (i := 23) rfl)) (ty := .long) (by decide) rfl rfl (g := (mkF m 101 #[.val (.ref a1), .val (.int i1), .val (.int i2), .val (.long j3), .second, .val (.ref r4), .val (.ref r5), .val (.int z6), .val (.long j7), .second, .val (.long j8), .second] [(.long j8), (.ref a1)])) rfl rfl (hb hby d5_101)
  have Fw23 := Fld.same W23 (Fld.other W22 (Fld.other W21 (Fld.other W20 (Fld.other W19 (Fld.other W18 (Fld.other W17 (Fld.other W16 (Fld.ext E14 (Fld.ext E12 (Fld.ext E10 (Fld.ext E8 (Fld.ext E6 (Fld.ext E4 (Fld.ext E2 F_evictionCheckIntervalMillis))))))) (Or.inr (slot_ne (Or.inr (hw _ (List.mem_of_getElem? (i := 72) rfl))) (Or.inr (hw _ (List.mem_of_getElem? (i := 58) rfl))) (by decide) (t := .long) (t' := .int) (by decide) (by decide)))) (Or.inr (slot_ne (Or.inr (hw _ (List.mem_of_getElem? (i := 72) rfl))) (Or.inr (hw _ (List.mem_of_getElem? (i := 60) rfl))) (by decide) (t := .long) (t' := .int) (by decide) (by decide)))) (Or.inr (slot_ne (Or.inr (hw _ (List.mem_of_getElem? (i := 72) rfl))) (Or.inr (hw _ (List.mem_of_getElem? (i := 62) rfl))) (by decide) (t := .long) (t' := .long) (by decide) (by decide)))) (Or.inr (slot_ne (Or.inr (hw _ (List.mem_of_getElem? (i := 72) rfl))) (Or.inr (hw _ (List.mem_of_getElem? (i := 64) rfl))) (by decide) (t := .long) (t' := (.object "com/example/rollback_for_flows/rollbackforflows/connector/PoolingProfile$ExhaustedAction")) (by decide) (by decide)))) (Or.inr (slot_ne (Or.inr (hw _ (List.mem_of_getElem? (i := 72) rfl))) (Or.inr (hw _ (List.mem_of_getElem? (i := 66) rfl))) (by decide) (t := .long) (t' := (.object "com/example/rollback_for_flows/rollbackforflows/connector/PoolingProfile$InitialisationPolicy")) (by decide) (by decide)))) (Or.inr (slot_ne (Or.inr (hw _ (List.mem_of_getElem? (i := 72) rfl))) (Or.inr (hw _ (List.mem_of_getElem? (i := 68) rfl))) (by decide) (t := .long) (t' := .boolean) (by decide) (by decide)))) (Or.inr (slot_ne (Or.inr (hw _ (List.mem_of_getElem? (i := 72) rfl))) (Or.inr (hw _ (List.mem_of_getElem? (i := 70) rfl))) (by decide) (t := .long) (t' := .long) (by decide) (by decide))))
  have K23 := Keep.wr K22 W23 (Or.inl (List.mem_of_getElem? (i := 0) rfl))
  have N23 := Fr.snoc X23 N22 g_a1
  refine GoW.st (T' := T23) (g' := (mkF m 104 #[.val (.ref a1), .val (.int i1), .val (.int i2), .val (.long j3), .second, .val (.ref r4), .val (.ref r5), .val (.int z6), .val (.long j7), .second, .val (.long j8), .second] [])) st23 ?_
  refine GoW.ret0 X23 hx Bd.returns hlk hS14 (by rw [e23]; exact (Nat.le_trans (Nat.le_trans (Nat.le_trans (Nat.le_trans (Nat.le_trans (Nat.le_trans (Nat.le_trans (Nat.le_trans hk14 (Keep.of_wr W16).1) (Keep.of_wr W17).1) (Keep.of_wr W18).1) (Keep.of_wr W19).1) (Keep.of_wr W20).1) (Keep.of_wr W21).1) (Keep.of_wr W22).1) (Keep.of_wr W23).1)) (hb hby d5_104) (by decide) (by decide) ?_
  rw [e23]
  exact ⟨rfl, N23, K23, (Exa.wr W23 (Exa.wr W22 (Exa.wr W21 (Exa.wr W20 (Exa.wr W19 (Exa.wr W18 (Exa.wr W17 (Exa.wr W16 (Exa.ext E14 (Exa.ext E12 (Exa.ext E10 (Exa.ext E8 (Exa.ext E6 (Exa.ext E4 (Exa.ext E2 E_a1))))))))))))))), (Fld.other W23 (Fld.other W22 (Fld.other W21 (Fld.other W20 (Fld.other W19 (Fld.other W18 (Fld.other W17 Fw16 (Or.inr (slot_ne (Or.inr (hw _ (List.mem_of_getElem? (i := 58) rfl))) (Or.inr (hw _ (List.mem_of_getElem? (i := 60) rfl))) (by decide) (t := .int) (t' := .int) (by decide) (by decide)))) (Or.inr (slot_ne (Or.inr (hw _ (List.mem_of_getElem? (i := 58) rfl))) (Or.inr (hw _ (List.mem_of_getElem? (i := 62) rfl))) (by decide) (t := .int) (t' := .long) (by decide) (by decide)))) (Or.inr (slot_ne (Or.inr (hw _ (List.mem_of_getElem? (i := 58) rfl))) (Or.inr (hw _ (List.mem_of_getElem? (i := 64) rfl))) (by decide) (t := .int) (t' := (.object "com/example/rollback_for_flows/rollbackforflows/connector/PoolingProfile$ExhaustedAction")) (by decide) (by decide)))) (Or.inr (slot_ne (Or.inr (hw _ (List.mem_of_getElem? (i := 58) rfl))) (Or.inr (hw _ (List.mem_of_getElem? (i := 66) rfl))) (by decide) (t := .int) (t' := (.object "com/example/rollback_for_flows/rollbackforflows/connector/PoolingProfile$InitialisationPolicy")) (by decide) (by decide)))) (Or.inr (slot_ne (Or.inr (hw _ (List.mem_of_getElem? (i := 58) rfl))) (Or.inr (hw _ (List.mem_of_getElem? (i := 68) rfl))) (by decide) (t := .int) (t' := .boolean) (by decide) (by decide)))) (Or.inr (slot_ne (Or.inr (hw _ (List.mem_of_getElem? (i := 58) rfl))) (Or.inr (hw _ (List.mem_of_getElem? (i := 70) rfl))) (by decide) (t := .int) (t' := .long) (by decide) (by decide)))) (Or.inr (slot_ne (Or.inr (hw _ (List.mem_of_getElem? (i := 58) rfl))) (Or.inr (hw _ (List.mem_of_getElem? (i := 72) rfl))) (by decide) (t := .int) (t' := .long) (by decide) (by decide)))), (Fld.other W23 (Fld.other W22 (Fld.other W21 (Fld.other W20 (Fld.other W19 (Fld.other W18 Fw17 (Or.inr (slot_ne (Or.inr (hw _ (List.mem_of_getElem? (i := 60) rfl))) (Or.inr (hw _ (List.mem_of_getElem? (i := 62) rfl))) (by decide) (t := .int) (t' := .long) (by decide) (by decide)))) (Or.inr (slot_ne (Or.inr (hw _ (List.mem_of_getElem? (i := 60) rfl))) (Or.inr (hw _ (List.mem_of_getElem? (i := 64) rfl))) (by decide) (t := .int) (t' := (.object "com/example/rollback_for_flows/rollbackforflows/connector/PoolingProfile$ExhaustedAction")) (by decide) (by decide)))) (Or.inr (slot_ne (Or.inr (hw _ (List.mem_of_getElem? (i := 60) rfl))) (Or.inr (hw _ (List.mem_of_getElem? (i := 66) rfl))) (by decide) (t := .int) (t' := (.object "com/example/rollback_for_flows/rollbackforflows/connector/PoolingProfile$InitialisationPolicy")) (by decide) (by decide)))) (Or.inr (slot_ne (Or.inr (hw _ (List.mem_of_getElem? (i := 60) rfl))) (Or.inr (hw _ (List.mem_of_getElem? (i := 68) rfl))) (by decide) (t := .int) (t' := .boolean) (by decide) (by decide)))) (Or.inr (slot_ne (Or.inr (hw _ (List.mem_of_getElem? (i := 60) rfl))) (Or.inr (hw _ (List.mem_of_getElem? (i := 70) rfl))) (by decide) (t := .int) (t' := .long) (by decide) (by decide)))) (Or.inr (slot_ne (Or.inr (hw _ (List.mem_of_getElem? (i := 60) rfl))) (Or.inr (hw _ (List.mem_of_getElem? (i := 72) rfl))) (by decide) (t := .int) (t' := .long) (by decide) (by decide)))), (Fld.other W23 (Fld.other W22 (Fld.other W21 (Fld.other W20 (Fld.other W19 Fw18 (Or.inr (slot_ne (Or.inr (hw _ (List.mem_of_getElem? (i := 62) rfl))) (Or.inr (hw _ (List.mem_of_getElem? (i := 64) rfl))) (by decide) (t := .long) (t' := (.object "com/example/rollback_for_flows/rollbackforflows/connector/PoolingProfile$ExhaustedAction")) (by decide) (by decide)))) (Or.inr (slot_ne (Or.inr (hw _ (List.mem_of_getElem? (i := 62) rfl))) (Or.inr (hw _ (List.mem_of_getElem? (i := 66) rfl))) (by decide) (t := .long) (t' := (.object "com/example/rollback_for_flows/rollbackforflows/connector/PoolingProfile$InitialisationPolicy")) (by decide) (by decide)))) (Or.inr (slot_ne (Or.inr (hw _ (List.mem_of_getElem? (i := 62) rfl))) (Or.inr (hw _ (List.mem_of_getElem? (i := 68) rfl))) (by decide) (t := .long) (t' := .boolean) (by decide) (by decide)))) (Or.inr (slot_ne (Or.inr (hw _ (List.mem_of_getElem? (i := 62) rfl))) (Or.inr (hw _ (List.mem_of_getElem? (i := 70) rfl))) (by decide) (t := .long) (t' := .long) (by decide) (by decide)))) (Or.inr (slot_ne (Or.inr (hw _ (List.mem_of_getElem? (i := 62) rfl))) (Or.inr (hw _ (List.mem_of_getElem? (i := 72) rfl))) (by decide) (t := .long) (t' := .long) (by decide) (by decide)))), (Fld.other W23 (Fld.other W22 (Fld.other W21 (Fld.other W20 Fw19 (Or.inr (slot_ne (Or.inr (hw _ (List.mem_of_getElem? (i := 64) rfl))) (Or.inr (hw _ (List.mem_of_getElem? (i := 66) rfl))) (by decide) (t := (.object "com/example/rollback_for_flows/rollbackforflows/connector/PoolingProfile$ExhaustedAction")) (t' := (.object "com/example/rollback_for_flows/rollbackforflows/connector/PoolingProfile$InitialisationPolicy")) (by decide) (by decide)))) (Or.inr (slot_ne (Or.inr (hw _ (List.mem_of_getElem? (i := 64) rfl))) (Or.inr (hw _ (List.mem_of_getElem? (i := 68) rfl))) (by decide) (t := (.object "com/example/rollback_for_flows/rollbackforflows/connector/PoolingProfile$ExhaustedAction")) (t' := .boolean) (by decide) (by decide)))) (Or.inr (slot_ne (Or.inr (hw _ (List.mem_of_getElem? (i := 64) rfl))) (Or.inr (hw _ (List.mem_of_getElem? (i := 70) rfl))) (by decide) (t := (.object "com/example/rollback_for_flows/rollbackforflows/connector/PoolingProfile$ExhaustedAction")) (t' := .long) (by decide) (by decide)))) (Or.inr (slot_ne (Or.inr (hw _ (List.mem_of_getElem? (i := 64) rfl))) (Or.inr (hw _ (List.mem_of_getElem? (i := 72) rfl))) (by decide) (t := (.object "com/example/rollback_for_flows/rollbackforflows/connector/PoolingProfile$ExhaustedAction")) (t' := .long) (by decide) (by decide)))), (Fld.other W23 (Fld.other W22 (Fld.other W21 Fw20 (Or.inr (slot_ne (Or.inr (hw _ (List.mem_of_getElem? (i := 66) rfl))) (Or.inr (hw _ (List.mem_of_getElem? (i := 68) rfl))) (by decide) (t := (.object "com/example/rollback_for_flows/rollbackforflows/connector/PoolingProfile$InitialisationPolicy")) (t' := .boolean) (by decide) (by decide)))) (Or.inr (slot_ne (Or.inr (hw _ (List.mem_of_getElem? (i := 66) rfl))) (Or.inr (hw _ (List.mem_of_getElem? (i := 70) rfl))) (by decide) (t := (.object "com/example/rollback_for_flows/rollbackforflows/connector/PoolingProfile$InitialisationPolicy")) (t' := .long) (by decide) (by decide)))) (Or.inr (slot_ne (Or.inr (hw _ (List.mem_of_getElem? (i := 66) rfl))) (Or.inr (hw _ (List.mem_of_getElem? (i := 72) rfl))) (by decide) (t := (.object "com/example/rollback_for_flows/rollbackforflows/connector/PoolingProfile$InitialisationPolicy")) (t' := .long) (by decide) (by decide)))), (Fld.other W23 (Fld.other W22 Fw21 (Or.inr (slot_ne (Or.inr (hw _ (List.mem_of_getElem? (i := 68) rfl))) (Or.inr (hw _ (List.mem_of_getElem? (i := 70) rfl))) (by decide) (t := .boolean) (t' := .long) (by decide) (by decide)))) (Or.inr (slot_ne (Or.inr (hw _ (List.mem_of_getElem? (i := 68) rfl))) (Or.inr (hw _ (List.mem_of_getElem? (i := 72) rfl))) (by decide) (t := .boolean) (t' := .long) (by decide) (by decide)))), (Fld.other W23 Fw22 (Or.inr (slot_ne (Or.inr (hw _ (List.mem_of_getElem? (i := 70) rfl))) (Or.inr (hw _ (List.mem_of_getElem? (i := 72) rfl))) (by decide) (t := .long) (t' := .long) (by decide) (by decide)))), Fw23⟩
theorem pd_3 : parseMethodDescriptor "(IIJLcom/example/rollback_for_flows/rollbackforflows/connector/PoolingProfile$ExhaustedAction;Lcom/example/rollback_for_flows/rollbackforflows/connector/PoolingProfile$InitialisationPolicy;ZJJ)V" = some ⟨[.int, .int, .long, (.object "com/example/rollback_for_flows/rollbackforflows/connector/PoolingProfile$ExhaustedAction"), (.object "com/example/rollback_for_flows/rollbackforflows/connector/PoolingProfile$InitialisationPolicy"), .boolean, .long, .long], none⟩ := by decide +kernel
theorem d10_0 : decode prog_31_method_6_code 0 = .ok (.new 20, 3) := by decide +kernel
theorem d10_3 : decode prog_31_method_6_code 3 = .ok (.dup, 1) := by decide +kernel
theorem d10_4 : decode prog_31_method_6_code 4 = .ok (.aload_n 0, 1) := by decide +kernel
theorem d10_5 : decode prog_31_method_6_code 5 = .ok (.getfield 33, 3) := by decide +kernel
theorem d10_8 : decode prog_31_method_6_code 8 = .ok (.aload_n 0, 1) := by decide +kernel
theorem d10_9 : decode prog_31_method_6_code 9 = .ok (.getfield 37, 3) := by decide +kernel
theorem d10_12 : decode prog_31_method_6_code 12 = .ok (.aload_n 0, 1) := by decide +kernel
theorem d10_13 : decode prog_31_method_6_code 13 = .ok (.getfield 40, 3) := by decide +kernel
theorem d10_16 : decode prog_31_method_6_code 16 = .ok (.aload_n 1, 1) := by decide +kernel
theorem d10_17 : decode prog_31_method_6_code 17 = .ok (.aload_n 0, 1) := by decide +kernel
theorem d10_18 : decode prog_31_method_6_code 18 = .ok (.getfield 47, 3) := by decide +kernel
theorem d10_21 : decode prog_31_method_6_code 21 = .ok (.aload_n 0, 1) := by decide +kernel
theorem d10_22 : decode prog_31_method_6_code 22 = .ok (.getfield 50, 3) := by decide +kernel
theorem d10_25 : decode prog_31_method_6_code 25 = .ok (.aload_n 0, 1) := by decide +kernel
theorem d10_26 : decode prog_31_method_6_code 26 = .ok (.getfield 54, 3) := by decide +kernel
theorem d10_29 : decode prog_31_method_6_code 29 = .ok (.aload_n 0, 1) := by decide +kernel
theorem d10_30 : decode prog_31_method_6_code 30 = .ok (.getfield 57, 3) := by decide +kernel
theorem d10_33 : decode prog_31_method_6_code 33 = .ok (.invokespecial 64, 3) := by decide +kernel
theorem d10_36 : decode prog_31_method_6_code 36 = .ok (.areturn, 1) := by decide +kernel
theorem ef_10 (m : MethodId) (a1 : Addr) (r4 : Addr) : entryFrame m #[(.ref a1), (.ref r4)] 2 = mkF m 0 #[.val (.ref a1), .val (.ref r4)] [] := by first | (simp [entryFrame, mkF, argsToLocals, Value.category]; done) | rfl
def Q10 (Z : State) (a1 : Addr) (r4 : Addr) (i1 : Int32) (i2 : Int32) (j3 : Int64) (r5 : Addr) (z6 : Int32) (j7 : Int64) (j8 : Int64) (h0 : Heap) (n0 : Nat) (v : Option Value) (h : Heap) (L : List Loc) : Prop := ∃ b : Addr, v = some (.ref b) ∧ Fr n0 L ∧ Keep h0 h [] ∧ n0 ≤ b ∧ Exa Z h b "com/example/rollback_for_flows/rollbackforflows/connector/PoolingProfile" ∧ Fld Z h b "com/example/rollback_for_flows/rollbackforflows/connector/PoolingProfile" "maxActive" "I" (.int i1) ∧ Fld Z h b "com/example/rollback_for_flows/rollbackforflows/connector/PoolingProfile" "maxIdle" "I" (.int i2) ∧ Fld Z h b "com/example/rollback_for_flows/rollbackforflows/connector/PoolingProfile" "maxWaitMillis" "J" (.long j3) ∧ Fld Z h b "com/example/rollback_for_flows/rollbackforflows/connector/PoolingProfile" "exhaustedAction" "Lcom/example/rollback_for_flows/rollbackforflows/connector/PoolingProfile$ExhaustedAction;" (.ref r4) ∧ Fld Z h b "com/example/rollback_for_flows/rollbackforflows/connector/PoolingProfile" "initialisationPolicy" "Lcom/example/rollback_for_flows/rollbackforflows/connector/PoolingProfile$InitialisationPolicy;" (.ref r5) ∧ Fld Z h b "com/example/rollback_for_flows/rollbackforflows/connector/PoolingProfile" "evicts" "Z" (.int z6) ∧ Fld Z h b "com/example/rollback_for_flows/rollbackforflows/connector/PoolingProfile" "minEvictionMillis" "J" (.long j7) ∧ Fld Z h b "com/example/rollback_for_flows/rollbackforflows/connector/PoolingProfile" "evictionCheckIntervalMillis" "J" (.long j8)
set_option maxRecDepth 65536 in
set_option maxHeartbeats 40000000 in
theorem rm10 (l : Launch) (Z : State) (a0 : Array Value) (hw : ∀ d ∈ tables_1, d.before a0 Z = true) (ws : List Jvm.Cond) (a1 : Addr) (r4 : Addr) (i1 : Int32) (i2 : Int32) (j3 : Int64) (r5 : Addr) (z6 : Int32) (j7 : Int64) (j8 : Int64) (h0 : Heap) (n0 : Nat) (Z0 : n0 ≤ h0.size) (F_maxActive : Fld Z h0 a1 "com/example/rollback_for_flows/rollbackforflows/connector/PoolingProfile" "maxActive" "I" (.int i1)) (F_maxIdle : Fld Z h0 a1 "com/example/rollback_for_flows/rollbackforflows/connector/PoolingProfile" "maxIdle" "I" (.int i2)) (F_maxWaitMillis : Fld Z h0 a1 "com/example/rollback_for_flows/rollbackforflows/connector/PoolingProfile" "maxWaitMillis" "J" (.long j3)) (F_initialisationPolicy : Fld Z h0 a1 "com/example/rollback_for_flows/rollbackforflows/connector/PoolingProfile" "initialisationPolicy" "Lcom/example/rollback_for_flows/rollbackforflows/connector/PoolingProfile$InitialisationPolicy;" (.ref r5)) (F_evicts : Fld Z h0 a1 "com/example/rollback_for_flows/rollbackforflows/connector/PoolingProfile" "evicts" "Z" (.int z6)) (F_minEvictionMillis : Fld Z h0 a1 "com/example/rollback_for_flows/rollbackforflows/connector/PoolingProfile" "minEvictionMillis" "J" (.long j7)) (F_evictionCheckIntervalMillis : Fld Z h0 a1 "com/example/rollback_for_flows/rollbackforflows/connector/PoolingProfile" "evictionCheckIntervalMillis" "J" (.long j8)) (hp1 : ¬ ((i1.toInt64) < (1 : Int64))) (hp2 : ¬ ((i2.toInt64) < (0 : Int64))) (hp3 : ¬ (j3 < (0 : Int64))) (hz : nar .boolean z6 = z6) (hp7 : ¬ (j7 < (0 : Int64))) (hp8 : ¬ (j8 < (1 : Int64))) :
    MetFree l (⟨"com/example/rollback_for_flows/rollbackforflows/connector/PoolingProfile", "withExhaustedAction", "(Lcom/example/rollback_for_flows/rollbackforflows/connector/PoolingProfile$ExhaustedAction;)Lcom/example/rollback_for_flows/rollbackforflows/connector/PoolingProfile;"⟩ : MethodName) (head1 (Jvm.Cond.code (⟨"com/example/rollback_for_flows/rollbackforflows/connector/PoolingProfile", "withExhaustedAction", "(Lcom/example/rollback_for_flows/rollbackforflows/connector/PoolingProfile$ExhaustedAction;)Lcom/example/rollback_for_flows/rollbackforflows/connector/PoolingProfile;"⟩ : MethodName) prog_31_method_6_code 2 (some (.object "com/example/rollback_for_flows/rollbackforflows/connector/PoolingProfile")) :: ws) ({ frames := 3, cells := 15, slots := 504, locals := 48 } : Room)) (fun a U => a = #[(.ref a1), (.ref r4)] ∧ Z.Warmed39 U.vm ∧ U.heap = h0) (fun _ _ _ _ _ => True) (fun _ U o U' => ∃ v L, o = .returned v ∧ Q10 Z a1 r4 i1 i2 j3 r5 z6 j7 j8 h0 n0 v U'.heap L ∧ ReturnedEndW U o U' L ({ frames := 3, cells := 15, slots := 504, locals := 48 } : Room).cells ({ frames := 3, cells := 15, slots := 504, locals := 48 } : Room).slots) := by
  refine MetFree.of_bodySF (plainFor_of_name pn_3) hisR ?_
  intro p e s m args below meth c s₁ Bd hml0 hP hK
  obtain ⟨rfl, hZ, hh⟩ := hP
  have hx := Bd.exec
  have hby := Bd.bytes
  have hml : c.maxLocals = 2 := hml0
  have hown : s.vm.findClass "com/example/rollback_for_flows/rollbackforflows/connector/PoolingProfile" = some m.cls := findClass_of_methodNamed Bd.named
  have hnm := (name_of_methodNamed Bd.named Bd.method).1
  have hlk : meth.locks = false := BodyLoose.notSynchronized Bd
  have X0 : Stand p l e ({ frames := 3, cells := 15, slots := 504, locals := 48 } : Room) (s.setVm s.vm) m #[(.ref a1), (.ref r4)] below meth c s₁ [] 0 0 := Stand.of_body Bd
  have e0 : s₁.heap = h0 := by rw [← hh, Bd.state]; rfl
  have N0 := Fr.nil n0
  suffices hgo : GoW p e below s (Q10 Z a1 r4 i1 i2 j3 r5 z6 j7 j8 h0 n0) ({ frames := 3, cells := 15, slots := 504, locals := 48 } : Room).cells ({ frames := 3, cells := 15, slots := 504, locals := 48 } : Room).slots s₁ (mkF m 0 #[.val (.ref a1), .val (.ref r4)] []) by
    obtain ⟨s₂, o, k1, k2⟩ := hgo
    exact ⟨s₂, o, castTop (ef_10 m a1 r4) k1, k2⟩
  have hS0 : s.Since s.vm h0.size := State.WarmedH.since (State.WarmedH.refl s) _
  have hk0 : h0.size ≤ h0.size := Nat.le_refl _
  have hZ : Z.Warmed39 (s.setVm s.vm).vm := hZ
  have hown : (s.setVm s.vm).vm.findClass "com/example/rollback_for_flows/rollbackforflows/connector/PoolingProfile" = some m.cls := hown
  obtain ⟨T1, h1, X1, e1, E1, A1, D1, -, st1⟩ := newO X0 hx hZ hown (hw _ (List.mem_of_getElem? (i := 78) rfl)) (hw _ (List.mem_of_getElem? (i := 23) rfl)) (hw _ (List.mem_of_getElem? (i := 24) rfl)) e0 (g := (mkF m 0 #[.val (.ref a1), .val (.ref r4)] [])) rfl (hb hby d10_0) (by decide) (by decide)
  obtain ⟨b1, q1⟩ : ∃ z, z = h0.size := ⟨_, rfl⟩
  rw [← q1] at A1 D1 st1
  have FmaxActive_b1 : Fld Z h1 b1 "com/example/rollback_for_flows/rollbackforflows/connector/PoolingProfile" "maxActive" "I" (.int (0 : Int32)) := D1 (Or.inr (hw _ (List.mem_of_getElem? (i := 58) rfl))) (ty := .int) (by decide)
  have FmaxIdle_b1 : Fld Z h1 b1 "com/example/rollback_for_flows/rollbackforflows/connector/PoolingProfile" "maxIdle" "I" (.int (0 : Int32)) := D1 (Or.inr (hw _ (List.mem_of_getElem? (i := 60) rfl))) (ty := .int) (by decide)
  have FmaxWaitMillis_b1 : Fld Z h1 b1 "com/example/rollback_for_flows/rollbackforflows/connector/PoolingProfile" "maxWaitMillis" "J" (.long (0 : Int64)) := D1 (Or.inr (hw _ (List.mem_of_getElem? (i := 62) rfl))) (ty := .long) (by decide)
  have FexhaustedAction_b1 : Fld Z h1 b1 "com/example/rollback_for_flows/rollbackforflows/connector/PoolingProfile" "exhaustedAction" "Lcom/example/rollback_for_flows/rollbackforflows/connector/PoolingProfile$ExhaustedAction;" .null := D1 (Or.inr (hw _ (List.mem_of_getElem? (i := 64) rfl))) (ty := (.object "com/example/rollback_for_flows/rollbackforflows/connector/PoolingProfile$ExhaustedAction")) (by decide)
  have FinitialisationPolicy_b1 : Fld Z h1 b1 "com/example/rollback_for_flows/rollbackforflows/connector/PoolingProfile" "initialisationPolicy" "Lcom/example/rollback_for_flows/rollbackforflows/connector/PoolingProfile$InitialisationPolicy;" .null := D1 (Or.inr (hw _ (List.mem_of_getElem? (i := 66) rfl))) (ty := (.object "com/example/rollback_for_flows/rollbackforflows/connector/PoolingProfile$InitialisationPolicy")) (by decide)
  have Fevicts_b1 : Fld Z h1 b1 "com/example/rollback_for_flows/rollbackforflows/connector/PoolingProfile" "evicts" "Z" (.int (0 : Int32)) := D1 (Or.inr (hw _ (List.mem_of_getElem? (i := 68) rfl))) (ty := .boolean) (by decide)
  have FminEvictionMillis_b1 : Fld Z h1 b1 "com/example/rollback_for_flows/rollbackforflows/connector/PoolingProfile" "minEvictionMillis" "J" (.long (0 : Int64)) := D1 (Or.inr (hw _ (List.mem_of_getElem? (i := 70) rfl))) (ty := .long) (by decide)
  have FevictionCheckIntervalMillis_b1 : Fld Z h1 b1 "com/example/rollback_for_flows/rollbackforflows/connector/PoolingProfile" "evictionCheckIntervalMillis" "J" (.long (0 : Int64)) := D1 (Or.inr (hw _ (List.mem_of_getElem? (i := 72) rfl))) (ty := .long) (by decide)
  have g_b1 : n0 ≤ b1 := Nat.le_trans Z0 (Nat.le_of_eq q1.symm)
  have sz_b1 : h0.size ≤ b1 := Nat.le_trans ((Keep.refl h0 [])).1 (Nat.le_of_eq q1.symm)
  have K1 := Keep.ext (Keep.refl h0 []) E1
  refine GoW.st (T' := T1) (g' := (mkF m 3 #[.val (.ref a1), .val (.ref r4)] [(.ref b1)])) st1 ?_
  refine GoW.st (T' := T1) (g' := (mkF m 4 #[.val (.ref a1), .val (.ref r4)] [(.ref b1), (.ref b1)])) (fun t_ k_ => XS.dup X1.here hx rfl (hb hby d10_3) rfl rfl k_) ?_
  refine GoW.st (T' := T1) (g' := (mkF m 5 #[.val (.ref a1), .val (.ref r4)] [(.ref a1), (.ref b1), (.ref b1)])) (fun t_ k_ => XS.aloadN X1.here hx rfl (hb hby d10_4) rfl rfl k_) ?_
  obtain ⟨T2, X2, e2, st2⟩ := getF X1 hx hZ hown (host := "") (Or.inl (hw _ (List.mem_of_getElem? (i := 57) rfl))) Via.refl e1 (Fld.ext E1 F_maxActive) (g := (mkF m 5 #[.val (.ref a1), .val (.ref r4)] [(.ref a1), (.ref b1), (.ref b1)])) rfl rfl (hb hby d10_5)
  refine GoW.st (T' := T2) (g' := (mkF m 8 #[.val (.ref a1), .val (.ref r4)] [(.int i1), (.ref b1), (.ref b1)])) st2 ?_
  refine GoW.st (T' := T2) (g' := (mkF m 9 #[.val (.ref a1), .val (.ref r4)] [(.ref a1), (.int i1), (.ref b1), (.ref b1)])) (fun t_ k_ => XS.aloadN X2.here hx rfl (hb hby d10_8) rfl rfl k_) ?_
  obtain ⟨T3, X3, e3, st3⟩ := getF X2 hx hZ hown (host := "") (Or.inl (hw _ (List.mem_of_getElem? (i := 59) rfl))) Via.refl e2 (Fld.ext E1 F_maxIdle) (g := (mkF m 9 #[.val (.ref a1), .val (.ref r4)] [(.ref a1), (.int i1), (.ref b1), (.ref b1)])) rfl rfl (hb hby d10_9)
  refine GoW.st (T' := T3) (g' := (mkF m 12 #[.val (.ref a1), .val (.ref r4)] [(.int i2), (.int i1), (.ref b1), (.ref b1)])) st3 ?_
  refine GoW.st (T' := T3) (g' := (mkF m 13 #[.val (.ref a1), .val (.ref r4)] [(.ref a1), (.int i2), (.int i1), (.ref b1), (.ref b1)])) (fun t_ k_ => XS.aloadN X3.here hx rfl (hb hby d10_12) rfl rfl k_) ?_
  obtain ⟨T4, X4, e4, st4⟩ := getF X3 hx hZ hown (host := "") (Or.inl (hw _ (List.mem_of_getElem? (i := 61) rfl))) Via.refl e3 (Fld.ext E1 F_maxWaitMillis) (g := (mkF m 13 #[.val (.ref a1), .val (.ref r4)] [(.ref a1), (.int i2), (.int i1), (.ref b1), (.ref b1)])) rfl rfl (hb hby d10_13)
  refine GoW.st (T' := T4) (g' := (mkF m 16 #[.val (.ref a1), .val (.ref r4)] [(.long j3), (.int i2), (.int i1), (.ref b1), (.ref b1)])) st4 ?_
  refine GoW.st (T' := T4) (g' := (mkF m 17 #[.val (.ref a1), .val (.ref r4)] [(.ref r4), (.long j3), (.int i2), (.int i1), (.ref b1), (.ref b1)])) (fun t_ k_ => XS.aloadN X4.here hx rfl (hb hby d10_16) rfl rfl k_) ?_
  refine GoW.st (T' := T4) (g' := (mkF m 18 #[.val (.ref a1), .val (.ref r4)] [(.ref a1), (.ref r4), (.long j3), (.int i2), (.int i1), (.ref b1), (.ref b1)])) (fun t_ k_ => XS.aloadN X4.here hx rfl (hb hby d10_17) rfl rfl k_) ?_
  obtain ⟨T5, X5, e5, st5⟩ := getF X4 hx hZ hown (host := "") (Or.inl (hw _ (List.mem_of_getElem? (i := 65) rfl))) Via.refl e4 (Fld.ext E1 F_initialisationPolicy) (g := (mkF m 18 #[.val (.ref a1), .val (.ref r4)] [(.ref a1), (.ref r4), (.long j3), (.int i2), (.int i1), (.ref b1), (.ref b1)])) rfl rfl (hb hby d10_18)
  refine GoW.st (T' := T5) (g' := (mkF m 21 #[.val (.ref a1), .val (.ref r4)] [(.ref r5), (.ref r4), (.long j3), (.int i2), (.int i1), (.ref b1), (.ref b1)])) st5 ?_
  refine GoW.st (T' := T5) (g' := (mkF m 22 #[.val (.ref a1), .val (.ref r4)] [(.ref a1), (.ref r5), (.ref r4), (.long j3), (.int i2), (.int i1), (.ref b1), (.ref b1)])) (fun t_ k_ => XS.aloadN X5.here hx rfl (hb hby d10_21) rfl rfl k_) ?_
  obtain ⟨T6, X6, e6, st6⟩ := getF X5 hx hZ hown (host := "") (Or.inl (hw _ (List.mem_of_getElem? (i := 67) rfl))) Via.refl e5 (Fld.ext E1 F_evicts) (g := (mkF m 22 #[.val (.ref a1), .val (.ref r4)] [(.ref a1), (.ref r5), (.ref r4), (.long j3), (.int i2), (.int i1), (.ref b1), (.ref b1)])) rfl rfl (hb hby d10_22)
  refine GoW.st (T' := T6) (g' := (mkF m 25 #[.val (.ref a1), .val (.ref r4)] [(.int z6), (.ref r5), (.ref r4), (.long j3), (.int i2), (.int i1), (.ref b1), (.ref b1)])) st6 ?_
  refine GoW.st (T' := T6) (g' := (mkF m 26 #[.val (.ref a1), .val (.ref r4)] [(.ref a1), (.int z6), (.ref r5), (.ref r4), (.long j3), (.int i2), (.int i1), (.ref b1), (.ref b1)])) (fun t_ k_ => XS.aloadN X6.here hx rfl (hb hby d10_25) rfl rfl k_) ?_
  obtain ⟨T7, X7, e7, st7⟩ := getF X6 hx hZ hown (host := "") (Or.inl (hw _ (List.mem_of_getElem? (i := 69) rfl))) Via.refl e6 (Fld.ext E1 F_minEvictionMillis) (g := (mkF m 26 #[.val (.ref a1), .val (.ref r4)] [(.ref a1), (.int z6), (.ref r5), (.ref r4), (.long j3), (.int i2), (.int i1), (.ref b1), (.ref b1)])) rfl rfl (hb hby d10_26)
  refine GoW.st (T' := T7) (g' := (mkF m 29 #[.val (.ref a1), .val (.ref r4)] [(.long j7), (.int z6), (.ref r5), (.ref r4), (.long j3), (.int i2), (.int i1), (.ref b1), (.ref b1)])) st7 ?_
  refine GoW.st (T' := T7) (g' := (mkF m 30 #[.val (.ref a1), .val (.ref r4)] [(.ref a1), (.long j7), (.int z6), (.ref r5), (.ref r4), (.long j3), (.int i2), (.int i1), (.ref b1), (.ref b1)])) (fun t_ k_ => XS.aloadN X7.here hx rfl (hb hby d10_29) rfl rfl k_) ?_
  obtain ⟨T8, X8, e8, st8⟩ := getF X7 hx hZ hown (host := "") (Or.inl (hw _ (List.mem_of_getElem? (i := 71) rfl))) Via.refl e7 (Fld.ext E1 F_evictionCheckIntervalMillis) (g := (mkF m 30 #[.val (.ref a1), .val (.ref r4)] [(.ref a1), (.long j7), (.int z6), (.ref r5), (.ref r4), (.long j3), (.int i2), (.int i1), (.ref b1), (.ref b1)])) rfl rfl (hb hby d10_30)
  refine GoW.st (T' := T8) (g' := (mkF m 33 #[.val (.ref a1), .val (.ref r4)] [(.long j8), (.long j7), (.int z6), (.ref r5), (.ref r4), (.long j3), (.int i2), (.int i1), (.ref b1), (.ref b1)])) st8 ?_
  obtain ⟨_, _, ⟨T9, L9, k9, n9⟩, -, Xq9, hSq9, hgr9, ⟨Lc9, hQ9, l9, y9, z9⟩, st9⟩ := X8.specialBackS hx (y := (⟨"com/example/rollback_for_flows/rollbackforflows/connector/PoolingProfile", "<init>", "(IIJLcom/example/rollback_for_flows/rollbackforflows/connector/PoolingProfile$ExhaustedAction;Lcom/example/rollback_for_flows/rollbackforflows/connector/PoolingProfile$InitialisationPolicy;ZJJ)V"⟩ : MethodName)) rfl hown (mvT hZ (hw _ (List.mem_of_getElem? (i := 79) rfl))) (mvT hZ (hw _ (List.mem_of_getElem? (i := 26) rfl))) (mvT hZ (hw _ (List.mem_of_getElem? (i := 27) rfl))) (by decide) (backOfS (W := 1) (rm5 l Z a0 hw [] b1 i1 i2 j3 r4 r5 z6 j7 j8  h1 n0 (Nat.le_trans Z0 E1.1) A1 g_b1 FmaxActive_b1 FmaxIdle_b1 FmaxWaitMillis_b1 FexhaustedAction_b1 FinitialisationPolicy_b1 Fevicts_b1 FminEvictionMillis_b1 FevictionCheckIntervalMillis_b1 hp1 hp2 hp3 hz hp7 hp8) hZ (hw _ (List.mem_of_getElem? (i := 27) rfl)) (hw _ (List.mem_of_getElem? (i := 24) rfl)) (by decide) (by decide)) (g := (mkF m 33 #[.val (.ref a1), .val (.ref r4)] [(.long j8), (.long j7), (.int z6), (.ref r5), (.ref r4), (.long j3), (.int i2), (.int i1), (.ref b1), (.ref b1)])) rfl (by rw [hml]; rfl) (Steps.refl _) (a := b1) (argsL := [(.int i1), (.int i2), (.long j3), (.ref r4), (.ref r5), (.int z6), (.long j7), (.long j8)]) (rest := [(.ref b1)]) (lenOf pd_3 rfl) rfl (by show 2 * 0 + _ ≤ _; exact Nat.le_of_eq rfl) (hb hby d10_33) (fun _ _ => ⟨rfl, e8, (by decide : 1 + 14 ≤ _), (by decide : 8 + 496 ≤ _)⟩)
  dsimp only [Pt.U, Pt.locs, Pt.cells, Pt.slots] at Xq9 l9 y9 z9 st9 hQ9 hSq9 hgr9
  subst l9 y9 z9
  obtain ⟨X9, hS9, hZ, hown⟩ := rebS hS0 (by rw [e8]; exact (Nat.le_trans hk0 E1.1)) Xq9 hSq9 hgr9 hZ hown
  obtain ⟨rfl, Nq9, Kq9, Eq9, F0q9, F1q9, F2q9, F3q9, F4q9, F5q9, F6q9, F7q9⟩ := hQ9
  have N9 := Fr.app N0 Nq9
  refine GoW.ts (T' := T9) (g' := (mkF m 36 #[.val (.ref a1), .val (.ref r4)] [(.ref b1)])) st9 ?_
  refine GoW.retA X9 hx Bd.returns hlk hS9 (Nat.le_refl _) rfl rfl rfl (hb hby d10_36) (by decide) (by decide) ?_
  exact ⟨b1, rfl, N9, (Keep.trans K1 Kq9 (allS (Or.inr sz_b1) all0)), g_b1, Eq9, F0q9, F1q9, F2q9, F3q9, F4q9, F5q9, F6q9, F7q9⟩
theorem d11_0 : decode prog_31_method_17_code 0 = .ok (.aload_n 0, 1) := by decide +kernel
theorem d11_1 : decode prog_31_method_17_code 1 = .ok (.getfield 44, 3) := by decide +kernel
theorem d11_4 : decode prog_31_method_17_code 4 = .ok (.areturn, 1) := by decide +kernel
theorem ef_11 (m : MethodId) (a1 : Addr) : entryFrame m #[(.ref a1)] 1 = mkF m 0 #[.val (.ref a1)] [] := by first | (simp [entryFrame, mkF, argsToLocals, Value.category]; done) | rfl
def Q11 (Z : State) (a1 : Addr) (r4 : Addr) (h0 : Heap) (n0 : Nat) (v : Option Value) (h : Heap) (L : List Loc) : Prop := v = some (.ref r4) ∧ Fr n0 L ∧ h = h0
set_option maxRecDepth 65536 in
set_option maxHeartbeats 40000000 in
theorem rm11 (l : Launch) (Z : State) (a0 : Array Value) (hw : ∀ d ∈ tables_1, d.before a0 Z = true) (ws : List Jvm.Cond) (a1 : Addr) (r4 : Addr) (h0 : Heap) (n0 : Nat) (Z0 : n0 ≤ h0.size) (F_exhaustedAction : Fld Z h0 a1 "com/example/rollback_for_flows/rollbackforflows/connector/PoolingProfile" "exhaustedAction" "Lcom/example/rollback_for_flows/rollbackforflows/connector/PoolingProfile$ExhaustedAction;" (.ref r4)) :
    MetFree l (⟨"com/example/rollback_for_flows/rollbackforflows/connector/PoolingProfile", "exhaustedAction", "()Lcom/example/rollback_for_flows/rollbackforflows/connector/PoolingProfile$ExhaustedAction;"⟩ : MethodName) (head1 (Jvm.Cond.code (⟨"com/example/rollback_for_flows/rollbackforflows/connector/PoolingProfile", "exhaustedAction", "()Lcom/example/rollback_for_flows/rollbackforflows/connector/PoolingProfile$ExhaustedAction;"⟩ : MethodName) prog_31_method_17_code 1 (some (.object "com/example/rollback_for_flows/rollbackforflows/connector/PoolingProfile$ExhaustedAction")) :: ws) ({ frames := 0, cells := 0, slots := 0, locals := 0 } : Room)) (fun a U => a = #[(.ref a1)] ∧ Z.Warmed39 U.vm ∧ U.heap = h0) (fun _ _ _ _ _ => True) (fun _ U o U' => ∃ v L, o = .returned v ∧ Q11 Z a1 r4 h0 n0 v U'.heap L ∧ FrameEnd U o U' L ({ frames := 0, cells := 0, slots := 0, locals := 0 } : Room).cells ({ frames := 0, cells := 0, slots := 0, locals := 0 } : Room).slots) := by
  refine MetFree.of_bodySF (plainFor_of_name pn_3) hisR ?_
  intro p e s m args below meth c s₁ Bd hml0 hP hK
  obtain ⟨rfl, hZ, hh⟩ := hP
  have hx := Bd.exec
  have hby := Bd.bytes
  have hml : c.maxLocals = 1 := hml0
  have hown : s.vm.findClass "com/example/rollback_for_flows/rollbackforflows/connector/PoolingProfile" = some m.cls := findClass_of_methodNamed Bd.named
  have hnm := (name_of_methodNamed Bd.named Bd.method).1
  have hlk : meth.locks = false := BodyLoose.notSynchronized Bd
  have X0 : Stand p l e ({ frames := 0, cells := 0, slots := 0, locals := 0 } : Room) s m #[(.ref a1)] below meth c s₁ [] 0 0 := Stand.of_body Bd
  have e0 : s₁.heap = h0 := by rw [← hh, Bd.state]; rfl
  have N0 := Fr.nil n0
  suffices hgo : Go p e below s (Q11 Z a1 r4 h0 n0) ({ frames := 0, cells := 0, slots := 0, locals := 0 } : Room).cells ({ frames := 0, cells := 0, slots := 0, locals := 0 } : Room).slots s₁ (mkF m 0 #[.val (.ref a1)] []) by
    obtain ⟨s₂, o, k1, k2⟩ := hgo
    exact ⟨s₂, o, castTop (ef_11 m a1) k1, k2⟩
  refine Go.st (T' := s₁) (g' := (mkF m 1 #[.val (.ref a1)] [(.ref a1)])) (fun t_ k_ => XS.aloadN X0.here hx rfl (hb hby d11_0) rfl rfl k_) ?_
  obtain ⟨T1, X1, e1, st1⟩ := getF X0 hx hZ hown (host := "") (Or.inl (hw _ (List.mem_of_getElem? (i := 63) rfl))) Via.refl e0 F_exhaustedAction (g := (mkF m 1 #[.val (.ref a1)] [(.ref a1)])) rfl rfl (hb hby d11_1)
  refine Go.st (T' := T1) (g' := (mkF m 4 #[.val (.ref a1)] [(.ref r4)])) st1 ?_
  refine Go.retA X1 hx Bd.returns hlk rfl rfl rfl (hb hby d11_4) (by decide) (by decide) ?_
  rw [e1]
  exact ⟨rfl, N0, rfl⟩
theorem d12_0 : decode prog_31_method_14_code 0 = .ok (.aload_n 0, 1) := by decide +kernel
theorem d12_1 : decode prog_31_method_14_code 1 = .ok (.getfield 33, 3) := by decide +kernel
theorem d12_4 : decode prog_31_method_14_code 4 = .ok (.ireturn, 1) := by decide +kernel
theorem ef_12 (m : MethodId) (a1 : Addr) : entryFrame m #[(.ref a1)] 1 = mkF m 0 #[.val (.ref a1)] [] := by first | (simp [entryFrame, mkF, argsToLocals, Value.category]; done) | rfl
def Q12 (Z : State) (a1 : Addr) (i1 : Int32) (h0 : Heap) (n0 : Nat) (v : Option Value) (h : Heap) (L : List Loc) : Prop := v = some (.int i1) ∧ Fr n0 L ∧ h = h0
set_option maxRecDepth 65536 in
set_option maxHeartbeats 40000000 in
theorem rm12 (l : Launch) (Z : State) (a0 : Array Value) (hw : ∀ d ∈ tables_1, d.before a0 Z = true) (ws : List Jvm.Cond) (a1 : Addr) (i1 : Int32) (h0 : Heap) (n0 : Nat) (Z0 : n0 ≤ h0.size) (F_maxActive : Fld Z h0 a1 "com/example/rollback_for_flows/rollbackforflows/connector/PoolingProfile" "maxActive" "I" (.int i1)) :
    MetFree l (⟨"com/example/rollback_for_flows/rollbackforflows/connector/PoolingProfile", "maxActive", "()I"⟩ : MethodName) (head1 (Jvm.Cond.code (⟨"com/example/rollback_for_flows/rollbackforflows/connector/PoolingProfile", "maxActive", "()I"⟩ : MethodName) prog_31_method_14_code 1 (some .int) :: ws) ({ frames := 0, cells := 0, slots := 0, locals := 0 } : Room)) (fun a U => a = #[(.ref a1)] ∧ Z.Warmed39 U.vm ∧ U.heap = h0) (fun _ _ _ _ _ => True) (fun _ U o U' => ∃ v L, o = .returned v ∧ Q12 Z a1 i1 h0 n0 v U'.heap L ∧ FrameEnd U o U' L ({ frames := 0, cells := 0, slots := 0, locals := 0 } : Room).cells ({ frames := 0, cells := 0, slots := 0, locals := 0 } : Room).slots) := by
  refine MetFree.of_bodySF (plainFor_of_name pn_3) hisR ?_
  intro p e s m args below meth c s₁ Bd hml0 hP hK
  obtain ⟨rfl, hZ, hh⟩ := hP
  have hx := Bd.exec
  have hby := Bd.bytes
  have hml : c.maxLocals = 1 := hml0
  have hown : s.vm.findClass "com/example/rollback_for_flows/rollbackforflows/connector/PoolingProfile" = some m.cls := findClass_of_methodNamed Bd.named
  have hnm := (name_of_methodNamed Bd.named Bd.method).1
  have hlk : meth.locks = false := BodyLoose.notSynchronized Bd
  have X0 : Stand p l e ({ frames := 0, cells := 0, slots := 0, locals := 0 } : Room) s m #[(.ref a1)] below meth c s₁ [] 0 0 := Stand.of_body Bd
  have e0 : s₁.heap = h0 := by rw [← hh, Bd.state]; rfl
  have N0 := Fr.nil n0
  suffices hgo : Go p e below s (Q12 Z a1 i1 h0 n0) ({ frames := 0, cells := 0, slots := 0, locals := 0 } : Room).cells ({ frames := 0, cells := 0, slots := 0, locals := 0 } : Room).slots s₁ (mkF m 0 #[.val (.ref a1)] []) by
    obtain ⟨s₂, o, k1, k2⟩ := hgo
    exact ⟨s₂, o, castTop (ef_12 m a1) k1, k2⟩
  refine Go.st (T' := s₁) (g' := (mkF m 1 #[.val (.ref a1)] [(.ref a1)])) (fun t_ k_ => XS.aloadN X0.here hx rfl (hb hby d12_0) rfl rfl k_) ?_
  obtain ⟨T1, X1, e1, st1⟩ := getF X0 hx hZ hown (host := "") (Or.inl (hw _ (List.mem_of_getElem? (i := 57) rfl))) Via.refl e0 F_maxActive (g := (mkF m 1 #[.val (.ref a1)] [(.ref a1)])) rfl rfl (hb hby d12_1)
  refine Go.st (T' := T1) (g' := (mkF m 4 #[.val (.ref a1)] [(.int i1)])) st1 ?_
  refine Go.retI X1 hx Bd.returns hlk (hb hby d12_4) (by decide) (by decide) ?_
  rw [e1]
  exact ⟨rfl, N0, rfl⟩
theorem d13_0 : decode prog_31_method_15_code 0 = .ok (.aload_n 0, 1) := by decide +kernel
theorem d13_1 : decode prog_31_method_15_code 1 = .ok (.getfield 37, 3) := by decide +kernel
theorem d13_4 : decode prog_31_method_15_code 4 = .ok (.ireturn, 1) := by decide +kernel
theorem ef_13 (m : MethodId) (a1 : Addr) : entryFrame m #[(.ref a1)] 1 = mkF m 0 #[.val (.ref a1)] [] := by first | (simp [entryFrame, mkF, argsToLocals, Value.category]; done) | rfl
def Q13 (Z : State) (a1 : Addr) (i2 : Int32) (h0 : Heap) (n0 : Nat) (v : Option Value) (h : Heap) (L : List Loc) : Prop := v = some (.int i2) ∧ Fr n0 L ∧ h = h0
set_option maxRecDepth 65536 in
set_option maxHeartbeats 40000000 in
theorem rm13 (l : Launch) (Z : State) (a0 : Array Value) (hw : ∀ d ∈ tables_1, d.before a0 Z = true) (ws : List Jvm.Cond) (a1 : Addr) (i2 : Int32) (h0 : Heap) (n0 : Nat) (Z0 : n0 ≤ h0.size) (F_maxIdle : Fld Z h0 a1 "com/example/rollback_for_flows/rollbackforflows/connector/PoolingProfile" "maxIdle" "I" (.int i2)) :
    MetFree l (⟨"com/example/rollback_for_flows/rollbackforflows/connector/PoolingProfile", "maxIdle", "()I"⟩ : MethodName) (head1 (Jvm.Cond.code (⟨"com/example/rollback_for_flows/rollbackforflows/connector/PoolingProfile", "maxIdle", "()I"⟩ : MethodName) prog_31_method_15_code 1 (some .int) :: ws) ({ frames := 0, cells := 0, slots := 0, locals := 0 } : Room)) (fun a U => a = #[(.ref a1)] ∧ Z.Warmed39 U.vm ∧ U.heap = h0) (fun _ _ _ _ _ => True) (fun _ U o U' => ∃ v L, o = .returned v ∧ Q13 Z a1 i2 h0 n0 v U'.heap L ∧ FrameEnd U o U' L ({ frames := 0, cells := 0, slots := 0, locals := 0 } : Room).cells ({ frames := 0, cells := 0, slots := 0, locals := 0 } : Room).slots) := by
  refine MetFree.of_bodySF (plainFor_of_name pn_3) hisR ?_
  intro p e s m args below meth c s₁ Bd hml0 hP hK
  obtain ⟨rfl, hZ, hh⟩ := hP
  have hx := Bd.exec
  have hby := Bd.bytes
  have hml : c.maxLocals = 1 := hml0
  have hown : s.vm.findClass "com/example/rollback_for_flows/rollbackforflows/connector/PoolingProfile" = some m.cls := findClass_of_methodNamed Bd.named
  have hnm := (name_of_methodNamed Bd.named Bd.method).1
  have hlk : meth.locks = false := BodyLoose.notSynchronized Bd
  have X0 : Stand p l e ({ frames := 0, cells := 0, slots := 0, locals := 0 } : Room) s m #[(.ref a1)] below meth c s₁ [] 0 0 := Stand.of_body Bd
  have e0 : s₁.heap = h0 := by rw [← hh, Bd.state]; rfl
  have N0 := Fr.nil n0
  suffices hgo : Go p e below s (Q13 Z a1 i2 h0 n0) ({ frames := 0, cells := 0, slots := 0, locals := 0 } : Room).cells ({ frames := 0, cells := 0, slots := 0, locals := 0 } : Room).slots s₁ (mkF m 0 #[.val (.ref a1)] []) by
    obtain ⟨s₂, o, k1, k2⟩ := hgo
    exact ⟨s₂, o, castTop (ef_13 m a1) k1, k2⟩
  refine Go.st (T' := s₁) (g' := (mkF m 1 #[.val (.ref a1)] [(.ref a1)])) (fun t_ k_ => XS.aloadN X0.here hx rfl (hb hby d13_0) rfl rfl k_) ?_
  obtain ⟨T1, X1, e1, st1⟩ := getF X0 hx hZ hown (host := "") (Or.inl (hw _ (List.mem_of_getElem? (i := 59) rfl))) Via.refl e0 F_maxIdle (g := (mkF m 1 #[.val (.ref a1)] [(.ref a1)])) rfl rfl (hb hby d13_1)
  refine Go.st (T' := T1) (g' := (mkF m 4 #[.val (.ref a1)] [(.int i2)])) st1 ?_
  refine Go.retI X1 hx Bd.returns hlk (hb hby d13_4) (by decide) (by decide) ?_
  rw [e1]
  exact ⟨rfl, N0, rfl⟩
theorem d14_0 : decode prog_31_method_16_code 0 = .ok (.aload_n 0, 1) := by decide +kernel
theorem d14_1 : decode prog_31_method_16_code 1 = .ok (.getfield 40, 3) := by decide +kernel
theorem d14_4 : decode prog_31_method_16_code 4 = .ok (.lreturn, 1) := by decide +kernel
theorem ef_14 (m : MethodId) (a1 : Addr) : entryFrame m #[(.ref a1)] 1 = mkF m 0 #[.val (.ref a1)] [] := by first | (simp [entryFrame, mkF, argsToLocals, Value.category]; done) | rfl
def Q14 (Z : State) (a1 : Addr) (j3 : Int64) (h0 : Heap) (n0 : Nat) (v : Option Value) (h : Heap) (L : List Loc) : Prop := v = some (.long j3) ∧ Fr n0 L ∧ h = h0
set_option maxRecDepth 65536 in
set_option maxHeartbeats 40000000 in
theorem rm14 (l : Launch) (Z : State) (a0 : Array Value) (hw : ∀ d ∈ tables_1, d.before a0 Z = true) (ws : List Jvm.Cond) (a1 : Addr) (j3 : Int64) (h0 : Heap) (n0 : Nat) (Z0 : n0 ≤ h0.size) (F_maxWaitMillis : Fld Z h0 a1 "com/example/rollback_for_flows/rollbackforflows/connector/PoolingProfile" "maxWaitMillis" "J" (.long j3)) :
    MetFree l (⟨"com/example/rollback_for_flows/rollbackforflows/connector/PoolingProfile", "maxWaitMillis", "()J"⟩ : MethodName) (head1 (Jvm.Cond.code (⟨"com/example/rollback_for_flows/rollbackforflows/connector/PoolingProfile", "maxWaitMillis", "()J"⟩ : MethodName) prog_31_method_16_code 1 (some .long) :: ws) ({ frames := 0, cells := 0, slots := 0, locals := 0 } : Room)) (fun a U => a = #[(.ref a1)] ∧ Z.Warmed39 U.vm ∧ U.heap = h0) (fun _ _ _ _ _ => True) (fun _ U o U' => ∃ v L, o = .returned v ∧ Q14 Z a1 j3 h0 n0 v U'.heap L ∧ FrameEnd U o U' L ({ frames := 0, cells := 0, slots := 0, locals := 0 } : Room).cells ({ frames := 0, cells := 0, slots := 0, locals := 0 } : Room).slots) := by
  refine MetFree.of_bodySF (plainFor_of_name pn_3) hisR ?_
  intro p e s m args below meth c s₁ Bd hml0 hP hK
  obtain ⟨rfl, hZ, hh⟩ := hP
  have hx := Bd.exec
  have hby := Bd.bytes
  have hml : c.maxLocals = 1 := hml0
  have hown : s.vm.findClass "com/example/rollback_for_flows/rollbackforflows/connector/PoolingProfile" = some m.cls := findClass_of_methodNamed Bd.named
  have hnm := (name_of_methodNamed Bd.named Bd.method).1
  have hlk : meth.locks = false := BodyLoose.notSynchronized Bd
  have X0 : Stand p l e ({ frames := 0, cells := 0, slots := 0, locals := 0 } : Room) s m #[(.ref a1)] below meth c s₁ [] 0 0 := Stand.of_body Bd
  have e0 : s₁.heap = h0 := by rw [← hh, Bd.state]; rfl
  have N0 := Fr.nil n0
  suffices hgo : Go p e below s (Q14 Z a1 j3 h0 n0) ({ frames := 0, cells := 0, slots := 0, locals := 0 } : Room).cells ({ frames := 0, cells := 0, slots := 0, locals := 0 } : Room).slots s₁ (mkF m 0 #[.val (.ref a1)] []) by
    obtain ⟨s₂, o, k1, k2⟩ := hgo
    exact ⟨s₂, o, castTop (ef_14 m a1) k1, k2⟩
  refine Go.st (T' := s₁) (g' := (mkF m 1 #[.val (.ref a1)] [(.ref a1)])) (fun t_ k_ => XS.aloadN X0.here hx rfl (hb hby d14_0) rfl rfl k_) ?_
  obtain ⟨T1, X1, e1, st1⟩ := getF X0 hx hZ hown (host := "") (Or.inl (hw _ (List.mem_of_getElem? (i := 61) rfl))) Via.refl e0 F_maxWaitMillis (g := (mkF m 1 #[.val (.ref a1)] [(.ref a1)])) rfl rfl (hb hby d14_1)
  refine Go.st (T' := T1) (g' := (mkF m 4 #[.val (.ref a1)] [(.long j3)])) st1 ?_
  refine Go.retJ X1 hx Bd.returns hlk (hb hby d14_4) (by decide) (by decide) ?_
  rw [e1]
  exact ⟨rfl, N0, rfl⟩
theorem d15_0 : decode prog_31_method_18_code 0 = .ok (.aload_n 0, 1) := by decide +kernel
theorem d15_1 : decode prog_31_method_18_code 1 = .ok (.getfield 47, 3) := by decide +kernel
theorem d15_4 : decode prog_31_method_18_code 4 = .ok (.areturn, 1) := by decide +kernel
theorem ef_15 (m : MethodId) (a1 : Addr) : entryFrame m #[(.ref a1)] 1 = mkF m 0 #[.val (.ref a1)] [] := by first | (simp [entryFrame, mkF, argsToLocals, Value.category]; done) | rfl
def Q15 (Z : State) (a1 : Addr) (r5 : Addr) (h0 : Heap) (n0 : Nat) (v : Option Value) (h : Heap) (L : List Loc) : Prop := v = some (.ref r5) ∧ Fr n0 L ∧ h = h0
set_option maxRecDepth 65536 in
set_option maxHeartbeats 40000000 in
theorem rm15 (l : Launch) (Z : State) (a0 : Array Value) (hw : ∀ d ∈ tables_1, d.before a0 Z = true) (ws : List Jvm.Cond) (a1 : Addr) (r5 : Addr) (h0 : Heap) (n0 : Nat) (Z0 : n0 ≤ h0.size) (F_initialisationPolicy : Fld Z h0 a1 "com/example/rollback_for_flows/rollbackforflows/connector/PoolingProfile" "initialisationPolicy" "Lcom/example/rollback_for_flows/rollbackforflows/connector/PoolingProfile$InitialisationPolicy;" (.ref r5)) :
    MetFree l (⟨"com/example/rollback_for_flows/rollbackforflows/connector/PoolingProfile", "initialisationPolicy", "()Lcom/example/rollback_for_flows/rollbackforflows/connector/PoolingProfile$InitialisationPolicy;"⟩ : MethodName) (head1 (Jvm.Cond.code (⟨"com/example/rollback_for_flows/rollbackforflows/connector/PoolingProfile", "initialisationPolicy", "()Lcom/example/rollback_for_flows/rollbackforflows/connector/PoolingProfile$InitialisationPolicy;"⟩ : MethodName) prog_31_method_18_code 1 (some (.object "com/example/rollback_for_flows/rollbackforflows/connector/PoolingProfile$InitialisationPolicy")) :: ws) ({ frames := 0, cells := 0, slots := 0, locals := 0 } : Room)) (fun a U => a = #[(.ref a1)] ∧ Z.Warmed39 U.vm ∧ U.heap = h0) (fun _ _ _ _ _ => True) (fun _ U o U' => ∃ v L, o = .returned v ∧ Q15 Z a1 r5 h0 n0 v U'.heap L ∧ FrameEnd U o U' L ({ frames := 0, cells := 0, slots := 0, locals := 0 } : Room).cells ({ frames := 0, cells := 0, slots := 0, locals := 0 } : Room).slots) := by
  refine MetFree.of_bodySF (plainFor_of_name pn_3) hisR ?_
  intro p e s m args below meth c s₁ Bd hml0 hP hK
  obtain ⟨rfl, hZ, hh⟩ := hP
  have hx := Bd.exec
  have hby := Bd.bytes
  have hml : c.maxLocals = 1 := hml0
  have hown : s.vm.findClass "com/example/rollback_for_flows/rollbackforflows/connector/PoolingProfile" = some m.cls := findClass_of_methodNamed Bd.named
  have hnm := (name_of_methodNamed Bd.named Bd.method).1
  have hlk : meth.locks = false := BodyLoose.notSynchronized Bd
  have X0 : Stand p l e ({ frames := 0, cells := 0, slots := 0, locals := 0 } : Room) s m #[(.ref a1)] below meth c s₁ [] 0 0 := Stand.of_body Bd
  have e0 : s₁.heap = h0 := by rw [← hh, Bd.state]; rfl
  have N0 := Fr.nil n0
  suffices hgo : Go p e below s (Q15 Z a1 r5 h0 n0) ({ frames := 0, cells := 0, slots := 0, locals := 0 } : Room).cells ({ frames := 0, cells := 0, slots := 0, locals := 0 } : Room).slots s₁ (mkF m 0 #[.val (.ref a1)] []) by
    obtain ⟨s₂, o, k1, k2⟩ := hgo
    exact ⟨s₂, o, castTop (ef_15 m a1) k1, k2⟩
  refine Go.st (T' := s₁) (g' := (mkF m 1 #[.val (.ref a1)] [(.ref a1)])) (fun t_ k_ => XS.aloadN X0.here hx rfl (hb hby d15_0) rfl rfl k_) ?_
  obtain ⟨T1, X1, e1, st1⟩ := getF X0 hx hZ hown (host := "") (Or.inl (hw _ (List.mem_of_getElem? (i := 65) rfl))) Via.refl e0 F_initialisationPolicy (g := (mkF m 1 #[.val (.ref a1)] [(.ref a1)])) rfl rfl (hb hby d15_1)
  refine Go.st (T' := T1) (g' := (mkF m 4 #[.val (.ref a1)] [(.ref r5)])) st1 ?_
  refine Go.retA X1 hx Bd.returns hlk rfl rfl rfl (hb hby d15_4) (by decide) (by decide) ?_
  rw [e1]
  exact ⟨rfl, N0, rfl⟩
theorem d16_0 : decode prog_31_method_19_code 0 = .ok (.aload_n 0, 1) := by decide +kernel
theorem d16_1 : decode prog_31_method_19_code 1 = .ok (.getfield 50, 3) := by decide +kernel
theorem d16_4 : decode prog_31_method_19_code 4 = .ok (.ireturn, 1) := by decide +kernel
theorem ef_16 (m : MethodId) (a1 : Addr) : entryFrame m #[(.ref a1)] 1 = mkF m 0 #[.val (.ref a1)] [] := by first | (simp [entryFrame, mkF, argsToLocals, Value.category]; done) | rfl
def Q16 (Z : State) (a1 : Addr) (z6 : Int32) (h0 : Heap) (n0 : Nat) (v : Option Value) (h : Heap) (L : List Loc) : Prop := v = some (.int z6) ∧ Fr n0 L ∧ h = h0
set_option maxRecDepth 65536 in
set_option maxHeartbeats 40000000 in
theorem rm16 (l : Launch) (Z : State) (a0 : Array Value) (hw : ∀ d ∈ tables_1, d.before a0 Z = true) (ws : List Jvm.Cond) (a1 : Addr) (z6 : Int32) (h0 : Heap) (n0 : Nat) (Z0 : n0 ≤ h0.size) (F_evicts : Fld Z h0 a1 "com/example/rollback_for_flows/rollbackforflows/connector/PoolingProfile" "evicts" "Z" (.int z6)) (hz : nar .boolean z6 = z6) :
    MetFree l (⟨"com/example/rollback_for_flows/rollbackforflows/connector/PoolingProfile", "evicts", "()Z"⟩ : MethodName) (head1 (Jvm.Cond.code (⟨"com/example/rollback_for_flows/rollbackforflows/connector/PoolingProfile", "evicts", "()Z"⟩ : MethodName) prog_31_method_19_code 1 (some .boolean) :: ws) ({ frames := 0, cells := 0, slots := 0, locals := 0 } : Room)) (fun a U => a = #[(.ref a1)] ∧ Z.Warmed39 U.vm ∧ U.heap = h0) (fun _ _ _ _ _ => True) (fun _ U o U' => ∃ v L, o = .returned v ∧ Q16 Z a1 z6 h0 n0 v U'.heap L ∧ FrameEnd U o U' L ({ frames := 0, cells := 0, slots := 0, locals := 0 } : Room).cells ({ frames := 0, cells := 0, slots := 0, locals := 0 } : Room).slots) := by
  refine MetFree.of_bodySF (plainFor_of_name pn_3) hisR ?_
  intro p e s m args below meth c s₁ Bd hml0 hP hK
  obtain ⟨rfl, hZ, hh⟩ := hP
  have hx := Bd.exec
  have hby := Bd.bytes
  have hml : c.maxLocals = 1 := hml0
  have hown : s.vm.findClass "com/example/rollback_for_flows/rollbackforflows/connector/PoolingProfile" = some m.cls := findClass_of_methodNamed Bd.named
  have hnm := (name_of_methodNamed Bd.named Bd.method).1
  have hlk : meth.locks = false := BodyLoose.notSynchronized Bd
  have X0 : Stand p l e ({ frames := 0, cells := 0, slots := 0, locals := 0 } : Room) s m #[(.ref a1)] below meth c s₁ [] 0 0 := Stand.of_body Bd
  have e0 : s₁.heap = h0 := by rw [← hh, Bd.state]; rfl
  have N0 := Fr.nil n0
  suffices hgo : Go p e below s (Q16 Z a1 z6 h0 n0) ({ frames := 0, cells := 0, slots := 0, locals := 0 } : Room).cells ({ frames := 0, cells := 0, slots := 0, locals := 0 } : Room).slots s₁ (mkF m 0 #[.val (.ref a1)] []) by
    obtain ⟨s₂, o, k1, k2⟩ := hgo
    exact ⟨s₂, o, castTop (ef_16 m a1) k1, k2⟩
  refine Go.st (T' := s₁) (g' := (mkF m 1 #[.val (.ref a1)] [(.ref a1)])) (fun t_ k_ => XS.aloadN X0.here hx rfl (hb hby d16_0) rfl rfl k_) ?_
  obtain ⟨T1, X1, e1, st1⟩ := getF X0 hx hZ hown (host := "") (Or.inl (hw _ (List.mem_of_getElem? (i := 67) rfl))) Via.refl e0 F_evicts (g := (mkF m 1 #[.val (.ref a1)] [(.ref a1)])) rfl rfl (hb hby d16_1)
  refine Go.st (T' := T1) (g' := (mkF m 4 #[.val (.ref a1)] [(.int z6)])) st1 ?_
  refine Go.retB X1 hx Bd.returns hlk (t := .boolean) (by simp) (hb hby d16_4) (by decide) (by decide) ?_
  rw [e1]
  exact ⟨congrArg (fun q => some (Value.int q)) hz, N0, rfl⟩
theorem d17_0 : decode prog_31_method_20_code 0 = .ok (.aload_n 0, 1) := by decide +kernel
theorem d17_1 : decode prog_31_method_20_code 1 = .ok (.getfield 54, 3) := by decide +kernel
theorem d17_4 : decode prog_31_method_20_code 4 = .ok (.lreturn, 1) := by decide +kernel
theorem ef_17 (m : MethodId) (a1 : Addr) : entryFrame m #[(.ref a1)] 1 = mkF m 0 #[.val (.ref a1)] [] := by first | (simp [entryFrame, mkF, argsToLocals, Value.category]; done) | rfl
def Q17 (Z : State) (a1 : Addr) (j7 : Int64) (h0 : Heap) (n0 : Nat) (v : Option Value) (h : Heap) (L : List Loc) : Prop := v = some (.long j7) ∧ Fr n0 L ∧ h = h0
set_option maxRecDepth 65536 in
set_option maxHeartbeats 40000000 in
theorem rm17 (l : Launch) (Z : State) (a0 : Array Value) (hw : ∀ d ∈ tables_1, d.before a0 Z = true) (ws : List Jvm.Cond) (a1 : Addr) (j7 : Int64) (h0 : Heap) (n0 : Nat) (Z0 : n0 ≤ h0.size) (F_minEvictionMillis : Fld Z h0 a1 "com/example/rollback_for_flows/rollbackforflows/connector/PoolingProfile" "minEvictionMillis" "J" (.long j7)) :
    MetFree l (⟨"com/example/rollback_for_flows/rollbackforflows/connector/PoolingProfile", "minEvictionMillis", "()J"⟩ : MethodName) (head1 (Jvm.Cond.code (⟨"com/example/rollback_for_flows/rollbackforflows/connector/PoolingProfile", "minEvictionMillis", "()J"⟩ : MethodName) prog_31_method_20_code 1 (some .long) :: ws) ({ frames := 0, cells := 0, slots := 0, locals := 0 } : Room)) (fun a U => a = #[(.ref a1)] ∧ Z.Warmed39 U.vm ∧ U.heap = h0) (fun _ _ _ _ _ => True) (fun _ U o U' => ∃ v L, o = .returned v ∧ Q17 Z a1 j7 h0 n0 v U'.heap L ∧ FrameEnd U o U' L ({ frames := 0, cells := 0, slots := 0, locals := 0 } : Room).cells ({ frames := 0, cells := 0, slots := 0, locals := 0 } : Room).slots) := by
  refine MetFree.of_bodySF (plainFor_of_name pn_3) hisR ?_
  intro p e s m args below meth c s₁ Bd hml0 hP hK
  obtain ⟨rfl, hZ, hh⟩ := hP
  have hx := Bd.exec
  have hby := Bd.bytes
  have hml : c.maxLocals = 1 := hml0
  have hown : s.vm.findClass "com/example/rollback_for_flows/rollbackforflows/connector/PoolingProfile" = some m.cls := findClass_of_methodNamed Bd.named
  have hnm := (name_of_methodNamed Bd.named Bd.method).1
  have hlk : meth.locks = false := BodyLoose.notSynchronized Bd
  have X0 : Stand p l e ({ frames := 0, cells := 0, slots := 0, locals := 0 } : Room) s m #[(.ref a1)] below meth c s₁ [] 0 0 := Stand.of_body Bd
  have e0 : s₁.heap = h0 := by rw [← hh, Bd.state]; rfl
  have N0 := Fr.nil n0
  suffices hgo : Go p e below s (Q17 Z a1 j7 h0 n0) ({ frames := 0, cells := 0, slots := 0, locals := 0 } : Room).cells ({ frames := 0, cells := 0, slots := 0, locals := 0 } : Room).slots s₁ (mkF m 0 #[.val (.ref a1)] []) by
    obtain ⟨s₂, o, k1, k2⟩ := hgo
    exact ⟨s₂, o, castTop (ef_17 m a1) k1, k2⟩
  refine Go.st (T' := s₁) (g' := (mkF m 1 #[.val (.ref a1)] [(.ref a1)])) (fun t_ k_ => XS.aloadN X0.here hx rfl (hb hby d17_0) rfl rfl k_) ?_
  obtain ⟨T1, X1, e1, st1⟩ := getF X0 hx hZ hown (host := "") (Or.inl (hw _ (List.mem_of_getElem? (i := 69) rfl))) Via.refl e0 F_minEvictionMillis (g := (mkF m 1 #[.val (.ref a1)] [(.ref a1)])) rfl rfl (hb hby d17_1)
  refine Go.st (T' := T1) (g' := (mkF m 4 #[.val (.ref a1)] [(.long j7)])) st1 ?_
  refine Go.retJ X1 hx Bd.returns hlk (hb hby d17_4) (by decide) (by decide) ?_
  rw [e1]
  exact ⟨rfl, N0, rfl⟩
theorem d18_0 : decode prog_31_method_21_code 0 = .ok (.aload_n 0, 1) := by decide +kernel
theorem d18_1 : decode prog_31_method_21_code 1 = .ok (.getfield 57, 3) := by decide +kernel
theorem d18_4 : decode prog_31_method_21_code 4 = .ok (.lreturn, 1) := by decide +kernel
theorem ef_18 (m : MethodId) (a1 : Addr) : entryFrame m #[(.ref a1)] 1 = mkF m 0 #[.val (.ref a1)] [] := by first | (simp [entryFrame, mkF, argsToLocals, Value.category]; done) | rfl
def Q18 (Z : State) (a1 : Addr) (j8 : Int64) (h0 : Heap) (n0 : Nat) (v : Option Value) (h : Heap) (L : List Loc) : Prop := v = some (.long j8) ∧ Fr n0 L ∧ h = h0
set_option maxRecDepth 65536 in
set_option maxHeartbeats 40000000 in
theorem rm18 (l : Launch) (Z : State) (a0 : Array Value) (hw : ∀ d ∈ tables_1, d.before a0 Z = true) (ws : List Jvm.Cond) (a1 : Addr) (j8 : Int64) (h0 : Heap) (n0 : Nat) (Z0 : n0 ≤ h0.size) (F_evictionCheckIntervalMillis : Fld Z h0 a1 "com/example/rollback_for_flows/rollbackforflows/connector/PoolingProfile" "evictionCheckIntervalMillis" "J" (.long j8)) :
    MetFree l (⟨"com/example/rollback_for_flows/rollbackforflows/connector/PoolingProfile", "evictionCheckIntervalMillis", "()J"⟩ : MethodName) (head1 (Jvm.Cond.code (⟨"com/example/rollback_for_flows/rollbackforflows/connector/PoolingProfile", "evictionCheckIntervalMillis", "()J"⟩ : MethodName) prog_31_method_21_code 1 (some .long) :: ws) ({ frames := 0, cells := 0, slots := 0, locals := 0 } : Room)) (fun a U => a = #[(.ref a1)] ∧ Z.Warmed39 U.vm ∧ U.heap = h0) (fun _ _ _ _ _ => True) (fun _ U o U' => ∃ v L, o = .returned v ∧ Q18 Z a1 j8 h0 n0 v U'.heap L ∧ FrameEnd U o U' L ({ frames := 0, cells := 0, slots := 0, locals := 0 } : Room).cells ({ frames := 0, cells := 0, slots := 0, locals := 0 } : Room).slots) := by
  refine MetFree.of_bodySF (plainFor_of_name pn_3) hisR ?_
  intro p e s m args below meth c s₁ Bd hml0 hP hK
  obtain ⟨rfl, hZ, hh⟩ := hP
  have hx := Bd.exec
  have hby := Bd.bytes
  have hml : c.maxLocals = 1 := hml0
  have hown : s.vm.findClass "com/example/rollback_for_flows/rollbackforflows/connector/PoolingProfile" = some m.cls := findClass_of_methodNamed Bd.named
  have hnm := (name_of_methodNamed Bd.named Bd.method).1
  have hlk : meth.locks = false := BodyLoose.notSynchronized Bd
  have X0 : Stand p l e ({ frames := 0, cells := 0, slots := 0, locals := 0 } : Room) s m #[(.ref a1)] below meth c s₁ [] 0 0 := Stand.of_body Bd
  have e0 : s₁.heap = h0 := by rw [← hh, Bd.state]; rfl
  have N0 := Fr.nil n0
  suffices hgo : Go p e below s (Q18 Z a1 j8 h0 n0) ({ frames := 0, cells := 0, slots := 0, locals := 0 } : Room).cells ({ frames := 0, cells := 0, slots := 0, locals := 0 } : Room).slots s₁ (mkF m 0 #[.val (.ref a1)] []) by
    obtain ⟨s₂, o, k1, k2⟩ := hgo
    exact ⟨s₂, o, castTop (ef_18 m a1) k1, k2⟩
  refine Go.st (T' := s₁) (g' := (mkF m 1 #[.val (.ref a1)] [(.ref a1)])) (fun t_ k_ => XS.aloadN X0.here hx rfl (hb hby d18_0) rfl rfl k_) ?_
  obtain ⟨T1, X1, e1, st1⟩ := getF X0 hx hZ hown (host := "") (Or.inl (hw _ (List.mem_of_getElem? (i := 71) rfl))) Via.refl e0 F_evictionCheckIntervalMillis (g := (mkF m 1 #[.val (.ref a1)] [(.ref a1)])) rfl rfl (hb hby d18_1)
  refine Go.st (T' := T1) (g' := (mkF m 4 #[.val (.ref a1)] [(.long j8)])) st1 ?_
  refine Go.retJ X1 hx Bd.returns hlk (hb hby d18_4) (by decide) (by decide) ?_
  rw [e1]
  exact ⟨rfl, N0, rfl⟩
theorem pd_4 : parseMethodDescriptor "(II)I" = some ⟨[.int, .int], some .int⟩ := by decide +kernel
theorem pd_5 : parseMethodDescriptor "(I)Lcom/example/rollback_for_flows/rollbackforflows/connector/PoolingProfile$ExhaustedAction;" = some ⟨[.int], some (.object "com/example/rollback_for_flows/rollbackforflows/connector/PoolingProfile$ExhaustedAction")⟩ := by decide +kernel
theorem pd_6 : parseMethodDescriptor "(I)Lcom/example/rollback_for_flows/rollbackforflows/connector/PoolingProfile$InitialisationPolicy;" = some ⟨[.int], some (.object "com/example/rollback_for_flows/rollbackforflows/connector/PoolingProfile$InitialisationPolicy")⟩ := by decide +kernel
theorem pd_7 : parseMethodDescriptor "(JJ)J" = some ⟨[.long, .long], some .long⟩ := by decide +kernel
theorem pd_8 : parseMethodDescriptor "(Lcom/example/rollback_for_flows/rollbackforflows/connector/PoolingProfile$ExhaustedAction;)Lcom/example/rollback_for_flows/rollbackforflows/connector/PoolingProfile;" = some ⟨[(.object "com/example/rollback_for_flows/rollbackforflows/connector/PoolingProfile$ExhaustedAction")], some (.object "com/example/rollback_for_flows/rollbackforflows/connector/PoolingProfile")⟩ := by decide +kernel
theorem pd_9 : parseMethodDescriptor "()Lcom/example/rollback_for_flows/rollbackforflows/connector/PoolingProfile$ExhaustedAction;" = some ⟨[], some (.object "com/example/rollback_for_flows/rollbackforflows/connector/PoolingProfile$ExhaustedAction")⟩ := by decide +kernel
theorem pd_10 : parseMethodDescriptor "()I" = some ⟨[], some .int⟩ := by decide +kernel
theorem pd_11 : parseMethodDescriptor "()J" = some ⟨[], some .long⟩ := by decide +kernel
theorem pd_12 : parseMethodDescriptor "()Lcom/example/rollback_for_flows/rollbackforflows/connector/PoolingProfile$InitialisationPolicy;" = some ⟨[], some (.object "com/example/rollback_for_flows/rollbackforflows/connector/PoolingProfile$InitialisationPolicy")⟩ := by decide +kernel
theorem pd_13 : parseMethodDescriptor "()Z" = some ⟨[], some .boolean⟩ := by decide +kernel
theorem ef_0 (m : MethodId) (p1 : Int32) (p2 : Int32) (p3 : Int64) (p4 : Int32) (p5 : Int64) (p6 : Int64) : entryFrame m #[(.int p1), (.int p2), (.long p3), (.int p4), (.long p5), (.long p6)] maxLocals = mkF m 0 #[.val (.int p1), .val (.int p2), .val (.long p3), .second, .val (.int p4), .val (.long p5), .second, .val (.long p6), .second, .unset, .unset, .unset, .unset, .unset, .unset, .unset, .unset, .unset, .unset, .unset, .unset, .unset, .unset] [] := by first | (simp [entryFrame, mkF, argsToLocals, Value.category, maxLocals]; done) | rfl
def Q0 (Z : State) (p1 : Int32) (p2 : Int32) (p3 : Int64) (p4 : Int32) (p5 : Int64) (p6 : Int64) (w0 : Addr) (w1 : Addr) (w2 : Addr) (u0 : Addr) (u1 : Addr) (u2 : Addr) (h0 : Heap) (n0 : Nat) (v : Option Value) (h : Heap) (L : List Loc) : Prop := v = some (.int 1) ∧ Fr n0 L
set_option maxRecDepth 65536 in
set_option maxHeartbeats 40000000 in
theorem rm0 (l : Launch) (Z : State) (a0 : Array Value) (hw : ∀ d ∈ tables_1, d.before a0 Z = true) (ws : List Jvm.Cond) (p1 : Int32) (p2 : Int32) (p3 : Int64) (p4 : Int32) (p5 : Int64) (p6 : Int64) (w0 : Addr) (w1 : Addr) (w2 : Addr) (u0 : Addr) (u1 : Addr) (u2 : Addr) (h0 : Heap) (n0 : Nat) (Z0 : n0 ≤ h0.size) (S_w0 : Sta Z h0 "com/example/rollback_for_flows/rollbackforflows/connector/PoolingProfile$ExhaustedAction" "WAIT" "Lcom/example/rollback_for_flows/rollbackforflows/connector/PoolingProfile$ExhaustedAction;" (.ref w0)) (S_w1 : Sta Z h0 "com/example/rollback_for_flows/rollbackforflows/connector/PoolingProfile$ExhaustedAction" "FAIL" "Lcom/example/rollback_for_flows/rollbackforflows/connector/PoolingProfile$ExhaustedAction;" (.ref w1)) (S_w2 : Sta Z h0 "com/example/rollback_for_flows/rollbackforflows/connector/PoolingProfile$ExhaustedAction" "GROW" "Lcom/example/rollback_for_flows/rollbackforflows/connector/PoolingProfile$ExhaustedAction;" (.ref w2)) (S_u0 : Sta Z h0 "com/example/rollback_for_flows/rollbackforflows/connector/PoolingProfile$InitialisationPolicy" "NONE" "Lcom/example/rollback_for_flows/rollbackforflows/connector/PoolingProfile$InitialisationPolicy;" (.ref u0)) (S_u1 : Sta Z h0 "com/example/rollback_for_flows/rollbackforflows/connector/PoolingProfile$InitialisationPolicy" "ONE" "Lcom/example/rollback_for_flows/rollbackforflows/connector/PoolingProfile$InitialisationPolicy;" (.ref u1)) (S_u2 : Sta Z h0 "com/example/rollback_for_flows/rollbackforflows/connector/PoolingProfile$InitialisationPolicy" "ALL" "Lcom/example/rollback_for_flows/rollbackforflows/connector/PoolingProfile$InitialisationPolicy;" (.ref u2)) :
    MetFree l x (head1 (Jvm.Cond.code x code maxLocals ret :: ws) room_1) (fun a U => a = #[(.int p1), (.int p2), (.long p3), (.int p4), (.long p5), (.long p6)] ∧ Z.Warmed39 U.vm ∧ U.heap = h0) (fun _ _ _ _ _ => True) (fun _ U o U' => ∃ v L, o = .returned v ∧ Q0 Z p1 p2 p3 p4 p5 p6 w0 w1 w2 u0 u1 u2 h0 n0 v U'.heap L ∧ ReturnedEndW U o U' L room_1.cells room_1.slots) := by
  refine MetFree.of_bodySF (plainFor_of_name pn_0) hisR ?_
  intro p e s m args below meth c s₁ Bd hml0 hP hK
  obtain ⟨rfl, hZ, hh⟩ := hP
  have hx := Bd.exec
  have hby := Bd.bytes
  have hml : c.maxLocals = 23 := hml0
  have hown : s.vm.findClass "com/example/rollback_for_flows/rollbackforflows/connector/PoolingProfileWithExhaustedActionPinLaw" = some m.cls := findClass_of_methodNamed Bd.named
  have hnm := (name_of_methodNamed Bd.named Bd.method).1
  have hlk : meth.locks = false := BodyLoose.notSynchronized Bd
  have X0 : Stand p l e room_1 (s.setVm s.vm) m #[(.int p1), (.int p2), (.long p3), (.int p4), (.long p5), (.long p6)] below meth c s₁ [] 0 0 := Stand.of_body Bd
  have e0 : s₁.heap = h0 := by rw [← hh, Bd.state]; rfl
  have N0 := Fr.nil n0
  suffices hgo : GoW p e below s (Q0 Z p1 p2 p3 p4 p5 p6 w0 w1 w2 u0 u1 u2 h0 n0) room_1.cells room_1.slots s₁ (mkF m 0 #[.val (.int p1), .val (.int p2), .val (.long p3), .second, .val (.int p4), .val (.long p5), .second, .val (.long p6), .second, .unset, .unset, .unset, .unset, .unset, .unset, .unset, .unset, .unset, .unset, .unset, .unset, .unset, .unset] []) by
    obtain ⟨s₂, o, k1, k2⟩ := hgo
    exact ⟨s₂, o, castTop (ef_0 m p1 p2 p3 p4 p5 p6) k1, k2⟩
  have hS0 : s.Since s.vm h0.size := State.WarmedH.since (State.WarmedH.refl s) _
  have hk0 : h0.size ≤ h0.size := Nat.le_refl _
  have hZ : Z.Warmed39 (s.setVm s.vm).vm := hZ
  have hown : (s.setVm s.vm).vm.findClass "com/example/rollback_for_flows/rollbackforflows/connector/PoolingProfileWithExhaustedActionPinLaw" = some m.cls := hown
  refine GoW.st (T' := s₁) (g' := (mkF m 1 #[.val (.int p1), .val (.int p2), .val (.long p3), .second, .val (.int p4), .val (.long p5), .second, .val (.long p6), .second, .unset, .unset, .unset, .unset, .unset, .unset, .unset, .unset, .unset, .unset, .unset, .unset, .unset, .unset] [(.int (1 : Int32))])) (fun t_ k_ => XS.iconst X0.here hx rfl (hb hby at_0) k_) ?_
  refine GoW.st (T' := s₁) (g' := (mkF m 2 #[.val (.int p1), .val (.int p2), .val (.long p3), .second, .val (.int p4), .val (.long p5), .second, .val (.long p6), .second, .unset, .unset, .unset, .unset, .unset, .unset, .unset, .unset, .unset, .unset, .unset, .unset, .unset, .unset] [(.int p1), (.int (1 : Int32))])) (fun t_ k_ => XS.iloadN X0.here hx rfl (hb hby at_1) rfl  k_) ?_
  refine GoW.st (T' := s₁) (g' := (mkF m 4 #[.val (.int p1), .val (.int p2), .val (.long p3), .second, .val (.int p4), .val (.long p5), .second, .val (.long p6), .second, .unset, .unset, .unset, .unset, .unset, .unset, .unset, .unset, .unset, .unset, .unset, .unset, .unset, .unset] [(.int (2147483647 : Int32)), (.int p1), (.int (1 : Int32))])) (fun t_ k_ => X0.ldcI hx hown (mvT hZ (hw _ (List.mem_of_getElem? (i := 0) rfl))) rfl (hb hby at_2) k_) ?_
  refine GoW.st (T' := s₁) (g' := (mkF m 5 #[.val (.int p1), .val (.int p2), .val (.long p3), .second, .val (.int p4), .val (.long p5), .second, .val (.long p6), .second, .unset, .unset, .unset, .unset, .unset, .unset, .unset, .unset, .unset, .unset, .unset, .unset, .unset, .unset] [(.int (p1 &&& (2147483647 : Int32))), (.int (1 : Int32))])) (fun t_ k_ => XS.iand X0.here hx rfl (hb hby at_4) rfl k_) ?_
  obtain ⟨mA, hmA⟩ : ∃ z, z = if (1 : Int32) < (p1 &&& (2147483647 : Int32)) then (p1 &&& (2147483647 : Int32)) else (1 : Int32) := ⟨_, rfl⟩
  obtain ⟨_, _, ⟨T1, L1, k1, n1⟩, -, X1, ⟨Lc1, hQ1, l1, y1, z1⟩, st1⟩ := Jvm.LawKit.callS X0 hx (y := (⟨"java/lang/Math", "max", "(II)I"⟩ : MethodName)) hown (mvT hZ (hw _ (List.mem_of_getElem? (i := 1) rfl))) (mvT hZ (hw _ (List.mem_of_getElem? (i := 2) rfl))) (mvT hZ (hw _ (List.mem_of_getElem? (i := 3) rfl))) (mvT hZ (hw _ (List.mem_of_getElem? (i := 4) rfl))) (by decide) (backOf (W := 0) (rm1 l Z a0 hw [] (1 : Int32) (p1 &&& (2147483647 : Int32)) mA h0 n0 Z0 hmA) hZ (hw _ (List.mem_of_getElem? (i := 4) rfl)) (hw _ (List.mem_of_getElem? (i := 3) rfl)) (by decide) (by decide)) (g := (mkF m 5 #[.val (.int p1), .val (.int p2), .val (.long p3), .second, .val (.int p4), .val (.long p5), .second, .val (.long p6), .second, .unset, .unset, .unset, .unset, .unset, .unset, .unset, .unset, .unset, .unset, .unset, .unset, .unset, .unset] [(.int (p1 &&& (2147483647 : Int32))), (.int (1 : Int32))])) rfl (by rw [hml]; rfl) (argsL := [(.int (1 : Int32)), (.int (p1 &&& (2147483647 : Int32)))]) (rest := []) (lenOf pd_4 rfl) rfl (by show 2 * 0 + _ ≤ _; exact Nat.le_of_eq rfl) (hb hby at_5) (fun _ _ => ⟨rfl, e0, (by decide : 0 + 0 ≤ _), (by decide : 0 + 0 ≤ _)⟩)
  dsimp only [Pt.U, Pt.locs, Pt.cells, Pt.slots] at X1 l1 y1 z1 st1 hQ1
  subst l1 y1 z1
  obtain ⟨rfl, Nq1, e1⟩ := hQ1
  have N1 := Fr.app N0 Nq1
  refine GoW.st (T' := T1) (g' := (mkF m 8 #[.val (.int p1), .val (.int p2), .val (.long p3), .second, .val (.int p4), .val (.long p5), .second, .val (.long p6), .second, .unset, .unset, .unset, .unset, .unset, .unset, .unset, .unset, .unset, .unset, .unset, .unset, .unset, .unset] [(.int mA)])) st1 ?_
  refine GoW.st (T' := T1) (g' := (mkF m 10 #[.val (.int p1), .val (.int p2), .val (.long p3), .second, .val (.int p4), .val (.long p5), .second, .val (.long p6), .second, .val (.int mA), .unset, .unset, .unset, .unset, .unset, .unset, .unset, .unset, .unset, .unset, .unset, .unset, .unset] [])) (fun t_ k_ => XS.istore X1.here hx rfl (hb hby at_8) rfl (l' := #[.val (.int p1), .val (.int p2), .val (.long p3), .second, .val (.int p4), .val (.long p5), .second, .val (.long p6), .second, .val (.int mA), .unset, .unset, .unset, .unset, .unset, .unset, .unset, .unset, .unset, .unset, .unset, .unset, .unset]) rfl k_) ?_
  suffices J14 : ∀ mi : Int32, ¬ ((mi.toInt64) < (0 : Int64)) → GoW p e below s (Q0 Z p1 p2 p3 p4 p5 p6 w0 w1 w2 u0 u1 u2 h0 n0) room_1.cells room_1.slots T1 (mkF m 14 #[.val (.int p1), .val (.int p2), .val (.long p3), .second, .val (.int p4), .val (.long p5), .second, .val (.long p6), .second, .val (.int mA), .unset, .unset, .unset, .unset, .unset, .unset, .unset, .unset, .unset, .unset, .unset, .unset, .unset] [(.int mi)]) by
    refine GoW.st (T' := T1) (g' := (mkF m 11 #[.val (.int p1), .val (.int p2), .val (.long p3), .second, .val (.int p4), .val (.long p5), .second, .val (.long p6), .second, .val (.int mA), .unset, .unset, .unset, .unset, .unset, .unset, .unset, .unset, .unset, .unset, .unset, .unset, .unset] [(.int p2)])) (fun t_ k_ => XS.iloadN X1.here hx rfl (hb hby at_10) rfl  k_) ?_
    refine GoW.st (T' := T1) (g' := (mkF m 13 #[.val (.int p1), .val (.int p2), .val (.long p3), .second, .val (.int p4), .val (.long p5), .second, .val (.long p6), .second, .val (.int mA), .unset, .unset, .unset, .unset, .unset, .unset, .unset, .unset, .unset, .unset, .unset, .unset, .unset] [(.int (2147483647 : Int32)), (.int p2)])) (fun t_ k_ => X1.ldcI hx hown (mvT hZ (hw _ (List.mem_of_getElem? (i := 0) rfl))) rfl (hb hby at_11) k_) ?_
    refine GoW.st (T' := T1) (g' := (mkF m 14 #[.val (.int p1), .val (.int p2), .val (.long p3), .second, .val (.int p4), .val (.long p5), .second, .val (.long p6), .second, .val (.int mA), .unset, .unset, .unset, .unset, .unset, .unset, .unset, .unset, .unset, .unset, .unset, .unset, .unset] [(.int (p2 &&& (2147483647 : Int32)))])) (fun t_ k_ => XS.iand X1.here hx rfl (hb hby at_13) rfl k_) ?_
    exact J14 _ own_0I
  intro mi hp2
  refine GoW.st (T' := T1) (g' := (mkF m 16 #[.val (.int p1), .val (.int p2), .val (.long p3), .second, .val (.int p4), .val (.long p5), .second, .val (.long p6), .second, .val (.int mA), .val (.int mi), .unset, .unset, .unset, .unset, .unset, .unset, .unset, .unset, .unset, .unset, .unset, .unset] [])) (fun t_ k_ => XS.istore X1.here hx rfl (hb hby at_14) rfl (l' := #[.val (.int p1), .val (.int p2), .val (.long p3), .second, .val (.int p4), .val (.long p5), .second, .val (.long p6), .second, .val (.int mA), .val (.int mi), .unset, .unset, .unset, .unset, .unset, .unset, .unset, .unset, .unset, .unset, .unset, .unset]) rfl k_) ?_
  suffices J21 : ∀ mw : Int64, ¬ (mw < (0 : Int64)) → GoW p e below s (Q0 Z p1 p2 p3 p4 p5 p6 w0 w1 w2 u0 u1 u2 h0 n0) room_1.cells room_1.slots T1 (mkF m 21 #[.val (.int p1), .val (.int p2), .val (.long p3), .second, .val (.int p4), .val (.long p5), .second, .val (.long p6), .second, .val (.int mA), .val (.int mi), .unset, .unset, .unset, .unset, .unset, .unset, .unset, .unset, .unset, .unset, .unset, .unset] [(.long mw)]) by
    refine GoW.st (T' := T1) (g' := (mkF m 17 #[.val (.int p1), .val (.int p2), .val (.long p3), .second, .val (.int p4), .val (.long p5), .second, .val (.long p6), .second, .val (.int mA), .val (.int mi), .unset, .unset, .unset, .unset, .unset, .unset, .unset, .unset, .unset, .unset, .unset, .unset] [(.long p3)])) (fun t_ k_ => XS.lloadN X1.here hx rfl (hb hby at_16) rfl  k_) ?_
    refine GoW.st (T' := T1) (g' := (mkF m 20 #[.val (.int p1), .val (.int p2), .val (.long p3), .second, .val (.int p4), .val (.long p5), .second, .val (.long p6), .second, .val (.int mA), .val (.int mi), .unset, .unset, .unset, .unset, .unset, .unset, .unset, .unset, .unset, .unset, .unset, .unset] [(.long (9223372036854775807 : Int64)), (.long p3)])) (fun t_ k_ => X1.ldc2J hx hown (mvT hZ (hw _ (List.mem_of_getElem? (i := 5) rfl))) rfl (hb hby at_17) k_) ?_
    refine GoW.st (T' := T1) (g' := (mkF m 21 #[.val (.int p1), .val (.int p2), .val (.long p3), .second, .val (.int p4), .val (.long p5), .second, .val (.long p6), .second, .val (.int mA), .val (.int mi), .unset, .unset, .unset, .unset, .unset, .unset, .unset, .unset, .unset, .unset, .unset, .unset] [(.long (p3 &&& (9223372036854775807 : Int64)))])) (fun t_ k_ => XS.land X1.here hx rfl (hb hby at_20) rfl k_) ?_
    exact J21 _ own_0J
  intro mw hp3
  refine GoW.st (T' := T1) (g' := (mkF m 23 #[.val (.int p1), .val (.int p2), .val (.long p3), .second, .val (.int p4), .val (.long p5), .second, .val (.long p6), .second, .val (.int mA), .val (.int mi), .val (.long mw), .second, .unset, .unset, .unset, .unset, .unset, .unset, .unset, .unset, .unset, .unset] [])) (fun t_ k_ => XS.lstore X1.here hx rfl (hb hby at_21) rfl (l' := #[.val (.int p1), .val (.int p2), .val (.long p3), .second, .val (.int p4), .val (.long p5), .second, .val (.long p6), .second, .val (.int mA), .val (.int mi), .val (.long mw), .second, .unset, .unset, .unset, .unset, .unset, .unset, .unset, .unset, .unset, .unset]) rfl k_) ?_
  refine GoW.st (T' := T1) (g' := (mkF m 25 #[.val (.int p1), .val (.int p2), .val (.long p3), .second, .val (.int p4), .val (.long p5), .second, .val (.long p6), .second, .val (.int mA), .val (.int mi), .val (.long mw), .second, .unset, .unset, .unset, .unset, .unset, .unset, .unset, .unset, .unset, .unset] [(.int p4)])) (fun t_ k_ => XS.iload X1.here hx rfl (hb hby at_23) rfl  k_) ?_
  refine GoW.st (T' := T1) (g' := (mkF m 28 #[.val (.int p1), .val (.int p2), .val (.long p3), .second, .val (.int p4), .val (.long p5), .second, .val (.long p6), .second, .val (.int mA), .val (.int mi), .val (.long mw), .second, .unset, .unset, .unset, .unset, .unset, .unset, .unset, .unset, .unset, .unset] [(.int (255 : Int32)), (.int p4)])) (fun t_ k_ => XS.sipush X1.here hx rfl (hb hby at_25) k_) ?_
  refine GoW.st (T' := T1) (g' := (mkF m 29 #[.val (.int p1), .val (.int p2), .val (.long p3), .second, .val (.int p4), .val (.long p5), .second, .val (.long p6), .second, .val (.int mA), .val (.int mi), .val (.long mw), .second, .unset, .unset, .unset, .unset, .unset, .unset, .unset, .unset, .unset, .unset] [(.int (p4 &&& (255 : Int32)))])) (fun t_ k_ => XS.iand X1.here hx rfl (hb hby at_28) rfl k_) ?_
  refine GoW.st (T' := T1) (g' := (mkF m 30 #[.val (.int p1), .val (.int p2), .val (.long p3), .second, .val (.int p4), .val (.long p5), .second, .val (.long p6), .second, .val (.int mA), .val (.int mi), .val (.long mw), .second, .unset, .unset, .unset, .unset, .unset, .unset, .unset, .unset, .unset, .unset] [(.int (3 : Int32)), (.int (p4 &&& (255 : Int32)))])) (fun t_ k_ => XS.iconst X1.here hx rfl (hb hby at_29) k_) ?_
  refine GoW.st (T' := T1) (g' := (mkF m 31 #[.val (.int p1), .val (.int p2), .val (.long p3), .second, .val (.int p4), .val (.long p5), .second, .val (.long p6), .second, .val (.int mA), .val (.int mi), .val (.long mw), .second, .unset, .unset, .unset, .unset, .unset, .unset, .unset, .unset, .unset, .unset] [(.int ((p4 &&& (255 : Int32)) % (3 : Int32)))])) (fun t_ k_ => iremM X1 hx rfl (hb hby at_30) rfl (by decide) k_) ?_
  obtain ⟨ra, hra⟩ : ∃ z, z = if ((p4 &&& (255 : Int32)) % (3 : Int32)) = (0 : Int32) then w0 else if ((p4 &&& (255 : Int32)) % (3 : Int32)) = (1 : Int32) then w1 else w2 := ⟨_, rfl⟩
  obtain ⟨_, _, ⟨T2, L2, k2, n2⟩, -, X2, ⟨Lc2, hQ2, l2, y2, z2⟩, st2⟩ := Jvm.LawKit.callS X1 hx (y := (⟨"com/example/rollback_for_flows/rollbackforflows/connector/PoolingProfileWithExhaustedActionPinLaw", "action", "(I)Lcom/example/rollback_for_flows/rollbackforflows/connector/PoolingProfile$ExhaustedAction;"⟩ : MethodName)) hown (mvT hZ (hw _ (List.mem_of_getElem? (i := 6) rfl))) (mvT hZ (hw _ (List.mem_of_getElem? (i := 7) rfl))) (mvT hZ (hw _ (List.mem_of_getElem? (i := 8) rfl))) (mvT hZ (hw _ (List.mem_of_getElem? (i := 9) rfl))) (by decide) (backOf (W := 0) (rm2 l Z a0 hw [] ((p4 &&& (255 : Int32)) % (3 : Int32)) w0 w1 w2 ra h0 n0 Z0 S_w0 S_w1 S_w2 hra) hZ (hw _ (List.mem_of_getElem? (i := 9) rfl)) (hw _ (List.mem_of_getElem? (i := 8) rfl)) (by decide) (by decide)) (g := (mkF m 31 #[.val (.int p1), .val (.int p2), .val (.long p3), .second, .val (.int p4), .val (.long p5), .second, .val (.long p6), .second, .val (.int mA), .val (.int mi), .val (.long mw), .second, .unset, .unset, .unset, .unset, .unset, .unset, .unset, .unset, .unset, .unset] [(.int ((p4 &&& (255 : Int32)) % (3 : Int32)))])) rfl (by rw [hml]; rfl) (argsL := [(.int ((p4 &&& (255 : Int32)) % (3 : Int32)))]) (rest := []) (lenOf pd_5 rfl) rfl (by show 2 * 0 + _ ≤ _; exact Nat.le_of_eq rfl) (hb hby at_31) (fun _ _ => ⟨rfl, e1, (by decide : 0 + 0 ≤ _), (by decide : 0 + 0 ≤ _)⟩)
  dsimp only [Pt.U, Pt.locs, Pt.cells, Pt.slots] at X2 l2 y2 z2 st2 hQ2
  subst l2 y2 z2
  obtain ⟨rfl, Nq2, e2⟩ := hQ2
  have N2 := Fr.app N1 Nq2
  refine GoW.st (T' := T2) (g' := (mkF m 34 #[.val (.int p1), .val (.int p2), .val (.long p3), .second, .val (.int p4), .val (.long p5), .second, .val (.long p6), .second, .val (.int mA), .val (.int mi), .val (.long mw), .second, .unset, .unset, .unset, .unset, .unset, .unset, .unset, .unset, .unset, .unset] [(.ref ra)])) st2 ?_
  refine GoW.st (T' := T2) (g' := (mkF m 36 #[.val (.int p1), .val (.int p2), .val (.long p3), .second, .val (.int p4), .val (.long p5), .second, .val (.long p6), .second, .val (.int mA), .val (.int mi), .val (.long mw), .second, .val (.ref ra), .unset, .unset, .unset, .unset, .unset, .unset, .unset, .unset, .unset] [])) (fun t_ k_ => XS.astore X2.here hx rfl (hb hby at_34) rfl rfl (l' := #[.val (.int p1), .val (.int p2), .val (.long p3), .second, .val (.int p4), .val (.long p5), .second, .val (.long p6), .second, .val (.int mA), .val (.int mi), .val (.long mw), .second, .val (.ref ra), .unset, .unset, .unset, .unset, .unset, .unset, .unset, .unset, .unset]) rfl k_) ?_
  refine GoW.st (T' := T2) (g' := (mkF m 38 #[.val (.int p1), .val (.int p2), .val (.long p3), .second, .val (.int p4), .val (.long p5), .second, .val (.long p6), .second, .val (.int mA), .val (.int mi), .val (.long mw), .second, .val (.ref ra), .unset, .unset, .unset, .unset, .unset, .unset, .unset, .unset, .unset] [(.int p4)])) (fun t_ k_ => XS.iload X2.here hx rfl (hb hby at_36) rfl  k_) ?_
  refine GoW.st (T' := T2) (g' := (mkF m 40 #[.val (.int p1), .val (.int p2), .val (.long p3), .second, .val (.int p4), .val (.long p5), .second, .val (.long p6), .second, .val (.int mA), .val (.int mi), .val (.long mw), .second, .val (.ref ra), .unset, .unset, .unset, .unset, .unset, .unset, .unset, .unset, .unset] [(.int (8 : Int32)), (.int p4)])) (fun t_ k_ => XS.bipush X2.here hx rfl (hb hby at_38) k_) ?_
  refine GoW.st (T' := T2) (g' := (mkF m 41 #[.val (.int p1), .val (.int p2), .val (.long p3), .second, .val (.int p4), .val (.long p5), .second, .val (.long p6), .second, .val (.int mA), .val (.int mi), .val (.long mw), .second, .val (.ref ra), .unset, .unset, .unset, .unset, .unset, .unset, .unset, .unset, .unset] [(.int ((p4.toUInt32 >>> ((8 : Int32) &&& 31).toUInt32).toInt32))])) (fun t_ k_ => XS.iushr X2.here hx rfl (hb hby at_40) rfl k_) ?_
  refine GoW.st (T' := T2) (g' := (mkF m 44 #[.val (.int p1), .val (.int p2), .val (.long p3), .second, .val (.int p4), .val (.long p5), .second, .val (.long p6), .second, .val (.int mA), .val (.int mi), .val (.long mw), .second, .val (.ref ra), .unset, .unset, .unset, .unset, .unset, .unset, .unset, .unset, .unset] [(.int (255 : Int32)), (.int ((p4.toUInt32 >>> ((8 : Int32) &&& 31).toUInt32).toInt32))])) (fun t_ k_ => XS.sipush X2.here hx rfl (hb hby at_41) k_) ?_
  refine GoW.st (T' := T2) (g' := (mkF m 45 #[.val (.int p1), .val (.int p2), .val (.long p3), .second, .val (.int p4), .val (.long p5), .second, .val (.long p6), .second, .val (.int mA), .val (.int mi), .val (.long mw), .second, .val (.ref ra), .unset, .unset, .unset, .unset, .unset, .unset, .unset, .unset, .unset] [(.int (((p4.toUInt32 >>> ((8 : Int32) &&& 31).toUInt32).toInt32) &&& (255 : Int32)))])) (fun t_ k_ => XS.iand X2.here hx rfl (hb hby at_44) rfl k_) ?_
  refine GoW.st (T' := T2) (g' := (mkF m 46 #[.val (.int p1), .val (.int p2), .val (.long p3), .second, .val (.int p4), .val (.long p5), .second, .val (.long p6), .second, .val (.int mA), .val (.int mi), .val (.long mw), .second, .val (.ref ra), .unset, .unset, .unset, .unset, .unset, .unset, .unset, .unset, .unset] [(.int (3 : Int32)), (.int (((p4.toUInt32 >>> ((8 : Int32) &&& 31).toUInt32).toInt32) &&& (255 : Int32)))])) (fun t_ k_ => XS.iconst X2.here hx rfl (hb hby at_45) k_) ?_
  refine GoW.st (T' := T2) (g' := (mkF m 47 #[.val (.int p1), .val (.int p2), .val (.long p3), .second, .val (.int p4), .val (.long p5), .second, .val (.long p6), .second, .val (.int mA), .val (.int mi), .val (.long mw), .second, .val (.ref ra), .unset, .unset, .unset, .unset, .unset, .unset, .unset, .unset, .unset] [(.int ((((p4.toUInt32 >>> ((8 : Int32) &&& 31).toUInt32).toInt32) &&& (255 : Int32)) % (3 : Int32)))])) (fun t_ k_ => iremM X2 hx rfl (hb hby at_46) rfl (by decide) k_) ?_
  obtain ⟨rb, hrb⟩ : ∃ z, z = if ((((p4.toUInt32 >>> ((8 : Int32) &&& 31).toUInt32).toInt32) &&& (255 : Int32)) % (3 : Int32)) = (0 : Int32) then w0 else if ((((p4.toUInt32 >>> ((8 : Int32) &&& 31).toUInt32).toInt32) &&& (255 : Int32)) % (3 : Int32)) = (1 : Int32) then w1 else w2 := ⟨_, rfl⟩
  obtain ⟨_, _, ⟨T3, L3, k3, n3⟩, -, X3, ⟨Lc3, hQ3, l3, y3, z3⟩, st3⟩ := Jvm.LawKit.callS X2 hx (y := (⟨"com/example/rollback_for_flows/rollbackforflows/connector/PoolingProfileWithExhaustedActionPinLaw", "action", "(I)Lcom/example/rollback_for_flows/rollbackforflows/connector/PoolingProfile$ExhaustedAction;"⟩ : MethodName)) hown (mvT hZ (hw _ (List.mem_of_getElem? (i := 6) rfl))) (mvT hZ (hw _ (List.mem_of_getElem? (i := 7) rfl))) (mvT hZ (hw _ (List.mem_of_getElem? (i := 8) rfl))) (mvT hZ (hw _ (List.mem_of_getElem? (i := 9) rfl))) (by decide) (backOf (W := 0) (rm2 l Z a0 hw [] ((((p4.toUInt32 >>> ((8 : Int32) &&& 31).toUInt32).toInt32) &&& (255 : Int32)) % (3 : Int32)) w0 w1 w2 rb h0 n0 Z0 S_w0 S_w1 S_w2 hrb) hZ (hw _ (List.mem_of_getElem? (i := 9) rfl)) (hw _ (List.mem_of_getElem? (i := 8) rfl)) (by decide) (by decide)) (g := (mkF m 47 #[.val (.int p1), .val (.int p2), .val (.long p3), .second, .val (.int p4), .val (.long p5), .second, .val (.long p6), .second, .val (.int mA), .val (.int mi), .val (.long mw), .second, .val (.ref ra), .unset, .unset, .unset, .unset, .unset, .unset, .unset, .unset, .unset] [(.int ((((p4.toUInt32 >>> ((8 : Int32) &&& 31).toUInt32).toInt32) &&& (255 : Int32)) % (3 : Int32)))])) rfl (by rw [hml]; rfl) (argsL := [(.int ((((p4.toUInt32 >>> ((8 : Int32) &&& 31).toUInt32).toInt32) &&& (255 : Int32)) % (3 : Int32)))]) (rest := []) (lenOf pd_5 rfl) rfl (by show 2 * 0 + _ ≤ _; exact Nat.le_of_eq rfl) (hb hby at_47) (fun _ _ => ⟨rfl, e2, (by decide : 0 + 0 ≤ _), (by decide : 0 + 0 ≤ _)⟩)
  dsimp only [Pt.U, Pt.locs, Pt.cells, Pt.slots] at X3 l3 y3 z3 st3 hQ3
  subst l3 y3 z3
  obtain ⟨rfl, Nq3, e3⟩ := hQ3
  have N3 := Fr.app N2 Nq3
  refine GoW.st (T' := T3) (g' := (mkF m 50 #[.val (.int p1), .val (.int p2), .val (.long p3), .second, .val (.int p4), .val (.long p5), .second, .val (.long p6), .second, .val (.int mA), .val (.int mi), .val (.long mw), .second, .val (.ref ra), .unset, .unset, .unset, .unset, .unset, .unset, .unset, .unset, .unset] [(.ref rb)])) st3 ?_
  refine GoW.st (T' := T3) (g' := (mkF m 52 #[.val (.int p1), .val (.int p2), .val (.long p3), .second, .val (.int p4), .val (.long p5), .second, .val (.long p6), .second, .val (.int mA), .val (.int mi), .val (.long mw), .second, .val (.ref ra), .val (.ref rb), .unset, .unset, .unset, .unset, .unset, .unset, .unset, .unset] [])) (fun t_ k_ => XS.astore X3.here hx rfl (hb hby at_50) rfl rfl (l' := #[.val (.int p1), .val (.int p2), .val (.long p3), .second, .val (.int p4), .val (.long p5), .second, .val (.long p6), .second, .val (.int mA), .val (.int mi), .val (.long mw), .second, .val (.ref ra), .val (.ref rb), .unset, .unset, .unset, .unset, .unset, .unset, .unset, .unset]) rfl k_) ?_
  refine GoW.st (T' := T3) (g' := (mkF m 54 #[.val (.int p1), .val (.int p2), .val (.long p3), .second, .val (.int p4), .val (.long p5), .second, .val (.long p6), .second, .val (.int mA), .val (.int mi), .val (.long mw), .second, .val (.ref ra), .val (.ref rb), .unset, .unset, .unset, .unset, .unset, .unset, .unset, .unset] [(.int p4)])) (fun t_ k_ => XS.iload X3.here hx rfl (hb hby at_52) rfl  k_) ?_
  refine GoW.st (T' := T3) (g' := (mkF m 56 #[.val (.int p1), .val (.int p2), .val (.long p3), .second, .val (.int p4), .val (.long p5), .second, .val (.long p6), .second, .val (.int mA), .val (.int mi), .val (.long mw), .second, .val (.ref ra), .val (.ref rb), .unset, .unset, .unset, .unset, .unset, .unset, .unset, .unset] [(.int (16 : Int32)), (.int p4)])) (fun t_ k_ => XS.bipush X3.here hx rfl (hb hby at_54) k_) ?_
  refine GoW.st (T' := T3) (g' := (mkF m 57 #[.val (.int p1), .val (.int p2), .val (.long p3), .second, .val (.int p4), .val (.long p5), .second, .val (.long p6), .second, .val (.int mA), .val (.int mi), .val (.long mw), .second, .val (.ref ra), .val (.ref rb), .unset, .unset, .unset, .unset, .unset, .unset, .unset, .unset] [(.int ((p4.toUInt32 >>> ((16 : Int32) &&& 31).toUInt32).toInt32))])) (fun t_ k_ => XS.iushr X3.here hx rfl (hb hby at_56) rfl k_) ?_
  refine GoW.st (T' := T3) (g' := (mkF m 60 #[.val (.int p1), .val (.int p2), .val (.long p3), .second, .val (.int p4), .val (.long p5), .second, .val (.long p6), .second, .val (.int mA), .val (.int mi), .val (.long mw), .second, .val (.ref ra), .val (.ref rb), .unset, .unset, .unset, .unset, .unset, .unset, .unset, .unset] [(.int (255 : Int32)), (.int ((p4.toUInt32 >>> ((16 : Int32) &&& 31).toUInt32).toInt32))])) (fun t_ k_ => XS.sipush X3.here hx rfl (hb hby at_57) k_) ?_
  refine GoW.st (T' := T3) (g' := (mkF m 61 #[.val (.int p1), .val (.int p2), .val (.long p3), .second, .val (.int p4), .val (.long p5), .second, .val (.long p6), .second, .val (.int mA), .val (.int mi), .val (.long mw), .second, .val (.ref ra), .val (.ref rb), .unset, .unset, .unset, .unset, .unset, .unset, .unset, .unset] [(.int (((p4.toUInt32 >>> ((16 : Int32) &&& 31).toUInt32).toInt32) &&& (255 : Int32)))])) (fun t_ k_ => XS.iand X3.here hx rfl (hb hby at_60) rfl k_) ?_
  refine GoW.st (T' := T3) (g' := (mkF m 62 #[.val (.int p1), .val (.int p2), .val (.long p3), .second, .val (.int p4), .val (.long p5), .second, .val (.long p6), .second, .val (.int mA), .val (.int mi), .val (.long mw), .second, .val (.ref ra), .val (.ref rb), .unset, .unset, .unset, .unset, .unset, .unset, .unset, .unset] [(.int (3 : Int32)), (.int (((p4.toUInt32 >>> ((16 : Int32) &&& 31).toUInt32).toInt32) &&& (255 : Int32)))])) (fun t_ k_ => XS.iconst X3.here hx rfl (hb hby at_61) k_) ?_
  refine GoW.st (T' := T3) (g' := (mkF m 63 #[.val (.int p1), .val (.int p2), .val (.long p3), .second, .val (.int p4), .val (.long p5), .second, .val (.long p6), .second, .val (.int mA), .val (.int mi), .val (.long mw), .second, .val (.ref ra), .val (.ref rb), .unset, .unset, .unset, .unset, .unset, .unset, .unset, .unset] [(.int ((((p4.toUInt32 >>> ((16 : Int32) &&& 31).toUInt32).toInt32) &&& (255 : Int32)) % (3 : Int32)))])) (fun t_ k_ => iremM X3 hx rfl (hb hby at_62) rfl (by decide) k_) ?_
  obtain ⟨rp, hrp⟩ : ∃ z, z = if ((((p4.toUInt32 >>> ((16 : Int32) &&& 31).toUInt32).toInt32) &&& (255 : Int32)) % (3 : Int32)) = (0 : Int32) then u0 else if ((((p4.toUInt32 >>> ((16 : Int32) &&& 31).toUInt32).toInt32) &&& (255 : Int32)) % (3 : Int32)) = (1 : Int32) then u1 else u2 := ⟨_, rfl⟩
  obtain ⟨_, _, ⟨T4, L4, k4, n4⟩, -, X4, ⟨Lc4, hQ4, l4, y4, z4⟩, st4⟩ := Jvm.LawKit.callS X3 hx (y := (⟨"com/example/rollback_for_flows/rollbackforflows/connector/PoolingProfileWithExhaustedActionPinLaw", "policy", "(I)Lcom/example/rollback_for_flows/rollbackforflows/connector/PoolingProfile$InitialisationPolicy;"⟩ : MethodName)) hown (mvT hZ (hw _ (List.mem_of_getElem? (i := 13) rfl))) (mvT hZ (hw _ (List.mem_of_getElem? (i := 14) rfl))) (mvT hZ (hw _ (List.mem_of_getElem? (i := 8) rfl))) (mvT hZ (hw _ (List.mem_of_getElem? (i := 15) rfl))) (by decide) (backOf (W := 0) (rm3 l Z a0 hw [] ((((p4.toUInt32 >>> ((16 : Int32) &&& 31).toUInt32).toInt32) &&& (255 : Int32)) % (3 : Int32)) u0 u1 u2 rp h0 n0 Z0 S_u0 S_u1 S_u2 hrp) hZ (hw _ (List.mem_of_getElem? (i := 15) rfl)) (hw _ (List.mem_of_getElem? (i := 8) rfl)) (by decide) (by decide)) (g := (mkF m 63 #[.val (.int p1), .val (.int p2), .val (.long p3), .second, .val (.int p4), .val (.long p5), .second, .val (.long p6), .second, .val (.int mA), .val (.int mi), .val (.long mw), .second, .val (.ref ra), .val (.ref rb), .unset, .unset, .unset, .unset, .unset, .unset, .unset, .unset] [(.int ((((p4.toUInt32 >>> ((16 : Int32) &&& 31).toUInt32).toInt32) &&& (255 : Int32)) % (3 : Int32)))])) rfl (by rw [hml]; rfl) (argsL := [(.int ((((p4.toUInt32 >>> ((16 : Int32) &&& 31).toUInt32).toInt32) &&& (255 : Int32)) % (3 : Int32)))]) (rest := []) (lenOf pd_6 rfl) rfl (by show 2 * 0 + _ ≤ _; exact Nat.le_of_eq rfl) (hb hby at_63) (fun _ _ => ⟨rfl, e3, (by decide : 0 + 0 ≤ _), (by decide : 0 + 0 ≤ _)⟩)
  dsimp only [Pt.U, Pt.locs, Pt.cells, Pt.slots] at X4 l4 y4 z4 st4 hQ4
  subst l4 y4 z4
  obtain ⟨rfl, Nq4, e4⟩ := hQ4
  have N4 := Fr.app N3 Nq4
  refine GoW.st (T' := T4) (g' := (mkF m 66 #[.val (.int p1), .val (.int p2), .val (.long p3), .second, .val (.int p4), .val (.long p5), .second, .val (.long p6), .second, .val (.int mA), .val (.int mi), .val (.long mw), .second, .val (.ref ra), .val (.ref rb), .unset, .unset, .unset, .unset, .unset, .unset, .unset, .unset] [(.ref rp)])) st4 ?_
  refine GoW.st (T' := T4) (g' := (mkF m 68 #[.val (.int p1), .val (.int p2), .val (.long p3), .second, .val (.int p4), .val (.long p5), .second, .val (.long p6), .second, .val (.int mA), .val (.int mi), .val (.long mw), .second, .val (.ref ra), .val (.ref rb), .val (.ref rp), .unset, .unset, .unset, .unset, .unset, .unset, .unset] [])) (fun t_ k_ => XS.astore X4.here hx rfl (hb hby at_66) rfl rfl (l' := #[.val (.int p1), .val (.int p2), .val (.long p3), .second, .val (.int p4), .val (.long p5), .second, .val (.long p6), .second, .val (.int mA), .val (.int mi), .val (.long mw), .second, .val (.ref ra), .val (.ref rb), .val (.ref rp), .unset, .unset, .unset, .unset, .unset, .unset, .unset]) rfl k_) ?_
  suffices J83 : ∀ ev : Int32, nar .boolean ev = ev → GoW p e below s (Q0 Z p1 p2 p3 p4 p5 p6 w0 w1 w2 u0 u1 u2 h0 n0) room_1.cells room_1.slots T4 (mkF m 83 #[.val (.int p1), .val (.int p2), .val (.long p3), .second, .val (.int p4), .val (.long p5), .second, .val (.long p6), .second, .val (.int mA), .val (.int mi), .val (.long mw), .second, .val (.ref ra), .val (.ref rb), .val (.ref rp), .unset, .unset, .unset, .unset, .unset, .unset, .unset] [(.int ev)]) by
    refine GoW.st (T' := T4) (g' := (mkF m 70 #[.val (.int p1), .val (.int p2), .val (.long p3), .second, .val (.int p4), .val (.long p5), .second, .val (.long p6), .second, .val (.int mA), .val (.int mi), .val (.long mw), .second, .val (.ref ra), .val (.ref rb), .val (.ref rp), .unset, .unset, .unset, .unset, .unset, .unset, .unset] [(.int p4)])) (fun t_ k_ => XS.iload X4.here hx rfl (hb hby at_68) rfl  k_) ?_
    refine GoW.st (T' := T4) (g' := (mkF m 72 #[.val (.int p1), .val (.int p2), .val (.long p3), .second, .val (.int p4), .val (.long p5), .second, .val (.long p6), .second, .val (.int mA), .val (.int mi), .val (.long mw), .second, .val (.ref ra), .val (.ref rb), .val (.ref rp), .unset, .unset, .unset, .unset, .unset, .unset, .unset] [(.int (24 : Int32)), (.int p4)])) (fun t_ k_ => XS.bipush X4.here hx rfl (hb hby at_70) k_) ?_
    refine GoW.st (T' := T4) (g' := (mkF m 73 #[.val (.int p1), .val (.int p2), .val (.long p3), .second, .val (.int p4), .val (.long p5), .second, .val (.long p6), .second, .val (.int mA), .val (.int mi), .val (.long mw), .second, .val (.ref ra), .val (.ref rb), .val (.ref rp), .unset, .unset, .unset, .unset, .unset, .unset, .unset] [(.int ((p4.toUInt32 >>> ((24 : Int32) &&& 31).toUInt32).toInt32))])) (fun t_ k_ => XS.iushr X4.here hx rfl (hb hby at_72) rfl k_) ?_
    refine GoW.st (T' := T4) (g' := (mkF m 74 #[.val (.int p1), .val (.int p2), .val (.long p3), .second, .val (.int p4), .val (.long p5), .second, .val (.long p6), .second, .val (.int mA), .val (.int mi), .val (.long mw), .second, .val (.ref ra), .val (.ref rb), .val (.ref rp), .unset, .unset, .unset, .unset, .unset, .unset, .unset] [(.int (1 : Int32)), (.int ((p4.toUInt32 >>> ((24 : Int32) &&& 31).toUInt32).toInt32))])) (fun t_ k_ => XS.iconst X4.here hx rfl (hb hby at_73) k_) ?_
    refine GoW.st (T' := T4) (g' := (mkF m 75 #[.val (.int p1), .val (.int p2), .val (.long p3), .second, .val (.int p4), .val (.long p5), .second, .val (.long p6), .second, .val (.int mA), .val (.int mi), .val (.long mw), .second, .val (.ref ra), .val (.ref rb), .val (.ref rp), .unset, .unset, .unset, .unset, .unset, .unset, .unset] [(.int (((p4.toUInt32 >>> ((24 : Int32) &&& 31).toUInt32).toInt32) &&& (1 : Int32)))])) (fun t_ k_ => XS.iand X4.here hx rfl (hb hby at_74) rfl k_) ?_
    by_cases hc75 : (((p4.toUInt32 >>> ((24 : Int32) &&& 31).toUInt32).toInt32) &&& (1 : Int32)) = (0 : Int32)
    · refine GoW.st (T' := T4) (g' := (mkF m 82 #[.val (.int p1), .val (.int p2), .val (.long p3), .second, .val (.int p4), .val (.long p5), .second, .val (.long p6), .second, .val (.int mA), .val (.int mi), .val (.long mw), .second, .val (.ref ra), .val (.ref rb), .val (.ref rp), .unset, .unset, .unset, .unset, .unset, .unset, .unset] [])) (fun t_ k_ => XS.ifYes X4.here hx rfl (pc0 := 75) (pc' := 82) rfl (hb hby at_75) rfl ((if0 _ _).trans (teq hc75).1) (by decide) (by decide) k_) ?_
      refine GoW.st (T' := T4) (g' := (mkF m 83 #[.val (.int p1), .val (.int p2), .val (.long p3), .second, .val (.int p4), .val (.long p5), .second, .val (.long p6), .second, .val (.int mA), .val (.int mi), .val (.long mw), .second, .val (.ref ra), .val (.ref rb), .val (.ref rp), .unset, .unset, .unset, .unset, .unset, .unset, .unset] [(.int (0 : Int32))])) (fun t_ k_ => XS.iconst X4.here hx rfl (hb hby at_82) k_) ?_
      exact J83 _ rfl
    · refine GoW.st (T' := T4) (g' := (mkF m 78 #[.val (.int p1), .val (.int p2), .val (.long p3), .second, .val (.int p4), .val (.long p5), .second, .val (.long p6), .second, .val (.int mA), .val (.int mi), .val (.long mw), .second, .val (.ref ra), .val (.ref rb), .val (.ref rp), .unset, .unset, .unset, .unset, .unset, .unset, .unset] [])) (fun t_ k_ => XS.ifNo X4.here hx rfl (hb hby at_75) rfl ((if0 _ _).trans (feq hc75).1) k_) ?_
      refine GoW.st (T' := T4) (g' := (mkF m 79 #[.val (.int p1), .val (.int p2), .val (.long p3), .second, .val (.int p4), .val (.long p5), .second, .val (.long p6), .second, .val (.int mA), .val (.int mi), .val (.long mw), .second, .val (.ref ra), .val (.ref rb), .val (.ref rp), .unset, .unset, .unset, .unset, .unset, .unset, .unset] [(.int (1 : Int32))])) (fun t_ k_ => XS.iconst X4.here hx rfl (hb hby at_78) k_) ?_
      refine GoW.st (T' := T4) (g' := (mkF m 83 #[.val (.int p1), .val (.int p2), .val (.long p3), .second, .val (.int p4), .val (.long p5), .second, .val (.long p6), .second, .val (.int mA), .val (.int mi), .val (.long mw), .second, .val (.ref ra), .val (.ref rb), .val (.ref rp), .unset, .unset, .unset, .unset, .unset, .unset, .unset] [(.int (1 : Int32))])) (fun t_ k_ => XS.goto X4.here hx rfl (pc0 := 79) (pc' := 83) rfl (hb hby at_79) (by decide) (by decide) k_) ?_
      exact J83 _ rfl
  intro ev hz
  refine GoW.st (T' := T4) (g' := (mkF m 85 #[.val (.int p1), .val (.int p2), .val (.long p3), .second, .val (.int p4), .val (.long p5), .second, .val (.long p6), .second, .val (.int mA), .val (.int mi), .val (.long mw), .second, .val (.ref ra), .val (.ref rb), .val (.ref rp), .val (.int ev), .unset, .unset, .unset, .unset, .unset, .unset] [])) (fun t_ k_ => XS.istore X4.here hx rfl (hb hby at_83) rfl (l' := #[.val (.int p1), .val (.int p2), .val (.long p3), .second, .val (.int p4), .val (.long p5), .second, .val (.long p6), .second, .val (.int mA), .val (.int mi), .val (.long mw), .second, .val (.ref ra), .val (.ref rb), .val (.ref rp), .val (.int ev), .unset, .unset, .unset, .unset, .unset, .unset]) rfl k_) ?_
  suffices J91 : ∀ me : Int64, ¬ (me < (0 : Int64)) → GoW p e below s (Q0 Z p1 p2 p3 p4 p5 p6 w0 w1 w2 u0 u1 u2 h0 n0) room_1.cells room_1.slots T4 (mkF m 91 #[.val (.int p1), .val (.int p2), .val (.long p3), .second, .val (.int p4), .val (.long p5), .second, .val (.long p6), .second, .val (.int mA), .val (.int mi), .val (.long mw), .second, .val (.ref ra), .val (.ref rb), .val (.ref rp), .val (.int ev), .unset, .unset, .unset, .unset, .unset, .unset] [(.long me)]) by
    refine GoW.st (T' := T4) (g' := (mkF m 87 #[.val (.int p1), .val (.int p2), .val (.long p3), .second, .val (.int p4), .val (.long p5), .second, .val (.long p6), .second, .val (.int mA), .val (.int mi), .val (.long mw), .second, .val (.ref ra), .val (.ref rb), .val (.ref rp), .val (.int ev), .unset, .unset, .unset, .unset, .unset, .unset] [(.long p5)])) (fun t_ k_ => XS.lload X4.here hx rfl (hb hby at_85) rfl  k_) ?_
    refine GoW.st (T' := T4) (g' := (mkF m 90 #[.val (.int p1), .val (.int p2), .val (.long p3), .second, .val (.int p4), .val (.long p5), .second, .val (.long p6), .second, .val (.int mA), .val (.int mi), .val (.long mw), .second, .val (.ref ra), .val (.ref rb), .val (.ref rp), .val (.int ev), .unset, .unset, .unset, .unset, .unset, .unset] [(.long (9223372036854775807 : Int64)), (.long p5)])) (fun t_ k_ => X4.ldc2J hx hown (mvT hZ (hw _ (List.mem_of_getElem? (i := 5) rfl))) rfl (hb hby at_87) k_) ?_
    refine GoW.st (T' := T4) (g' := (mkF m 91 #[.val (.int p1), .val (.int p2), .val (.long p3), .second, .val (.int p4), .val (.long p5), .second, .val (.long p6), .second, .val (.int mA), .val (.int mi), .val (.long mw), .second, .val (.ref ra), .val (.ref rb), .val (.ref rp), .val (.int ev), .unset, .unset, .unset, .unset, .unset, .unset] [(.long (p5 &&& (9223372036854775807 : Int64)))])) (fun t_ k_ => XS.land X4.here hx rfl (hb hby at_90) rfl k_) ?_
    exact J91 _ own_0J
  intro me hp7
  refine GoW.st (T' := T4) (g' := (mkF m 93 #[.val (.int p1), .val (.int p2), .val (.long p3), .second, .val (.int p4), .val (.long p5), .second, .val (.long p6), .second, .val (.int mA), .val (.int mi), .val (.long mw), .second, .val (.ref ra), .val (.ref rb), .val (.ref rp), .val (.int ev), .val (.long me), .second, .unset, .unset, .unset, .unset] [])) (fun t_ k_ => XS.lstore X4.here hx rfl (hb hby at_91) rfl (l' := #[.val (.int p1), .val (.int p2), .val (.long p3), .second, .val (.int p4), .val (.long p5), .second, .val (.long p6), .second, .val (.int mA), .val (.int mi), .val (.long mw), .second, .val (.ref ra), .val (.ref rb), .val (.ref rp), .val (.int ev), .val (.long me), .second, .unset, .unset, .unset, .unset]) rfl k_) ?_
  refine GoW.st (T' := T4) (g' := (mkF m 94 #[.val (.int p1), .val (.int p2), .val (.long p3), .second, .val (.int p4), .val (.long p5), .second, .val (.long p6), .second, .val (.int mA), .val (.int mi), .val (.long mw), .second, .val (.ref ra), .val (.ref rb), .val (.ref rp), .val (.int ev), .val (.long me), .second, .unset, .unset, .unset, .unset] [(.long (1 : Int64))])) (fun t_ k_ => XS.lconst X4.here hx rfl (hb hby at_93) k_) ?_
  refine GoW.st (T' := T4) (g' := (mkF m 96 #[.val (.int p1), .val (.int p2), .val (.long p3), .second, .val (.int p4), .val (.long p5), .second, .val (.long p6), .second, .val (.int mA), .val (.int mi), .val (.long mw), .second, .val (.ref ra), .val (.ref rb), .val (.ref rp), .val (.int ev), .val (.long me), .second, .unset, .unset, .unset, .unset] [(.long p6), (.long (1 : Int64))])) (fun t_ k_ => XS.lload X4.here hx rfl (hb hby at_94) rfl  k_) ?_
  refine GoW.st (T' := T4) (g' := (mkF m 99 #[.val (.int p1), .val (.int p2), .val (.long p3), .second, .val (.int p4), .val (.long p5), .second, .val (.long p6), .second, .val (.int mA), .val (.int mi), .val (.long mw), .second, .val (.ref ra), .val (.ref rb), .val (.ref rp), .val (.int ev), .val (.long me), .second, .unset, .unset, .unset, .unset] [(.long (9223372036854775807 : Int64)), (.long p6), (.long (1 : Int64))])) (fun t_ k_ => X4.ldc2J hx hown (mvT hZ (hw _ (List.mem_of_getElem? (i := 5) rfl))) rfl (hb hby at_96) k_) ?_
  refine GoW.st (T' := T4) (g' := (mkF m 100 #[.val (.int p1), .val (.int p2), .val (.long p3), .second, .val (.int p4), .val (.long p5), .second, .val (.long p6), .second, .val (.int mA), .val (.int mi), .val (.long mw), .second, .val (.ref ra), .val (.ref rb), .val (.ref rp), .val (.int ev), .val (.long me), .second, .unset, .unset, .unset, .unset] [(.long (p6 &&& (9223372036854775807 : Int64))), (.long (1 : Int64))])) (fun t_ k_ => XS.land X4.here hx rfl (hb hby at_99) rfl k_) ?_
  obtain ⟨mI, hmI⟩ : ∃ z, z = if (1 : Int64) < (p6 &&& (9223372036854775807 : Int64)) then (p6 &&& (9223372036854775807 : Int64)) else (1 : Int64) := ⟨_, rfl⟩
  obtain ⟨_, _, ⟨T5, L5, k5, n5⟩, -, X5, ⟨Lc5, hQ5, l5, y5, z5⟩, st5⟩ := Jvm.LawKit.callS X4 hx (y := (⟨"java/lang/Math", "max", "(JJ)J"⟩ : MethodName)) hown (mvT hZ (hw _ (List.mem_of_getElem? (i := 19) rfl))) (mvT hZ (hw _ (List.mem_of_getElem? (i := 20) rfl))) (mvT hZ (hw _ (List.mem_of_getElem? (i := 3) rfl))) (mvT hZ (hw _ (List.mem_of_getElem? (i := 21) rfl))) (by decide) (backOf (W := 0) (rm4 l Z a0 hw [] (1 : Int64) (p6 &&& (9223372036854775807 : Int64)) mI h0 n0 Z0 hmI) hZ (hw _ (List.mem_of_getElem? (i := 21) rfl)) (hw _ (List.mem_of_getElem? (i := 3) rfl)) (by decide) (by decide)) (g := (mkF m 100 #[.val (.int p1), .val (.int p2), .val (.long p3), .second, .val (.int p4), .val (.long p5), .second, .val (.long p6), .second, .val (.int mA), .val (.int mi), .val (.long mw), .second, .val (.ref ra), .val (.ref rb), .val (.ref rp), .val (.int ev), .val (.long me), .second, .unset, .unset, .unset, .unset] [(.long (p6 &&& (9223372036854775807 : Int64))), (.long (1 : Int64))])) rfl (by rw [hml]; rfl) (argsL := [(.long (1 : Int64)), (.long (p6 &&& (9223372036854775807 : Int64)))]) (rest := []) (lenOf pd_7 rfl) rfl (by show 2 * 0 + _ ≤ _; exact Nat.le_of_eq rfl) (hb hby at_100) (fun _ _ => ⟨rfl, e4, (by decide : 0 + 0 ≤ _), (by decide : 0 + 0 ≤ _)⟩)
  dsimp only [Pt.U, Pt.locs, Pt.cells, Pt.slots] at X5 l5 y5 z5 st5 hQ5
  subst l5 y5 z5
  obtain ⟨rfl, Nq5, e5⟩ := hQ5
  have N5 := Fr.app N4 Nq5
  refine GoW.st (T' := T5) (g' := (mkF m 103 #[.val (.int p1), .val (.int p2), .val (.long p3), .second, .val (.int p4), .val (.long p5), .second, .val (.long p6), .second, .val (.int mA), .val (.int mi), .val (.long mw), .second, .val (.ref ra), .val (.ref rb), .val (.ref rp), .val (.int ev), .val (.long me), .second, .unset, .unset, .unset, .unset] [(.long mI)])) st5 ?_
  refine GoW.st (T' := T5) (g' := (mkF m 105 #[.val (.int p1), .val (.int p2), .val (.long p3), .second, .val (.int p4), .val (.long p5), .second, .val (.long p6), .second, .val (.int mA), .val (.int mi), .val (.long mw), .second, .val (.ref ra), .val (.ref rb), .val (.ref rp), .val (.int ev), .val (.long me), .second, .val (.long mI), .second, .unset, .unset] [])) (fun t_ k_ => XS.lstore X5.here hx rfl (hb hby at_103) rfl (l' := #[.val (.int p1), .val (.int p2), .val (.long p3), .second, .val (.int p4), .val (.long p5), .second, .val (.long p6), .second, .val (.int mA), .val (.int mi), .val (.long mw), .second, .val (.ref ra), .val (.ref rb), .val (.ref rp), .val (.int ev), .val (.long me), .second, .val (.long mI), .second, .unset, .unset]) rfl k_) ?_
  obtain ⟨T6, h6, X6, e6, E6, A6, D6, -, st6⟩ := newO X5 hx hZ hown (hw _ (List.mem_of_getElem? (i := 22) rfl)) (hw _ (List.mem_of_getElem? (i := 23) rfl)) (hw _ (List.mem_of_getElem? (i := 24) rfl)) e5 (g := (mkF m 105 #[.val (.int p1), .val (.int p2), .val (.long p3), .second, .val (.int p4), .val (.long p5), .second, .val (.long p6), .second, .val (.int mA), .val (.int mi), .val (.long mw), .second, .val (.ref ra), .val (.ref rb), .val (.ref rp), .val (.int ev), .val (.long me), .second, .val (.long mI), .second, .unset, .unset] [])) rfl (hb hby at_105) (by decide) (by decide)
  obtain ⟨b6, q6⟩ : ∃ z, z = h0.size := ⟨_, rfl⟩
  rw [← q6] at A6 D6 st6
  have FmaxActive_b6 : Fld Z h6 b6 "com/example/rollback_for_flows/rollbackforflows/connector/PoolingProfile" "maxActive" "I" (.int (0 : Int32)) := D6 (Or.inr (hw _ (List.mem_of_getElem? (i := 58) rfl))) (ty := .int) (by decide)
  have FmaxIdle_b6 : Fld Z h6 b6 "com/example/rollback_for_flows/rollbackforflows/connector/PoolingProfile" "maxIdle" "I" (.int (0 : Int32)) := D6 (Or.inr (hw _ (List.mem_of_getElem? (i := 60) rfl))) (ty := .int) (by decide)
  have FmaxWaitMillis_b6 : Fld Z h6 b6 "com/example/rollback_for_flows/rollbackforflows/connector/PoolingProfile" "maxWaitMillis" "J" (.long (0 : Int64)) := D6 (Or.inr (hw _ (List.mem_of_getElem? (i := 62) rfl))) (ty := .long) (by decide)
  have FexhaustedAction_b6 : Fld Z h6 b6 "com/example/rollback_for_flows/rollbackforflows/connector/PoolingProfile" "exhaustedAction" "Lcom/example/rollback_for_flows/rollbackforflows/connector/PoolingProfile$ExhaustedAction;" .null := D6 (Or.inr (hw _ (List.mem_of_getElem? (i := 64) rfl))) (ty := (.object "com/example/rollback_for_flows/rollbackforflows/connector/PoolingProfile$ExhaustedAction")) (by decide)
  have FinitialisationPolicy_b6 : Fld Z h6 b6 "com/example/rollback_for_flows/rollbackforflows/connector/PoolingProfile" "initialisationPolicy" "Lcom/example/rollback_for_flows/rollbackforflows/connector/PoolingProfile$InitialisationPolicy;" .null := D6 (Or.inr (hw _ (List.mem_of_getElem? (i := 66) rfl))) (ty := (.object "com/example/rollback_for_flows/rollbackforflows/connector/PoolingProfile$InitialisationPolicy")) (by decide)
  have Fevicts_b6 : Fld Z h6 b6 "com/example/rollback_for_flows/rollbackforflows/connector/PoolingProfile" "evicts" "Z" (.int (0 : Int32)) := D6 (Or.inr (hw _ (List.mem_of_getElem? (i := 68) rfl))) (ty := .boolean) (by decide)
  have FminEvictionMillis_b6 : Fld Z h6 b6 "com/example/rollback_for_flows/rollbackforflows/connector/PoolingProfile" "minEvictionMillis" "J" (.long (0 : Int64)) := D6 (Or.inr (hw _ (List.mem_of_getElem? (i := 70) rfl))) (ty := .long) (by decide)
  have FevictionCheckIntervalMillis_b6 : Fld Z h6 b6 "com/example/rollback_for_flows/rollbackforflows/connector/PoolingProfile" "evictionCheckIntervalMillis" "J" (.long (0 : Int64)) := D6 (Or.inr (hw _ (List.mem_of_getElem? (i := 72) rfl))) (ty := .long) (by decide)
  have g_b6 : n0 ≤ b6 := Nat.le_trans Z0 (Nat.le_of_eq q6.symm)
  have sz_b6 : h0.size ≤ b6 := Nat.le_trans ((Keep.refl h0 [])).1 (Nat.le_of_eq q6.symm)
  have K6 := Keep.ext (Keep.refl h0 []) E6
  refine GoW.st (T' := T6) (g' := (mkF m 108 #[.val (.int p1), .val (.int p2), .val (.long p3), .second, .val (.int p4), .val (.long p5), .second, .val (.long p6), .second, .val (.int mA), .val (.int mi), .val (.long mw), .second, .val (.ref ra), .val (.ref rb), .val (.ref rp), .val (.int ev), .val (.long me), .second, .val (.long mI), .second, .unset, .unset] [(.ref b6)])) st6 ?_
  refine GoW.st (T' := T6) (g' := (mkF m 109 #[.val (.int p1), .val (.int p2), .val (.long p3), .second, .val (.int p4), .val (.long p5), .second, .val (.long p6), .second, .val (.int mA), .val (.int mi), .val (.long mw), .second, .val (.ref ra), .val (.ref rb), .val (.ref rp), .val (.int ev), .val (.long me), .second, .val (.long mI), .second, .unset, .unset] [(.ref b6), (.ref b6)])) (fun t_ k_ => XS.dup X6.here hx rfl (hb hby at_108) rfl rfl k_) ?_
  refine GoW.st (T' := T6) (g' := (mkF m 111 #[.val (.int p1), .val (.int p2), .val (.long p3), .second, .val (.int p4), .val (.long p5), .second, .val (.long p6), .second, .val (.int mA), .val (.int mi), .val (.long mw), .second, .val (.ref ra), .val (.ref rb), .val (.ref rp), .val (.int ev), .val (.long me), .second, .val (.long mI), .second, .unset, .unset] [(.int mA), (.ref b6), (.ref b6)])) (fun t_ k_ => XS.iload X6.here hx rfl (hb hby at_109) rfl  k_) ?_
  refine GoW.st (T' := T6) (g' := (mkF m 113 #[.val (.int p1), .val (.int p2), .val (.long p3), .second, .val (.int p4), .val (.long p5), .second, .val (.long p6), .second, .val (.int mA), .val (.int mi), .val (.long mw), .second, .val (.ref ra), .val (.ref rb), .val (.ref rp), .val (.int ev), .val (.long me), .second, .val (.long mI), .second, .unset, .unset] [(.int mi), (.int mA), (.ref b6), (.ref b6)])) (fun t_ k_ => XS.iload X6.here hx rfl (hb hby at_111) rfl  k_) ?_
  refine GoW.st (T' := T6) (g' := (mkF m 115 #[.val (.int p1), .val (.int p2), .val (.long p3), .second, .val (.int p4), .val (.long p5), .second, .val (.long p6), .second, .val (.int mA), .val (.int mi), .val (.long mw), .second, .val (.ref ra), .val (.ref rb), .val (.ref rp), .val (.int ev), .val (.long me), .second, .val (.long mI), .second, .unset, .unset] [(.long mw), (.int mi), (.int mA), (.ref b6), (.ref b6)])) (fun t_ k_ => XS.lload X6.here hx rfl (hb hby at_113) rfl  k_) ?_
  refine GoW.st (T' := T6) (g' := (mkF m 117 #[.val (.int p1), .val (.int p2), .val (.long p3), .second, .val (.int p4), .val (.long p5), .second, .val (.long p6), .second, .val (.int mA), .val (.int mi), .val (.long mw), .second, .val (.ref ra), .val (.ref rb), .val (.ref rp), .val (.int ev), .val (.long me), .second, .val (.long mI), .second, .unset, .unset] [(.ref ra), (.long mw), (.int mi), (.int mA), (.ref b6), (.ref b6)])) (fun t_ k_ => XS.aload X6.here hx rfl (hb hby at_115) rfl rfl k_) ?_
  refine GoW.st (T' := T6) (g' := (mkF m 119 #[.val (.int p1), .val (.int p2), .val (.long p3), .second, .val (.int p4), .val (.long p5), .second, .val (.long p6), .second, .val (.int mA), .val (.int mi), .val (.long mw), .second, .val (.ref ra), .val (.ref rb), .val (.ref rp), .val (.int ev), .val (.long me), .second, .val (.long mI), .second, .unset, .unset] [(.ref rp), (.ref ra), (.long mw), (.int mi), (.int mA), (.ref b6), (.ref b6)])) (fun t_ k_ => XS.aload X6.here hx rfl (hb hby at_117) rfl rfl k_) ?_
  refine GoW.st (T' := T6) (g' := (mkF m 121 #[.val (.int p1), .val (.int p2), .val (.long p3), .second, .val (.int p4), .val (.long p5), .second, .val (.long p6), .second, .val (.int mA), .val (.int mi), .val (.long mw), .second, .val (.ref ra), .val (.ref rb), .val (.ref rp), .val (.int ev), .val (.long me), .second, .val (.long mI), .second, .unset, .unset] [(.int ev), (.ref rp), (.ref ra), (.long mw), (.int mi), (.int mA), (.ref b6), (.ref b6)])) (fun t_ k_ => XS.iload X6.here hx rfl (hb hby at_119) rfl  k_) ?_
  refine GoW.st (T' := T6) (g' := (mkF m 123 #[.val (.int p1), .val (.int p2), .val (.long p3), .second, .val (.int p4), .val (.long p5), .second, .val (.long p6), .second, .val (.int mA), .val (.int mi), .val (.long mw), .second, .val (.ref ra), .val (.ref rb), .val (.ref rp), .val (.int ev), .val (.long me), .second, .val (.long mI), .second, .unset, .unset] [(.long me), (.int ev), (.ref rp), (.ref ra), (.long mw), (.int mi), (.int mA), (.ref b6), (.ref b6)])) (fun t_ k_ => XS.lload X6.here hx rfl (hb hby at_121) rfl  k_) ?_
  refine GoW.st (T' := T6) (g' := (mkF m 125 #[.val (.int p1), .val (.int p2), .val (.long p3), .second, .val (.int p4), .val (.long p5), .second, .val (.long p6), .second, .val (.int mA), .val (.int mi), .val (.long mw), .second, .val (.ref ra), .val (.ref rb), .val (.ref rp), .val (.int ev), .val (.long me), .second, .val (.long mI), .second, .unset, .unset] [(.long mI), (.long me), (.int ev), (.ref rp), (.ref ra), (.long mw), (.int mi), (.int mA), (.ref b6), (.ref b6)])) (fun t_ k_ => XS.lload X6.here hx rfl (hb hby at_123) rfl  k_) ?_
  obtain ⟨_, _, ⟨T7, L7, k7, n7⟩, -, Xq7, hSq7, hgr7, ⟨Lc7, hQ7, l7, y7, z7⟩, st7⟩ := X6.specialBackS hx (y := (⟨"com/example/rollback_for_flows/rollbackforflows/connector/PoolingProfile", "<init>", "(IIJLcom/example/rollback_for_flows/rollbackforflows/connector/PoolingProfile$ExhaustedAction;Lcom/example/rollback_for_flows/rollbackforflows/connector/PoolingProfile$InitialisationPolicy;ZJJ)V"⟩ : MethodName)) rfl hown (mvT hZ (hw _ (List.mem_of_getElem? (i := 25) rfl))) (mvT hZ (hw _ (List.mem_of_getElem? (i := 26) rfl))) (mvT hZ (hw _ (List.mem_of_getElem? (i := 27) rfl))) (by decide) (backOfS (W := 1) (rm5 l Z a0 hw [] b6 mA mi mw ra rp ev me mI  h6 n0 (Nat.le_trans Z0 E6.1) A6 g_b6 FmaxActive_b6 FmaxIdle_b6 FmaxWaitMillis_b6 FexhaustedAction_b6 FinitialisationPolicy_b6 Fevicts_b6 FminEvictionMillis_b6 FevictionCheckIntervalMillis_b6 (own_1I hmA) hp2 hp3 hz hp7 (own_1J hmI)) hZ (hw _ (List.mem_of_getElem? (i := 27) rfl)) (hw _ (List.mem_of_getElem? (i := 24) rfl)) (by decide) (by decide)) (g := (mkF m 125 #[.val (.int p1), .val (.int p2), .val (.long p3), .second, .val (.int p4), .val (.long p5), .second, .val (.long p6), .second, .val (.int mA), .val (.int mi), .val (.long mw), .second, .val (.ref ra), .val (.ref rb), .val (.ref rp), .val (.int ev), .val (.long me), .second, .val (.long mI), .second, .unset, .unset] [(.long mI), (.long me), (.int ev), (.ref rp), (.ref ra), (.long mw), (.int mi), (.int mA), (.ref b6), (.ref b6)])) rfl (by rw [hml]; rfl) (Steps.refl _) (a := b6) (argsL := [(.int mA), (.int mi), (.long mw), (.ref ra), (.ref rp), (.int ev), (.long me), (.long mI)]) (rest := [(.ref b6)]) (lenOf pd_3 rfl) rfl (by show 2 * 0 + _ ≤ _; exact Nat.le_of_eq rfl) (hb hby at_125) (fun _ _ => ⟨rfl, e6, (by decide : 1 + 14 ≤ _), (by decide : 8 + 496 ≤ _)⟩)
  dsimp only [Pt.U, Pt.locs, Pt.cells, Pt.slots] at Xq7 l7 y7 z7 st7 hQ7 hSq7 hgr7
  subst l7 y7 z7
  obtain ⟨X7, hS7, hZ, hown⟩ := rebS hS0 (by rw [e6]; exact (Nat.le_trans hk0 E6.1)) Xq7 hSq7 hgr7 hZ hown
  obtain ⟨rfl, Nq7, Kq7, Eq7, F0q7, F1q7, F2q7, F3q7, F4q7, F5q7, F6q7, F7q7⟩ := hQ7
  have N7 := Fr.app N5 Nq7
  refine GoW.ts (T' := T7) (g' := (mkF m 128 #[.val (.int p1), .val (.int p2), .val (.long p3), .second, .val (.int p4), .val (.long p5), .second, .val (.long p6), .second, .val (.int mA), .val (.int mi), .val (.long mw), .second, .val (.ref ra), .val (.ref rb), .val (.ref rp), .val (.int ev), .val (.long me), .second, .val (.long mI), .second, .unset, .unset] [(.ref b6)])) st7 ?_
  refine GoW.st (T' := T7) (g' := (mkF m 130 #[.val (.int p1), .val (.int p2), .val (.long p3), .second, .val (.int p4), .val (.long p5), .second, .val (.long p6), .second, .val (.int mA), .val (.int mi), .val (.long mw), .second, .val (.ref ra), .val (.ref rb), .val (.ref rp), .val (.int ev), .val (.long me), .second, .val (.long mI), .second, .val (.ref b6), .unset] [])) (fun t_ k_ => XS.astore X7.here hx rfl (hb hby at_128) rfl rfl (l' := #[.val (.int p1), .val (.int p2), .val (.long p3), .second, .val (.int p4), .val (.long p5), .second, .val (.long p6), .second, .val (.int mA), .val (.int mi), .val (.long mw), .second, .val (.ref ra), .val (.ref rb), .val (.ref rp), .val (.int ev), .val (.long me), .second, .val (.long mI), .second, .val (.ref b6), .unset]) rfl k_) ?_
  refine GoW.st (T' := T7) (g' := (mkF m 132 #[.val (.int p1), .val (.int p2), .val (.long p3), .second, .val (.int p4), .val (.long p5), .second, .val (.long p6), .second, .val (.int mA), .val (.int mi), .val (.long mw), .second, .val (.ref ra), .val (.ref rb), .val (.ref rp), .val (.int ev), .val (.long me), .second, .val (.long mI), .second, .val (.ref b6), .unset] [(.ref b6)])) (fun t_ k_ => XS.aload X7.here hx rfl (hb hby at_130) rfl rfl k_) ?_
  refine GoW.st (T' := T7) (g' := (mkF m 134 #[.val (.int p1), .val (.int p2), .val (.long p3), .second, .val (.int p4), .val (.long p5), .second, .val (.long p6), .second, .val (.int mA), .val (.int mi), .val (.long mw), .second, .val (.ref ra), .val (.ref rb), .val (.ref rp), .val (.int ev), .val (.long me), .second, .val (.long mI), .second, .val (.ref b6), .unset] [(.ref rb), (.ref b6)])) (fun t_ k_ => XS.aload X7.here hx rfl (hb hby at_132) rfl rfl k_) ?_
  obtain ⟨cq8, kq8, q8a, q8b, q8c⟩ := isOf hZ rfl Eq7
  obtain ⟨_, _, ⟨T8, L8, k8, n8⟩, -, Xq8, hSq8, hgr8, ⟨Lc8, hQ8, l8, y8, z8⟩, st8⟩ := X7.virtualBackS hx (y := (⟨"com/example/rollback_for_flows/rollbackforflows/connector/PoolingProfile", "withExhaustedAction", "(Lcom/example/rollback_for_flows/rollbackforflows/connector/PoolingProfile$ExhaustedAction;)Lcom/example/rollback_for_flows/rollbackforflows/connector/PoolingProfile;"⟩ : MethodName)) (z := (⟨"com/example/rollback_for_flows/rollbackforflows/connector/PoolingProfile", "withExhaustedAction", "(Lcom/example/rollback_for_flows/rollbackforflows/connector/PoolingProfile$ExhaustedAction;)Lcom/example/rollback_for_flows/rollbackforflows/connector/PoolingProfile;"⟩ : MethodName)) hown (mvT hZ (hw _ (List.mem_of_getElem? (i := 73) rfl))) (mvT hZ (hw _ (List.mem_of_getElem? (i := 74) rfl))) (notFace_of_selects (args := #[]) (mvT hZ (hw _ (List.mem_of_getElem? (i := 76) rfl)))) (mvT hZ (hw _ (List.mem_of_getElem? (i := 76) rfl))) (mvT hZ (hw _ (List.mem_of_getElem? (i := 75) rfl))) (by decide) (backOfS (W := 0) (rm10 l Z a0 hw [] b6 rb mA mi mw rp ev me mI T7.heap n0 (Nat.le_trans (Nat.le_trans Z0 E6.1) Kq7.1) F0q7 F1q7 F2q7 F4q7 F5q7 F6q7 F7q7 (own_1I hmA) hp2 hp3 hz hp7 (own_1J hmI)) hZ (hw _ (List.mem_of_getElem? (i := 77) rfl)) (hw _ (List.mem_of_getElem? (i := 24) rfl)) (by decide) (by decide)) q8a q8c (g := (mkF m 134 #[.val (.int p1), .val (.int p2), .val (.long p3), .second, .val (.int p4), .val (.long p5), .second, .val (.long p6), .second, .val (.int mA), .val (.int mi), .val (.long mw), .second, .val (.ref ra), .val (.ref rb), .val (.ref rp), .val (.int ev), .val (.long me), .second, .val (.long mI), .second, .val (.ref b6), .unset] [(.ref rb), (.ref b6)])) rfl (by rw [hml]; rfl) (Steps.refl _) (argsL := [(.ref rb)]) (rest := []) (lenOf pd_8 rfl) rfl (by show 2 * 0 + _ ≤ _; exact Nat.le_of_eq rfl) (hb hby at_134) (fun _ _ => ⟨rfl, rfl, (by decide : 15 + 15 ≤ _), (by decide : 504 + 504 ≤ _)⟩)
  dsimp only [Pt.U, Pt.locs, Pt.cells, Pt.slots] at Xq8 l8 y8 z8 st8 hQ8 hSq8 hgr8
  subst l8 y8 z8
  obtain ⟨X8, hS8, hZ, hown⟩ := rebS hS7 (Nat.le_refl _) Xq8 hSq8 hgr8 hZ hown
  obtain ⟨b8, rfl, Nq8, Kq8, gb8, Eq8, F0q8, F1q8, F2q8, F3q8, F4q8, F5q8, F6q8, F7q8⟩ := hQ8
  have N8 := Fr.app N7 Nq8
  refine GoW.ts (T' := T8) (g' := (mkF m 137 #[.val (.int p1), .val (.int p2), .val (.long p3), .second, .val (.int p4), .val (.long p5), .second, .val (.long p6), .second, .val (.int mA), .val (.int mi), .val (.long mw), .second, .val (.ref ra), .val (.ref rb), .val (.ref rp), .val (.int ev), .val (.long me), .second, .val (.long mI), .second, .val (.ref b6), .unset] [(.ref b8)])) st8 ?_
  refine GoW.st (T' := T8) (g' := (mkF m 139 #[.val (.int p1), .val (.int p2), .val (.long p3), .second, .val (.int p4), .val (.long p5), .second, .val (.long p6), .second, .val (.int mA), .val (.int mi), .val (.long mw), .second, .val (.ref ra), .val (.ref rb), .val (.ref rp), .val (.int ev), .val (.long me), .second, .val (.long mI), .second, .val (.ref b6), .val (.ref b8)] [])) (fun t_ k_ => XS.astore X8.here hx rfl (hb hby at_137) rfl rfl (l' := #[.val (.int p1), .val (.int p2), .val (.long p3), .second, .val (.int p4), .val (.long p5), .second, .val (.long p6), .second, .val (.int mA), .val (.int mi), .val (.long mw), .second, .val (.ref ra), .val (.ref rb), .val (.ref rp), .val (.int ev), .val (.long me), .second, .val (.long mI), .second, .val (.ref b6), .val (.ref b8)]) rfl k_) ?_
  refine GoW.st (T' := T8) (g' := (mkF m 141 #[.val (.int p1), .val (.int p2), .val (.long p3), .second, .val (.int p4), .val (.long p5), .second, .val (.long p6), .second, .val (.int mA), .val (.int mi), .val (.long mw), .second, .val (.ref ra), .val (.ref rb), .val (.ref rp), .val (.int ev), .val (.long me), .second, .val (.long mI), .second, .val (.ref b6), .val (.ref b8)] [(.ref b8)])) (fun t_ k_ => XS.aload X8.here hx rfl (hb hby at_139) rfl rfl k_) ?_
  obtain ⟨cq9, kq9, q9a, q9b, q9c⟩ := isOf hZ rfl Eq8
  obtain ⟨_, _, ⟨T9, L9, k9, n9⟩, -, X9, ⟨Lc9, hQ9, l9, y9, z9⟩, st9⟩ := X8.virtualBack hx (y := (⟨"com/example/rollback_for_flows/rollbackforflows/connector/PoolingProfile", "exhaustedAction", "()Lcom/example/rollback_for_flows/rollbackforflows/connector/PoolingProfile$ExhaustedAction;"⟩ : MethodName)) (z := (⟨"com/example/rollback_for_flows/rollbackforflows/connector/PoolingProfile", "exhaustedAction", "()Lcom/example/rollback_for_flows/rollbackforflows/connector/PoolingProfile$ExhaustedAction;"⟩ : MethodName)) hown (mvT hZ (hw _ (List.mem_of_getElem? (i := 80) rfl))) (mvT hZ (hw _ (List.mem_of_getElem? (i := 81) rfl))) (notFace_of_selects (args := #[]) (mvT hZ (hw _ (List.mem_of_getElem? (i := 83) rfl)))) (mvT hZ (hw _ (List.mem_of_getElem? (i := 83) rfl))) (mvT hZ (hw _ (List.mem_of_getElem? (i := 82) rfl))) (by decide) (backOf (W := 0) (rm11 l Z a0 hw [] b8 rb T8.heap n0 (Nat.le_trans (Nat.le_trans (Nat.le_trans Z0 E6.1) Kq7.1) Kq8.1) F3q8) hZ (hw _ (List.mem_of_getElem? (i := 84) rfl)) (hw _ (List.mem_of_getElem? (i := 24) rfl)) (by decide) (by decide)) q9a q9c (g := (mkF m 141 #[.val (.int p1), .val (.int p2), .val (.long p3), .second, .val (.int p4), .val (.long p5), .second, .val (.long p6), .second, .val (.int mA), .val (.int mi), .val (.long mw), .second, .val (.ref ra), .val (.ref rb), .val (.ref rp), .val (.int ev), .val (.long me), .second, .val (.long mI), .second, .val (.ref b6), .val (.ref b8)] [(.ref b8)])) rfl (by rw [hml]; rfl) (Steps.refl _) (argsL := []) (rest := []) (lenOf pd_9 rfl) rfl (by show 2 * 0 + _ ≤ _; exact Nat.le_of_eq rfl) (hb hby at_141) (fun _ _ => ⟨rfl, rfl, (by decide : 30 + 0 ≤ _), (by decide : 1008 + 0 ≤ _)⟩)
  dsimp only [Pt.U, Pt.locs, Pt.cells, Pt.slots] at X9 l9 y9 z9 st9 hQ9
  subst l9 y9 z9
  obtain ⟨rfl, Nq9, e9⟩ := hQ9
  have N9 := Fr.app N8 Nq9
  refine GoW.ts (T' := T9) (g' := (mkF m 144 #[.val (.int p1), .val (.int p2), .val (.long p3), .second, .val (.int p4), .val (.long p5), .second, .val (.long p6), .second, .val (.int mA), .val (.int mi), .val (.long mw), .second, .val (.ref ra), .val (.ref rb), .val (.ref rp), .val (.int ev), .val (.long me), .second, .val (.long mI), .second, .val (.ref b6), .val (.ref b8)] [(.ref rb)])) st9 ?_
  refine GoW.st (T' := T9) (g' := (mkF m 146 #[.val (.int p1), .val (.int p2), .val (.long p3), .second, .val (.int p4), .val (.long p5), .second, .val (.long p6), .second, .val (.int mA), .val (.int mi), .val (.long mw), .second, .val (.ref ra), .val (.ref rb), .val (.ref rp), .val (.int ev), .val (.long me), .second, .val (.long mI), .second, .val (.ref b6), .val (.ref b8)] [(.ref rb), (.ref rb)])) (fun t_ k_ => XS.aload X9.here hx rfl (hb hby at_144) rfl rfl k_) ?_
  refine GoW.st (T' := T9) (g' := (mkF m 149 #[.val (.int p1), .val (.int p2), .val (.long p3), .second, .val (.int p4), .val (.long p5), .second, .val (.long p6), .second, .val (.int mA), .val (.int mi), .val (.long mw), .second, .val (.ref ra), .val (.ref rb), .val (.ref rp), .val (.int ev), .val (.long me), .second, .val (.long mI), .second, .val (.ref b6), .val (.ref b8)] [])) (fun t_ k_ => Jvm.RoadKit.acmp (g := (mkF m 146 #[.val (.int p1), .val (.int p2), .val (.long p3), .second, .val (.int p4), .val (.long p5), .second, .val (.long p6), .second, .val (.int mA), .val (.int mi), .val (.long mw), .second, .val (.ref ra), .val (.ref rb), .val (.ref rp), .val (.int ev), .val (.long me), .second, .val (.long mI), .second, .val (.ref b6), .val (.ref b8)] [(.ref rb), (.ref rb)])) X9 hx rfl rfl rfl (pc0 := 146) (pc' := 149) (same := true) rfl (hb hby at_146) rfl (decide_eq_true rfl) (by decide) (by decide) k_) ?_
  refine GoW.st (T' := T9) (g' := (mkF m 151 #[.val (.int p1), .val (.int p2), .val (.long p3), .second, .val (.int p4), .val (.long p5), .second, .val (.long p6), .second, .val (.int mA), .val (.int mi), .val (.long mw), .second, .val (.ref ra), .val (.ref rb), .val (.ref rp), .val (.int ev), .val (.long me), .second, .val (.long mI), .second, .val (.ref b6), .val (.ref b8)] [(.ref b8)])) (fun t_ k_ => XS.aload X9.here hx rfl (hb hby at_149) rfl rfl k_) ?_
  obtain ⟨cq10, kq10, q10a, q10b, q10c⟩ := isOf hZ e9 Eq8
  obtain ⟨_, _, ⟨T10, L10, k10, n10⟩, -, X10, ⟨Lc10, hQ10, l10, y10, z10⟩, st10⟩ := X9.virtualBack hx (y := (⟨"com/example/rollback_for_flows/rollbackforflows/connector/PoolingProfile", "maxActive", "()I"⟩ : MethodName)) (z := (⟨"com/example/rollback_for_flows/rollbackforflows/connector/PoolingProfile", "maxActive", "()I"⟩ : MethodName)) hown (mvT hZ (hw _ (List.mem_of_getElem? (i := 85) rfl))) (mvT hZ (hw _ (List.mem_of_getElem? (i := 86) rfl))) (notFace_of_selects (args := #[]) (mvT hZ (hw _ (List.mem_of_getElem? (i := 88) rfl)))) (mvT hZ (hw _ (List.mem_of_getElem? (i := 88) rfl))) (mvT hZ (hw _ (List.mem_of_getElem? (i := 87) rfl))) (by decide) (backOf (W := 0) (rm12 l Z a0 hw [] b8 mA T8.heap n0 (Nat.le_trans (Nat.le_trans (Nat.le_trans Z0 E6.1) Kq7.1) Kq8.1) F0q8) hZ (hw _ (List.mem_of_getElem? (i := 89) rfl)) (hw _ (List.mem_of_getElem? (i := 24) rfl)) (by decide) (by decide)) q10a q10c (g := (mkF m 151 #[.val (.int p1), .val (.int p2), .val (.long p3), .second, .val (.int p4), .val (.long p5), .second, .val (.long p6), .second, .val (.int mA), .val (.int mi), .val (.long mw), .second, .val (.ref ra), .val (.ref rb), .val (.ref rp), .val (.int ev), .val (.long me), .second, .val (.long mI), .second, .val (.ref b6), .val (.ref b8)] [(.ref b8)])) rfl (by rw [hml]; rfl) (Steps.refl _) (argsL := []) (rest := []) (lenOf pd_10 rfl) rfl (by show 2 * 0 + _ ≤ _; exact Nat.le_of_eq rfl) (hb hby at_151) (fun _ _ => ⟨rfl, e9, (by decide : 30 + 0 ≤ _), (by decide : 1008 + 0 ≤ _)⟩)
  dsimp only [Pt.U, Pt.locs, Pt.cells, Pt.slots] at X10 l10 y10 z10 st10 hQ10
  subst l10 y10 z10
  obtain ⟨rfl, Nq10, e10⟩ := hQ10
  have N10 := Fr.app N9 Nq10
  refine GoW.ts (T' := T10) (g' := (mkF m 154 #[.val (.int p1), .val (.int p2), .val (.long p3), .second, .val (.int p4), .val (.long p5), .second, .val (.long p6), .second, .val (.int mA), .val (.int mi), .val (.long mw), .second, .val (.ref ra), .val (.ref rb), .val (.ref rp), .val (.int ev), .val (.long me), .second, .val (.long mI), .second, .val (.ref b6), .val (.ref b8)] [(.int mA)])) st10 ?_
  refine GoW.st (T' := T10) (g' := (mkF m 156 #[.val (.int p1), .val (.int p2), .val (.long p3), .second, .val (.int p4), .val (.long p5), .second, .val (.long p6), .second, .val (.int mA), .val (.int mi), .val (.long mw), .second, .val (.ref ra), .val (.ref rb), .val (.ref rp), .val (.int ev), .val (.long me), .second, .val (.long mI), .second, .val (.ref b6), .val (.ref b8)] [(.int mA), (.int mA)])) (fun t_ k_ => XS.iload X10.here hx rfl (hb hby at_154) rfl  k_) ?_
  refine GoW.st (T' := T10) (g' := (mkF m 159 #[.val (.int p1), .val (.int p2), .val (.long p3), .second, .val (.int p4), .val (.long p5), .second, .val (.long p6), .second, .val (.int mA), .val (.int mi), .val (.long mw), .second, .val (.ref ra), .val (.ref rb), .val (.ref rp), .val (.int ev), .val (.long me), .second, .val (.long mI), .second, .val (.ref b6), .val (.ref b8)] [])) (fun t_ k_ => XS.icmpNo X10.here hx rfl (hb hby at_156) rfl (teq rfl).2 k_) ?_
  refine GoW.st (T' := T10) (g' := (mkF m 161 #[.val (.int p1), .val (.int p2), .val (.long p3), .second, .val (.int p4), .val (.long p5), .second, .val (.long p6), .second, .val (.int mA), .val (.int mi), .val (.long mw), .second, .val (.ref ra), .val (.ref rb), .val (.ref rp), .val (.int ev), .val (.long me), .second, .val (.long mI), .second, .val (.ref b6), .val (.ref b8)] [(.ref b8)])) (fun t_ k_ => XS.aload X10.here hx rfl (hb hby at_159) rfl rfl k_) ?_
  obtain ⟨cq11, kq11, q11a, q11b, q11c⟩ := isOf hZ e10 Eq8
  obtain ⟨_, _, ⟨T11, L11, k11, n11⟩, -, X11, ⟨Lc11, hQ11, l11, y11, z11⟩, st11⟩ := X10.virtualBack hx (y := (⟨"com/example/rollback_for_flows/rollbackforflows/connector/PoolingProfile", "maxIdle", "()I"⟩ : MethodName)) (z := (⟨"com/example/rollback_for_flows/rollbackforflows/connector/PoolingProfile", "maxIdle", "()I"⟩ : MethodName)) hown (mvT hZ (hw _ (List.mem_of_getElem? (i := 90) rfl))) (mvT hZ (hw _ (List.mem_of_getElem? (i := 91) rfl))) (notFace_of_selects (args := #[]) (mvT hZ (hw _ (List.mem_of_getElem? (i := 93) rfl)))) (mvT hZ (hw _ (List.mem_of_getElem? (i := 93) rfl))) (mvT hZ (hw _ (List.mem_of_getElem? (i := 92) rfl))) (by decide) (backOf (W := 0) (rm13 l Z a0 hw [] b8 mi T8.heap n0 (Nat.le_trans (Nat.le_trans (Nat.le_trans Z0 E6.1) Kq7.1) Kq8.1) F1q8) hZ (hw _ (List.mem_of_getElem? (i := 94) rfl)) (hw _ (List.mem_of_getElem? (i := 24) rfl)) (by decide) (by decide)) q11a q11c (g := (mkF m 161 #[.val (.int p1), .val (.int p2), .val (.long p3), .second, .val (.int p4), .val (.long p5), .second, .val (.long p6), .second, .val (.int mA), .val (.int mi), .val (.long mw), .second, .val (.ref ra), .val (.ref rb), .val (.ref rp), .val (.int ev), .val (.long me), .second, .val (.long mI), .second, .val (.ref b6), .val (.ref b8)] [(.ref b8)])) rfl (by rw [hml]; rfl) (Steps.refl _) (argsL := []) (rest := []) (lenOf pd_10 rfl) rfl (by show 2 * 0 + _ ≤ _; exact Nat.le_of_eq rfl) (hb hby at_161) (fun _ _ => ⟨rfl, e10, (by decide : 30 + 0 ≤ _), (by decide : 1008 + 0 ≤ _)⟩)
  dsimp only [Pt.U, Pt.locs, Pt.cells, Pt.slots] at X11 l11 y11 z11 st11 hQ11
  subst l11 y11 z11
  obtain ⟨rfl, Nq11, e11⟩ := hQ11
  have N11 := Fr.app N10 Nq11
  refine GoW.ts (T' := T11) (g' := (mkF m 164 #[.val (.int p1), .val (.int p2), .val (.long p3), .second, .val (.int p4), .val (.long p5), .second, .val (.long p6), .second, .val (.int mA), .val (.int mi), .val (.long mw), .second, .val (.ref ra), .val (.ref rb), .val (.ref rp), .val (.int ev), .val (.long me), .second, .val (.long mI), .second, .val (.ref b6), .val (.ref b8)] [(.int mi)])) st11 ?_
  refine GoW.st (T' := T11) (g' := (mkF m 166 #[.val (.int p1), .val (.int p2), .val (.long p3), .second, .val (.int p4), .val (.long p5), .second, .val (.long p6), .second, .val (.int mA), .val (.int mi), .val (.long mw), .second, .val (.ref ra), .val (.ref rb), .val (.ref rp), .val (.int ev), .val (.long me), .second, .val (.long mI), .second, .val (.ref b6), .val (.ref b8)] [(.int mi), (.int mi)])) (fun t_ k_ => XS.iload X11.here hx rfl (hb hby at_164) rfl  k_) ?_
  refine GoW.st (T' := T11) (g' := (mkF m 169 #[.val (.int p1), .val (.int p2), .val (.long p3), .second, .val (.int p4), .val (.long p5), .second, .val (.long p6), .second, .val (.int mA), .val (.int mi), .val (.long mw), .second, .val (.ref ra), .val (.ref rb), .val (.ref rp), .val (.int ev), .val (.long me), .second, .val (.long mI), .second, .val (.ref b6), .val (.ref b8)] [])) (fun t_ k_ => XS.icmpNo X11.here hx rfl (hb hby at_166) rfl (teq rfl).2 k_) ?_
  refine GoW.st (T' := T11) (g' := (mkF m 171 #[.val (.int p1), .val (.int p2), .val (.long p3), .second, .val (.int p4), .val (.long p5), .second, .val (.long p6), .second, .val (.int mA), .val (.int mi), .val (.long mw), .second, .val (.ref ra), .val (.ref rb), .val (.ref rp), .val (.int ev), .val (.long me), .second, .val (.long mI), .second, .val (.ref b6), .val (.ref b8)] [(.ref b8)])) (fun t_ k_ => XS.aload X11.here hx rfl (hb hby at_169) rfl rfl k_) ?_
  obtain ⟨cq12, kq12, q12a, q12b, q12c⟩ := isOf hZ e11 Eq8
  obtain ⟨_, _, ⟨T12, L12, k12, n12⟩, -, X12, ⟨Lc12, hQ12, l12, y12, z12⟩, st12⟩ := X11.virtualBack hx (y := (⟨"com/example/rollback_for_flows/rollbackforflows/connector/PoolingProfile", "maxWaitMillis", "()J"⟩ : MethodName)) (z := (⟨"com/example/rollback_for_flows/rollbackforflows/connector/PoolingProfile", "maxWaitMillis", "()J"⟩ : MethodName)) hown (mvT hZ (hw _ (List.mem_of_getElem? (i := 95) rfl))) (mvT hZ (hw _ (List.mem_of_getElem? (i := 96) rfl))) (notFace_of_selects (args := #[]) (mvT hZ (hw _ (List.mem_of_getElem? (i := 98) rfl)))) (mvT hZ (hw _ (List.mem_of_getElem? (i := 98) rfl))) (mvT hZ (hw _ (List.mem_of_getElem? (i := 97) rfl))) (by decide) (backOf (W := 0) (rm14 l Z a0 hw [] b8 mw T8.heap n0 (Nat.le_trans (Nat.le_trans (Nat.le_trans Z0 E6.1) Kq7.1) Kq8.1) F2q8) hZ (hw _ (List.mem_of_getElem? (i := 99) rfl)) (hw _ (List.mem_of_getElem? (i := 24) rfl)) (by decide) (by decide)) q12a q12c (g := (mkF m 171 #[.val (.int p1), .val (.int p2), .val (.long p3), .second, .val (.int p4), .val (.long p5), .second, .val (.long p6), .second, .val (.int mA), .val (.int mi), .val (.long mw), .second, .val (.ref ra), .val (.ref rb), .val (.ref rp), .val (.int ev), .val (.long me), .second, .val (.long mI), .second, .val (.ref b6), .val (.ref b8)] [(.ref b8)])) rfl (by rw [hml]; rfl) (Steps.refl _) (argsL := []) (rest := []) (lenOf pd_11 rfl) rfl (by show 2 * 0 + _ ≤ _; exact Nat.le_of_eq rfl) (hb hby at_171) (fun _ _ => ⟨rfl, e11, (by decide : 30 + 0 ≤ _), (by decide : 1008 + 0 ≤ _)⟩)
  dsimp only [Pt.U, Pt.locs, Pt.cells, Pt.slots] at X12 l12 y12 z12 st12 hQ12
  subst l12 y12 z12
  obtain ⟨rfl, Nq12, e12⟩ := hQ12
  have N12 := Fr.app N11 Nq12
  refine GoW.ts (T' := T12) (g' := (mkF m 174 #[.val (.int p1), .val (.int p2), .val (.long p3), .second, .val (.int p4), .val (.long p5), .second, .val (.long p6), .second, .val (.int mA), .val (.int mi), .val (.long mw), .second, .val (.ref ra), .val (.ref rb), .val (.ref rp), .val (.int ev), .val (.long me), .second, .val (.long mI), .second, .val (.ref b6), .val (.ref b8)] [(.long mw)])) st12 ?_
  refine GoW.st (T' := T12) (g' := (mkF m 176 #[.val (.int p1), .val (.int p2), .val (.long p3), .second, .val (.int p4), .val (.long p5), .second, .val (.long p6), .second, .val (.int mA), .val (.int mi), .val (.long mw), .second, .val (.ref ra), .val (.ref rb), .val (.ref rp), .val (.int ev), .val (.long me), .second, .val (.long mI), .second, .val (.ref b6), .val (.ref b8)] [(.long mw), (.long mw)])) (fun t_ k_ => XS.lload X12.here hx rfl (hb hby at_174) rfl  k_) ?_
  refine GoW.st (T' := T12) (g' := (mkF m 177 #[.val (.int p1), .val (.int p2), .val (.long p3), .second, .val (.int p4), .val (.long p5), .second, .val (.long p6), .second, .val (.int mA), .val (.int mi), .val (.long mw), .second, .val (.ref ra), .val (.ref rb), .val (.ref rp), .val (.int ev), .val (.long me), .second, .val (.long mI), .second, .val (.ref b6), .val (.ref b8)] [(.int (lcmpW mw mw))])) (fun t_ k_ => XS.lcmp X12.here hx rfl (hb hby at_176) rfl k_) ?_
  refine GoW.st (T' := T12) (g' := (mkF m 180 #[.val (.int p1), .val (.int p2), .val (.long p3), .second, .val (.int p4), .val (.long p5), .second, .val (.long p6), .second, .val (.int mA), .val (.int mi), .val (.long mw), .second, .val (.ref ra), .val (.ref rb), .val (.ref rp), .val (.int ev), .val (.long me), .second, .val (.long mI), .second, .val (.ref b6), .val (.ref b8)] [])) (fun t_ k_ => XS.ifNo X12.here hx rfl (hb hby at_177) rfl ((if0 _ _).trans (teq (lcw_eq rfl)).2) k_) ?_
  refine GoW.st (T' := T12) (g' := (mkF m 182 #[.val (.int p1), .val (.int p2), .val (.long p3), .second, .val (.int p4), .val (.long p5), .second, .val (.long p6), .second, .val (.int mA), .val (.int mi), .val (.long mw), .second, .val (.ref ra), .val (.ref rb), .val (.ref rp), .val (.int ev), .val (.long me), .second, .val (.long mI), .second, .val (.ref b6), .val (.ref b8)] [(.ref b8)])) (fun t_ k_ => XS.aload X12.here hx rfl (hb hby at_180) rfl rfl k_) ?_
  obtain ⟨cq13, kq13, q13a, q13b, q13c⟩ := isOf hZ e12 Eq8
  obtain ⟨_, _, ⟨T13, L13, k13, n13⟩, -, X13, ⟨Lc13, hQ13, l13, y13, z13⟩, st13⟩ := X12.virtualBack hx (y := (⟨"com/example/rollback_for_flows/rollbackforflows/connector/PoolingProfile", "initialisationPolicy", "()Lcom/example/rollback_for_flows/rollbackforflows/connector/PoolingProfile$InitialisationPolicy;"⟩ : MethodName)) (z := (⟨"com/example/rollback_for_flows/rollbackforflows/connector/PoolingProfile", "initialisationPolicy", "()Lcom/example/rollback_for_flows/rollbackforflows/connector/PoolingProfile$InitialisationPolicy;"⟩ : MethodName)) hown (mvT hZ (hw _ (List.mem_of_getElem? (i := 100) rfl))) (mvT hZ (hw _ (List.mem_of_getElem? (i := 101) rfl))) (notFace_of_selects (args := #[]) (mvT hZ (hw _ (List.mem_of_getElem? (i := 103) rfl)))) (mvT hZ (hw _ (List.mem_of_getElem? (i := 103) rfl))) (mvT hZ (hw _ (List.mem_of_getElem? (i := 102) rfl))) (by decide) (backOf (W := 0) (rm15 l Z a0 hw [] b8 rp T8.heap n0 (Nat.le_trans (Nat.le_trans (Nat.le_trans Z0 E6.1) Kq7.1) Kq8.1) F4q8) hZ (hw _ (List.mem_of_getElem? (i := 104) rfl)) (hw _ (List.mem_of_getElem? (i := 24) rfl)) (by decide) (by decide)) q13a q13c (g := (mkF m 182 #[.val (.int p1), .val (.int p2), .val (.long p3), .second, .val (.int p4), .val (.long p5), .second, .val (.long p6), .second, .val (.int mA), .val (.int mi), .val (.long mw), .second, .val (.ref ra), .val (.ref rb), .val (.ref rp), .val (.int ev), .val (.long me), .second, .val (.long mI), .second, .val (.ref b6), .val (.ref b8)] [(.ref b8)])) rfl (by rw [hml]; rfl) (Steps.refl _) (argsL := []) (rest := []) (lenOf pd_12 rfl) rfl (by show 2 * 0 + _ ≤ _; exact Nat.le_of_eq rfl) (hb hby at_182) (fun _ _ => ⟨rfl, e12, (by decide : 30 + 0 ≤ _), (by decide : 1008 + 0 ≤ _)⟩)
  dsimp only [Pt.U, Pt.locs, Pt.cells, Pt.slots] at X13 l13 y13 z13 st13 hQ13
  subst l13 y13 z13
  obtain ⟨rfl, Nq13, e13⟩ := hQ13
  have N13 := Fr.app N12 Nq13
  refine GoW.ts (T' := T13) (g' := (mkF m 185 #[.val (.int p1), .val (.int p2), .val (.long p3), .second, .val (.int p4), .val (.long p5), .second, .val (.long p6), .second, .val (.int mA), .val (.int mi), .val (.long mw), .second, .val (.ref ra), .val (.ref rb), .val (.ref rp), .val (.int ev), .val (.long me), .second, .val (.long mI), .second, .val (.ref b6), .val (.ref b8)] [(.ref rp)])) st13 ?_
  refine GoW.st (T' := T13) (g' := (mkF m 187 #[.val (.int p1), .val (.int p2), .val (.long p3), .second, .val (.int p4), .val (.long p5), .second, .val (.long p6), .second, .val (.int mA), .val (.int mi), .val (.long mw), .second, .val (.ref ra), .val (.ref rb), .val (.ref rp), .val (.int ev), .val (.long me), .second, .val (.long mI), .second, .val (.ref b6), .val (.ref b8)] [(.ref rp), (.ref rp)])) (fun t_ k_ => XS.aload X13.here hx rfl (hb hby at_185) rfl rfl k_) ?_
  refine GoW.st (T' := T13) (g' := (mkF m 190 #[.val (.int p1), .val (.int p2), .val (.long p3), .second, .val (.int p4), .val (.long p5), .second, .val (.long p6), .second, .val (.int mA), .val (.int mi), .val (.long mw), .second, .val (.ref ra), .val (.ref rb), .val (.ref rp), .val (.int ev), .val (.long me), .second, .val (.long mI), .second, .val (.ref b6), .val (.ref b8)] [])) (fun t_ k_ => Jvm.RoadKit.acmp (g := (mkF m 187 #[.val (.int p1), .val (.int p2), .val (.long p3), .second, .val (.int p4), .val (.long p5), .second, .val (.long p6), .second, .val (.int mA), .val (.int mi), .val (.long mw), .second, .val (.ref ra), .val (.ref rb), .val (.ref rp), .val (.int ev), .val (.long me), .second, .val (.long mI), .second, .val (.ref b6), .val (.ref b8)] [(.ref rp), (.ref rp)])) X13 hx rfl rfl rfl (pc0 := 187) (pc' := 190) (same := true) rfl (hb hby at_187) rfl (decide_eq_true rfl) (by decide) (by decide) k_) ?_
  refine GoW.st (T' := T13) (g' := (mkF m 192 #[.val (.int p1), .val (.int p2), .val (.long p3), .second, .val (.int p4), .val (.long p5), .second, .val (.long p6), .second, .val (.int mA), .val (.int mi), .val (.long mw), .second, .val (.ref ra), .val (.ref rb), .val (.ref rp), .val (.int ev), .val (.long me), .second, .val (.long mI), .second, .val (.ref b6), .val (.ref b8)] [(.ref b8)])) (fun t_ k_ => XS.aload X13.here hx rfl (hb hby at_190) rfl rfl k_) ?_
  obtain ⟨cq14, kq14, q14a, q14b, q14c⟩ := isOf hZ e13 Eq8
  obtain ⟨_, _, ⟨T14, L14, k14, n14⟩, -, X14, ⟨Lc14, hQ14, l14, y14, z14⟩, st14⟩ := X13.virtualBack hx (y := (⟨"com/example/rollback_for_flows/rollbackforflows/connector/PoolingProfile", "evicts", "()Z"⟩ : MethodName)) (z := (⟨"com/example/rollback_for_flows/rollbackforflows/connector/PoolingProfile", "evicts", "()Z"⟩ : MethodName)) hown (mvT hZ (hw _ (List.mem_of_getElem? (i := 105) rfl))) (mvT hZ (hw _ (List.mem_of_getElem? (i := 106) rfl))) (notFace_of_selects (args := #[]) (mvT hZ (hw _ (List.mem_of_getElem? (i := 108) rfl)))) (mvT hZ (hw _ (List.mem_of_getElem? (i := 108) rfl))) (mvT hZ (hw _ (List.mem_of_getElem? (i := 107) rfl))) (by decide) (backOf (W := 0) (rm16 l Z a0 hw [] b8 ev T8.heap n0 (Nat.le_trans (Nat.le_trans (Nat.le_trans Z0 E6.1) Kq7.1) Kq8.1) F5q8 hz) hZ (hw _ (List.mem_of_getElem? (i := 109) rfl)) (hw _ (List.mem_of_getElem? (i := 24) rfl)) (by decide) (by decide)) q14a q14c (g := (mkF m 192 #[.val (.int p1), .val (.int p2), .val (.long p3), .second, .val (.int p4), .val (.long p5), .second, .val (.long p6), .second, .val (.int mA), .val (.int mi), .val (.long mw), .second, .val (.ref ra), .val (.ref rb), .val (.ref rp), .val (.int ev), .val (.long me), .second, .val (.long mI), .second, .val (.ref b6), .val (.ref b8)] [(.ref b8)])) rfl (by rw [hml]; rfl) (Steps.refl _) (argsL := []) (rest := []) (lenOf pd_13 rfl) rfl (by show 2 * 0 + _ ≤ _; exact Nat.le_of_eq rfl) (hb hby at_192) (fun _ _ => ⟨rfl, e13, (by decide : 30 + 0 ≤ _), (by decide : 1008 + 0 ≤ _)⟩)
  dsimp only [Pt.U, Pt.locs, Pt.cells, Pt.slots] at X14 l14 y14 z14 st14 hQ14
  subst l14 y14 z14
  obtain ⟨rfl, Nq14, e14⟩ := hQ14
  have N14 := Fr.app N13 Nq14
  refine GoW.ts (T' := T14) (g' := (mkF m 195 #[.val (.int p1), .val (.int p2), .val (.long p3), .second, .val (.int p4), .val (.long p5), .second, .val (.long p6), .second, .val (.int mA), .val (.int mi), .val (.long mw), .second, .val (.ref ra), .val (.ref rb), .val (.ref rp), .val (.int ev), .val (.long me), .second, .val (.long mI), .second, .val (.ref b6), .val (.ref b8)] [(.int ev)])) st14 ?_
  refine GoW.st (T' := T14) (g' := (mkF m 197 #[.val (.int p1), .val (.int p2), .val (.long p3), .second, .val (.int p4), .val (.long p5), .second, .val (.long p6), .second, .val (.int mA), .val (.int mi), .val (.long mw), .second, .val (.ref ra), .val (.ref rb), .val (.ref rp), .val (.int ev), .val (.long me), .second, .val (.long mI), .second, .val (.ref b6), .val (.ref b8)] [(.int ev), (.int ev)])) (fun t_ k_ => XS.iload X14.here hx rfl (hb hby at_195) rfl  k_) ?_
  refine GoW.st (T' := T14) (g' := (mkF m 200 #[.val (.int p1), .val (.int p2), .val (.long p3), .second, .val (.int p4), .val (.long p5), .second, .val (.long p6), .second, .val (.int mA), .val (.int mi), .val (.long mw), .second, .val (.ref ra), .val (.ref rb), .val (.ref rp), .val (.int ev), .val (.long me), .second, .val (.long mI), .second, .val (.ref b6), .val (.ref b8)] [])) (fun t_ k_ => XS.icmpNo X14.here hx rfl (hb hby at_197) rfl (teq rfl).2 k_) ?_
  refine GoW.st (T' := T14) (g' := (mkF m 202 #[.val (.int p1), .val (.int p2), .val (.long p3), .second, .val (.int p4), .val (.long p5), .second, .val (.long p6), .second, .val (.int mA), .val (.int mi), .val (.long mw), .second, .val (.ref ra), .val (.ref rb), .val (.ref rp), .val (.int ev), .val (.long me), .second, .val (.long mI), .second, .val (.ref b6), .val (.ref b8)] [(.ref b8)])) (fun t_ k_ => XS.aload X14.here hx rfl (hb hby at_200) rfl rfl k_) ?_
  obtain ⟨cq15, kq15, q15a, q15b, q15c⟩ := isOf hZ e14 Eq8
  obtain ⟨_, _, ⟨T15, L15, k15, n15⟩, -, X15, ⟨Lc15, hQ15, l15, y15, z15⟩, st15⟩ := X14.virtualBack hx (y := (⟨"com/example/rollback_for_flows/rollbackforflows/connector/PoolingProfile", "minEvictionMillis", "()J"⟩ : MethodName)) (z := (⟨"com/example/rollback_for_flows/rollbackforflows/connector/PoolingProfile", "minEvictionMillis", "()J"⟩ : MethodName)) hown (mvT hZ (hw _ (List.mem_of_getElem? (i := 110) rfl))) (mvT hZ (hw _ (List.mem_of_getElem? (i := 111) rfl))) (notFace_of_selects (args := #[]) (mvT hZ (hw _ (List.mem_of_getElem? (i := 113) rfl)))) (mvT hZ (hw _ (List.mem_of_getElem? (i := 113) rfl))) (mvT hZ (hw _ (List.mem_of_getElem? (i := 112) rfl))) (by decide) (backOf (W := 0) (rm17 l Z a0 hw [] b8 me T8.heap n0 (Nat.le_trans (Nat.le_trans (Nat.le_trans Z0 E6.1) Kq7.1) Kq8.1) F6q8) hZ (hw _ (List.mem_of_getElem? (i := 114) rfl)) (hw _ (List.mem_of_getElem? (i := 24) rfl)) (by decide) (by decide)) q15a q15c (g := (mkF m 202 #[.val (.int p1), .val (.int p2), .val (.long p3), .second, .val (.int p4), .val (.long p5), .second, .val (.long p6), .second, .val (.int mA), .val (.int mi), .val (.long mw), .second, .val (.ref ra), .val (.ref rb), .val (.ref rp), .val (.int ev), .val (.long me), .second, .val (.long mI), .second, .val (.ref b6), .val (.ref b8)] [(.ref b8)])) rfl (by rw [hml]; rfl) (Steps.refl _) (argsL := []) (rest := []) (lenOf pd_11 rfl) rfl (by show 2 * 0 + _ ≤ _; exact Nat.le_of_eq rfl) (hb hby at_202) (fun _ _ => ⟨rfl, e14, (by decide : 30 + 0 ≤ _), (by decide : 1008 + 0 ≤ _)⟩)
  dsimp only [Pt.U, Pt.locs, Pt.cells, Pt.slots] at X15 l15 y15 z15 st15 hQ15
  subst l15 y15 z15
  obtain ⟨rfl, Nq15, e15⟩ := hQ15
  have N15 := Fr.app N14 Nq15
  refine GoW.ts (T' := T15) (g' := (mkF m 205 #[.val (.int p1), .val (.int p2), .val (.long p3), .second, .val (.int p4), .val (.long p5), .second, .val (.long p6), .second, .val (.int mA), .val (.int mi), .val (.long mw), .second, .val (.ref ra), .val (.ref rb), .val (.ref rp), .val (.int ev), .val (.long me), .second, .val (.long mI), .second, .val (.ref b6), .val (.ref b8)] [(.long me)])) st15 ?_
  refine GoW.st (T' := T15) (g' := (mkF m 207 #[.val (.int p1), .val (.int p2), .val (.long p3), .second, .val (.int p4), .val (.long p5), .second, .val (.long p6), .second, .val (.int mA), .val (.int mi), .val (.long mw), .second, .val (.ref ra), .val (.ref rb), .val (.ref rp), .val (.int ev), .val (.long me), .second, .val (.long mI), .second, .val (.ref b6), .val (.ref b8)] [(.long me), (.long me)])) (fun t_ k_ => XS.lload X15.here hx rfl (hb hby at_205) rfl  k_) ?_
  refine GoW.st (T' := T15) (g' := (mkF m 208 #[.val (.int p1), .val (.int p2), .val (.long p3), .second, .val (.int p4), .val (.long p5), .second, .val (.long p6), .second, .val (.int mA), .val (.int mi), .val (.long mw), .second, .val (.ref ra), .val (.ref rb), .val (.ref rp), .val (.int ev), .val (.long me), .second, .val (.long mI), .second, .val (.ref b6), .val (.ref b8)] [(.int (lcmpW me me))])) (fun t_ k_ => XS.lcmp X15.here hx rfl (hb hby at_207) rfl k_) ?_
  refine GoW.st (T' := T15) (g' := (mkF m 211 #[.val (.int p1), .val (.int p2), .val (.long p3), .second, .val (.int p4), .val (.long p5), .second, .val (.long p6), .second, .val (.int mA), .val (.int mi), .val (.long mw), .second, .val (.ref ra), .val (.ref rb), .val (.ref rp), .val (.int ev), .val (.long me), .second, .val (.long mI), .second, .val (.ref b6), .val (.ref b8)] [])) (fun t_ k_ => XS.ifNo X15.here hx rfl (hb hby at_208) rfl ((if0 _ _).trans (teq (lcw_eq rfl)).2) k_) ?_
  refine GoW.st (T' := T15) (g' := (mkF m 213 #[.val (.int p1), .val (.int p2), .val (.long p3), .second, .val (.int p4), .val (.long p5), .second, .val (.long p6), .second, .val (.int mA), .val (.int mi), .val (.long mw), .second, .val (.ref ra), .val (.ref rb), .val (.ref rp), .val (.int ev), .val (.long me), .second, .val (.long mI), .second, .val (.ref b6), .val (.ref b8)] [(.ref b8)])) (fun t_ k_ => XS.aload X15.here hx rfl (hb hby at_211) rfl rfl k_) ?_
  obtain ⟨cq16, kq16, q16a, q16b, q16c⟩ := isOf hZ e15 Eq8
  obtain ⟨_, _, ⟨T16, L16, k16, n16⟩, -, X16, ⟨Lc16, hQ16, l16, y16, z16⟩, st16⟩ := X15.virtualBack hx (y := (⟨"com/example/rollback_for_flows/rollbackforflows/connector/PoolingProfile", "evictionCheckIntervalMillis", "()J"⟩ : MethodName)) (z := (⟨"com/example/rollback_for_flows/rollbackforflows/connector/PoolingProfile", "evictionCheckIntervalMillis", "()J"⟩ : MethodName)) hown (mvT hZ (hw _ (List.mem_of_getElem? (i := 115) rfl))) (mvT hZ (hw _ (List.mem_of_getElem? (i := 116) rfl))) (notFace_of_selects (args := #[]) (mvT hZ (hw _ (List.mem_of_getElem? (i := 118) rfl)))) (mvT hZ (hw _ (List.mem_of_getElem? (i := 118) rfl))) (mvT hZ (hw _ (List.mem_of_getElem? (i := 117) rfl))) (by decide) (backOf (W := 0) (rm18 l Z a0 hw [] b8 mI T8.heap n0 (Nat.le_trans (Nat.le_trans (Nat.le_trans Z0 E6.1) Kq7.1) Kq8.1) F7q8) hZ (hw _ (List.mem_of_getElem? (i := 119) rfl)) (hw _ (List.mem_of_getElem? (i := 24) rfl)) (by decide) (by decide)) q16a q16c (g := (mkF m 213 #[.val (.int p1), .val (.int p2), .val (.long p3), .second, .val (.int p4), .val (.long p5), .second, .val (.long p6), .second, .val (.int mA), .val (.int mi), .val (.long mw), .second, .val (.ref ra), .val (.ref rb), .val (.ref rp), .val (.int ev), .val (.long me), .second, .val (.long mI), .second, .val (.ref b6), .val (.ref b8)] [(.ref b8)])) rfl (by rw [hml]; rfl) (Steps.refl _) (argsL := []) (rest := []) (lenOf pd_11 rfl) rfl (by show 2 * 0 + _ ≤ _; exact Nat.le_of_eq rfl) (hb hby at_213) (fun _ _ => ⟨rfl, e15, (by decide : 30 + 0 ≤ _), (by decide : 1008 + 0 ≤ _)⟩)
  dsimp only [Pt.U, Pt.locs, Pt.cells, Pt.slots] at X16 l16 y16 z16 st16 hQ16
  subst l16 y16 z16
  obtain ⟨rfl, Nq16, e16⟩ := hQ16
  have N16 := Fr.app N15 Nq16
  refine GoW.ts (T' := T16) (g' := (mkF m 216 #[.val (.int p1), .val (.int p2), .val (.long p3), .second, .val (.int p4), .val (.long p5), .second, .val (.long p6), .second, .val (.int mA), .val (.int mi), .val (.long mw), .second, .val (.ref ra), .val (.ref rb), .val (.ref rp), .val (.int ev), .val (.long me), .second, .val (.long mI), .second, .val (.ref b6), .val (.ref b8)] [(.long mI)])) st16 ?_
  refine GoW.st (T' := T16) (g' := (mkF m 218 #[.val (.int p1), .val (.int p2), .val (.long p3), .second, .val (.int p4), .val (.long p5), .second, .val (.long p6), .second, .val (.int mA), .val (.int mi), .val (.long mw), .second, .val (.ref ra), .val (.ref rb), .val (.ref rp), .val (.int ev), .val (.long me), .second, .val (.long mI), .second, .val (.ref b6), .val (.ref b8)] [(.long mI), (.long mI)])) (fun t_ k_ => XS.lload X16.here hx rfl (hb hby at_216) rfl  k_) ?_
  refine GoW.st (T' := T16) (g' := (mkF m 219 #[.val (.int p1), .val (.int p2), .val (.long p3), .second, .val (.int p4), .val (.long p5), .second, .val (.long p6), .second, .val (.int mA), .val (.int mi), .val (.long mw), .second, .val (.ref ra), .val (.ref rb), .val (.ref rp), .val (.int ev), .val (.long me), .second, .val (.long mI), .second, .val (.ref b6), .val (.ref b8)] [(.int (lcmpW mI mI))])) (fun t_ k_ => XS.lcmp X16.here hx rfl (hb hby at_218) rfl k_) ?_
  refine GoW.st (T' := T16) (g' := (mkF m 222 #[.val (.int p1), .val (.int p2), .val (.long p3), .second, .val (.int p4), .val (.long p5), .second, .val (.long p6), .second, .val (.int mA), .val (.int mi), .val (.long mw), .second, .val (.ref ra), .val (.ref rb), .val (.ref rp), .val (.int ev), .val (.long me), .second, .val (.long mI), .second, .val (.ref b6), .val (.ref b8)] [])) (fun t_ k_ => XS.ifNo X16.here hx rfl (hb hby at_219) rfl ((if0 _ _).trans (teq (lcw_eq rfl)).2) k_) ?_
  refine GoW.st (T' := T16) (g' := (mkF m 223 #[.val (.int p1), .val (.int p2), .val (.long p3), .second, .val (.int p4), .val (.long p5), .second, .val (.long p6), .second, .val (.int mA), .val (.int mi), .val (.long mw), .second, .val (.ref ra), .val (.ref rb), .val (.ref rp), .val (.int ev), .val (.long me), .second, .val (.long mI), .second, .val (.ref b6), .val (.ref b8)] [(.int (1 : Int32))])) (fun t_ k_ => XS.iconst X16.here hx rfl (hb hby at_222) k_) ?_
  refine GoW.st (T' := T16) (g' := (mkF m 227 #[.val (.int p1), .val (.int p2), .val (.long p3), .second, .val (.int p4), .val (.long p5), .second, .val (.long p6), .second, .val (.int mA), .val (.int mi), .val (.long mw), .second, .val (.ref ra), .val (.ref rb), .val (.ref rp), .val (.int ev), .val (.long me), .second, .val (.long mI), .second, .val (.ref b6), .val (.ref b8)] [(.int (1 : Int32))])) (fun t_ k_ => XS.goto X16.here hx rfl (pc0 := 223) (pc' := 227) rfl (hb hby at_223) (by decide) (by decide) k_) ?_
  refine GoW.retB X16 hx Bd.returns hlk hS8 (by rw [e16]; exact (Nat.le_refl _)) (t := .boolean) (by simp) (hb hby at_227) (by decide) (by decide) ?_
  rw [e16]
  exact ⟨rfl, N16⟩
set_option maxRecDepth 65536 in
set_option maxHeartbeats 40000000 in
theorem comes_1 {Post : Tables → Env → Array Value → State → Outcome → State → Prop} (hpost : ∀ tb e args s v u, (limb_1_1.after args s (.returned v) u = true ∧ limb_1_2.after args s (.returned v) u = true ∧ True) → ReturnedEndW s (.returned v) u (Jvm.fieldLocs frame_1_writes args s ++ Jvm.arrayLocs frame_1_arrays args s ++ Jvm.staticLocs frame_1_statics s) 32 7296 → Post tb e args s (.returned v) u) :
    ArmFor flags0 classFile x code maxLocals ret World_1 tables_1 room_1 Calls_1 rest_1 Pre_1 Post := by
  intro l hfl _ _ p e ha hc hk s m args below hf hA hF happ hP
  obtain ⟨hcalls, hrest, hpre⟩ := hP
  obtain ⟨-, -, -, hnamed, -, -, -, hat⟩ := (Spec.applies_iff hf).mp happ
  obtain ⟨hg, hn⟩ := and_e (Cond.before_iff.mp (show (Jvm.Cond.and given_1 narrow_1).before args s = true from hpre))
  obtain ⟨ga0, gar0⟩ := and_e hg
  obtain ⟨ga1, gar1⟩ := and_e gar0
  obtain ⟨ga2, gar2⟩ := and_e gar1
  obtain ⟨ga3, gar3⟩ := and_e gar2
  obtain ⟨ga4, gar4⟩ := and_e gar3
  obtain ⟨ga5, gar5⟩ := and_e gar4
  obtain ⟨v0, v1, v2, v3, v4, v5, rfl⟩ : ∃ v0 v1 v2 v3 v4 v5 : Value, args = #[v0, v1, v2, v3, v4, v5] := by
    have hs : args.size = 6 := by simpa [Cond.value, given_1] using ga0
    obtain ⟨L⟩ := args
    match L, hs with
    | [v0, v1, v2, v3, v4, v5], _ => exact ⟨v0, v1, v2, v3, v4, v5, rfl⟩
  have hw := fun d (hd : d ∈ tables_1) => atoms_spec (ws := Jvm.Cond.code x code maxLocals ret :: tables_1) hat d (List.mem_cons_of_mem _ hd)
  have hfit : Fit s := fun {y c} hc i hi => by
    obtain ⟨ha, rfl⟩ := Array.getElem?_eq_some_iff.mp hc
    have q := List.all_eq_true.mp ((Array.all_eq_true_iff_forall_mem.mp hF) _ (Array.getElem_mem ha)) i (List.mem_range.mpr hi)
    simpa [Array.getElem?_eq_getElem hi] using q
  obtain ⟨i0, ei0⟩ := is_v ga1
  obtain rfl : v0 = (.int i0) := Option.some.inj ei0
  obtain ⟨i1, ei1⟩ := is_v ga2
  obtain rfl : v1 = (.int i1) := Option.some.inj ei1
  obtain ⟨i2, ei2⟩ := isL_v ga3
  obtain rfl : v2 = (.long i2) := Option.some.inj ei2
  obtain ⟨i3, ei3⟩ := is_v ga4
  obtain rfl : v3 = (.int i3) := Option.some.inj ei3
  obtain ⟨i4, ei4⟩ := isL_v ga5
  obtain rfl : v4 = (.long i4) := Option.some.inj ei4
  obtain ⟨i5, ei5⟩ := isL_v gar5
  obtain rfl : v5 = (.long i5) := Option.some.inj ei5
  obtain ⟨na0, nar0⟩ := and_e hn
  obtain ⟨na1, nar1⟩ := and_e nar0
  obtain ⟨na2, nar2⟩ := and_e nar1
  obtain ⟨na3, nar3⟩ := and_e nar2
  obtain ⟨na4, nar4⟩ := and_e nar3
  obtain ⟨w_WAIT, ev_WAIT⟩ := exa_v na0
  have S_WAIT := Sta.start ev_WAIT (Or.inr ⟨(hw _ (List.mem_of_getElem? (i := 11) rfl)), (hw _ (List.mem_of_getElem? (i := 12) rfl))⟩)
  have E_WAIT := exa_at ev_WAIT na0
  obtain ⟨w_NONE, ev_NONE⟩ := exa_v na1
  have S_NONE := Sta.start ev_NONE (Or.inr ⟨(hw _ (List.mem_of_getElem? (i := 17) rfl)), (hw _ (List.mem_of_getElem? (i := 18) rfl))⟩)
  have E_NONE := exa_at ev_NONE na1
  obtain ⟨w_FAIL, ev_FAIL⟩ := exa_v na2
  have S_FAIL := Sta.start ev_FAIL (Or.inr ⟨(hw _ (List.mem_of_getElem? (i := 11) rfl)), (hw _ (List.mem_of_getElem? (i := 121) rfl))⟩)
  have E_FAIL := exa_at ev_FAIL na2
  obtain ⟨w_GROW, ev_GROW⟩ := exa_v na3
  have S_GROW := Sta.start ev_GROW (Or.inr ⟨(hw _ (List.mem_of_getElem? (i := 11) rfl)), (hw _ (List.mem_of_getElem? (i := 123) rfl))⟩)
  have E_GROW := exa_at ev_GROW na3
  obtain ⟨w_ALL, ev_ALL⟩ := exa_v na4
  have S_ALL := Sta.start ev_ALL (Or.inr ⟨(hw _ (List.mem_of_getElem? (i := 17) rfl)), (hw _ (List.mem_of_getElem? (i := 125) rfl))⟩)
  have E_ALL := exa_at ev_ALL na4
  obtain ⟨w_ONE, ev_ONE⟩ := exa_v nar4
  have S_ONE := Sta.start ev_ONE (Or.inr ⟨(hw _ (List.mem_of_getElem? (i := 17) rfl)), (hw _ (List.mem_of_getElem? (i := 127) rfl))⟩)
  have E_ONE := exa_at ev_ONE nar4
  obtain ⟨n, o, h1, h2, h3, _, L, rfl, ⟨rfl, N⟩, hq⟩ := rm0 l s _ hw tables_1 i0 i1 i2 i3 i4 i5 w_WAIT w_FAIL w_GROW w_NONE w_ONE w_ALL s.heap s.heap.size (Nat.le_refl _) S_WAIT S_FAIL S_GROW S_NONE S_ONE S_ALL p e ha hc hk s m _ below hf ((Spec.applies_iff_loose hf).mp happ).1 ⟨rfl, State.Warmed39.refl s, rfl⟩ trivial
  refine ⟨n, _, h1, h2, h3, hpost _ _ _ _ _ _ ⟨Cond.after_iff.mpr rfl, Cond.after_iff.mpr (eq_i res_at (Term.int_eval (1)) rfl), trivial⟩ ⟨hq.1, hq.2.1, hq.2.2.1, (hq.2.2.2.sift fun y hy => Or.inr (N y hy)).mono (by decide) (by decide)⟩⟩
theorem main_1_1 : Claimed_1_1 := comes_1 fun _ _ _ _ _ _ h hF => ⟨h.1, hF⟩
theorem main_1_2 : Claimed_1_2 := comes_1 fun _ _ _ _ _ _ h hF => ⟨h.2.1, hF⟩
end Jvm.Pilot.@@N@@
namespace Jvm.Pilot.@@N@@
open Jvm Jvm.ClassFile Sem Op Lib Jvm.Free Jvm.Stand Jvm.Pilot.@@N@@.Jvm.D
/-! MADE BY PROGRAM (witnessworld.py) out of the Statement's table words and the real class files: 20 classes; the members and pool entries that the words name. The judged class is class 1, her method 3. -/
namespace start1
open Jvm.ClassFile
def u (s : String) : CpInfo := .utf8 (stringToUtf16 s)
/-- a pool by its gaps: so many unusable entries, then the entry; so many at the end -/
def gap : Nat → List CpInfo → List CpInfo
  | 0, r => r
  | n + 1, r => .unusable :: gap n r
def poolList (es : List (Nat × CpInfo)) (last : Nat) : List CpInfo := es.foldr (fun e r => gap e.1 (e.2 :: r)) (gap last [])
def pool (es : List (Nat × CpInfo)) (last : Nat) : Array CpInfo := ⟨poolList es last⟩
def fileOf (pool : Array CpInfo) (this : Nat) (attrs : Array Attribute := #[]) (ms : Array MethodInfo := #[]) (fl : Nat := 33) (sup : Nat := 0) (ifs : Array Nat := #[]) (fds : Array FieldInfo := #[]) : ClassFile where
  minorVersion := 0
  majorVersion := 65
  constantPool := pool
  accessFlags := fl
  thisClass := this
  superClass := sup
  interfaces := ifs
  fields := fds
  methods := ms
  attributes := attrs
def plain (name : String) (sup : Option ClassId) : Class where
  name := name
  kind := .ordinary
  loader := none
  accessFlags := 33
  super := sup
  interfaces := #[]
  cf := none
  fields := #[]
  methods := #[]
  instanceTypes := #[]
  staticTypes := #[]
  resolved := #[]
  callSites := []
  init := .initialized
  statics := none
  mirror := none

def pool0 : Array CpInfo := pool [(5, u "<init>"), (0, u "()V"), (1, .class_ 10), (1, u "java/lang/Object")] 113

def k0c0 : Code := { maxStack := 0, maxLocals := 1, code := object_method_1_code, exceptionTable := #[], attributes := #[] }
def k0m0 : Method := { name := "<init>", desc := "()V", sig := { parameters := [], returnType := none }, accessFlags := 1, code := some k0c0 }
/-- java/lang/Object -/
def k0 : Class := { plain "java/lang/Object" none with
  accessFlags := 33
  interfaces := #[]
  cf := some (fileOf pool0 8 #[] #[{ accessFlags := 1, nameIndex := 5, descriptorIndex := 6, attributes := #[] }] 33 0 #[] #[])
  fields := #[]
  methods := #[k0m0]
  instanceTypes := #[]
  staticTypes := #[]
  resolved := Array.replicate 124 none
  statics := none }

def pool1 : Array CpInfo := pool [(2, .class_ 4), (1, u "java/lang/Object"), (0, u "<init>"), (0, u "()V"), (0, .fieldref 8 9), (0, .class_ 10), (0, .nameAndType 11 12), (0, u "com/example/rollback_for_flows/rollbackforflows/connector/PoolingProfile$ExhaustedAction"), (0, u "WAIT"), (0, u "Lcom/example/rollback_for_flows/rollbackforflows/connector/PoolingProfile$ExhaustedAction;"), (0, .fieldref 8 14), (0, .nameAndType 15 12), (0, u "FAIL"), (0, .fieldref 8 17), (0, .nameAndType 18 12), (0, u "GROW"), (0, .fieldref 20 21), (0, .class_ 22), (0, .nameAndType 23 24), (0, u "com/example/rollback_for_flows/rollbackforflows/connector/PoolingProfile$InitialisationPolicy"), (0, u "NONE"), (0, u "Lcom/example/rollback_for_flows/rollbackforflows/connector/PoolingProfile$InitialisationPolicy;"), (0, .fieldref 20 26), (0, .nameAndType 27 24), (0, u "ONE"), (0, .fieldref 20 29), (0, .nameAndType 30 24), (0, u "ALL"), (0, .integer 2147483647), (0, .methodref 33 34), (0, .class_ 35), (0, .nameAndType 36 37), (0, u "java/lang/Math"), (0, u "max"), (0, u "(II)I"), (2, .long 9223372036854775807), (1, .methodref 43 44), (0, .class_ 45), (0, .nameAndType 46 47), (0, u "com/example/rollback_for_flows/rollbackforflows/connector/PoolingProfileWithExhaustedActionPinLaw"), (0, u "action"), (0, u "(I)Lcom/example/rollback_for_flows/rollbackforflows/connector/PoolingProfile$ExhaustedAction;"), (0, .methodref 43 49), (0, .nameAndType 50 51), (0, u "policy"), (0, u "(I)Lcom/example/rollback_for_flows/rollbackforflows/connector/PoolingProfile$InitialisationPolicy;"), (0, .methodref 33 53), (0, .nameAndType 36 54), (0, u "(JJ)J"), (0, .class_ 56), (0, u "com/example/rollback_for_flows/rollbackforflows/connector/PoolingProfile"), (0, .methodref 55 58), (0, .nameAndType 5 59), (0, u "(IIJLcom/example/rollback_for_flows/rollbackforflows/connector/PoolingProfile$ExhaustedAction;Lcom/example/rollback_for_flows/rollbackforflows/connector/PoolingProfile$InitialisationPolicy;ZJJ)V"), (0, .methodref 55 61), (0, .nameAndType 62 63), (0, u "withExhaustedAction"), (0, u "(Lcom/example/rollback_for_flows/rollbackforflows/connector/PoolingProfile$ExhaustedAction;)Lcom/example/rollback_for_flows/rollbackforflows/connector/PoolingProfile;"), (0, .methodref 55 65), (0, .nameAndType 66 67), (0, u "exhaustedAction"), (0, u "()Lcom/example/rollback_for_flows/rollbackforflows/connector/PoolingProfile$ExhaustedAction;"), (0, .methodref 55 69), (0, .nameAndType 70 71), (0, u "maxActive"), (0, u "()I"), (0, .methodref 55 73), (0, .nameAndType 74 71), (0, u "maxIdle"), (0, .methodref 55 76), (0, .nameAndType 77 78), (0, u "maxWaitMillis"), (0, u "()J"), (0, .methodref 55 80), (0, .nameAndType 81 82), (0, u "initialisationPolicy"), (0, u "()Lcom/example/rollback_for_flows/rollbackforflows/connector/PoolingProfile$InitialisationPolicy;"), (0, .methodref 55 84), (0, .nameAndType 85 86), (0, u "evicts"), (0, u "()Z"), (0, .methodref 55 88), (0, .nameAndType 89 78), (0, u "minEvictionMillis"), (0, .methodref 55 91), (0, .nameAndType 92 78), (0, u "evictionCheckIntervalMillis"), (3, u "law"), (0, u "(IIJIJJ)Z")] 5

def k1m0 : Method := { name := "<init>", desc := "()V", sig := { parameters := [], returnType := none }, accessFlags := 1, code := none }
def k1c1 : Code := { maxStack := 2, maxLocals := 1, code := method_2_code, exceptionTable := #[], attributes := #[] }
def k1m1 : Method := { name := "action", desc := "(I)Lcom/example/rollback_for_flows/rollbackforflows/connector/PoolingProfile$ExhaustedAction;", sig := { parameters := [.int], returnType := some (.object "com/example/rollback_for_flows/rollbackforflows/connector/PoolingProfile$ExhaustedAction") }, accessFlags := 10, code := some k1c1 }
def k1c2 : Code := { maxStack := 2, maxLocals := 1, code := method_3_code, exceptionTable := #[], attributes := #[] }
def k1m2 : Method := { name := "policy", desc := "(I)Lcom/example/rollback_for_flows/rollbackforflows/connector/PoolingProfile$InitialisationPolicy;", sig := { parameters := [.int], returnType := some (.object "com/example/rollback_for_flows/rollbackforflows/connector/PoolingProfile$InitialisationPolicy") }, accessFlags := 10, code := some k1c2 }
def k1c3 : Code := { maxStack := 13, maxLocals := 23, code := code, exceptionTable := #[], attributes := #[] }
def k1m3 : Method := { name := "law", desc := "(IIJIJJ)Z", sig := { parameters := [.int, .int, .long, .int, .long, .long], returnType := some .boolean }, accessFlags := 9, code := some k1c3 }
/-- com/example/rollback_for_flows/rollbackforflows/connector/PoolingProfileWithExhaustedActionPinLaw -/
def k1 : Class := { plain "com/example/rollback_for_flows/rollbackforflows/connector/PoolingProfileWithExhaustedActionPinLaw" (some 0) with
  accessFlags := 49
  interfaces := #[]
  cf := some (fileOf pool1 43 #[] #[{ accessFlags := 1, nameIndex := 5, descriptorIndex := 6, attributes := #[] }, { accessFlags := 10, nameIndex := 46, descriptorIndex := 47, attributes := #[] }, { accessFlags := 10, nameIndex := 50, descriptorIndex := 51, attributes := #[] }, { accessFlags := 9, nameIndex := 96, descriptorIndex := 97, attributes := #[] }] 49 2 #[] #[])
  fields := #[]
  methods := #[k1m0, k1m1, k1m2, k1m3]
  instanceTypes := #[]
  staticTypes := #[]
  resolved := Array.replicate 103 none
  statics := none }

def pool2 : Array CpInfo := pool [(1, .class_ 2), (0, u "java/lang/Math"), (1, .class_ 6), (1, u "java/lang/Object"), (0, u "<init>"), (0, u "()V"), (89, .class_ 100), (1, u "java/lang/Math$RandomNumberGeneratorHolder"), (20, u "(JJ)J"), (50, u "negativeZeroFloatBits"), (0, u "J"), (2, u "negativeZeroDoubleBits"), (21, u "max"), (46, u "$assertionsDisabled"), (0, u "Z"), (88, u "(II)I"), (2, u "twoToTheDoubleScaleDown"), (0, u "D"), (4, u "twoToTheDoubleScaleUp"), (9, u "E"), (3, u "PI"), (2, u "TAU"), (2, u "DEGREES_TO_RADIANS"), (0, u "RADIANS_TO_DEGREES")] 94

def k2m0 : Method := { name := "<init>", desc := "()V", sig := { parameters := [], returnType := none }, accessFlags := 2, code := none }
def k2c1 : Code := { maxStack := 2, maxLocals := 2, code := jdk_29_method_65_code, exceptionTable := #[], attributes := #[] }
def k2m1 : Method := { name := "max", desc := "(II)I", sig := { parameters := [.int, .int], returnType := some .int }, accessFlags := 9, code := some k2c1 }
def k2c2 : Code := { maxStack := 4, maxLocals := 4, code := jdk_29_method_66_code, exceptionTable := #[], attributes := #[] }
def k2m2 : Method := { name := "max", desc := "(JJ)J", sig := { parameters := [.long, .long], returnType := some .long }, accessFlags := 9, code := some k2c2 }
/-- java/lang/Math -/
def k2 : Class := { plain "java/lang/Math" (some 0) with
  accessFlags := 49
  interfaces := #[]
  cf := some (fileOf pool2 1 #[.nestMembers #[98]] #[{ accessFlags := 2, nameIndex := 7, descriptorIndex := 8, attributes := #[] }, { accessFlags := 9, nameIndex := 198, descriptorIndex := 335, attributes := #[] }, { accessFlags := 9, nameIndex := 198, descriptorIndex := 121, attributes := #[] }] 49 4 #[] #[{ accessFlags := 25, nameIndex := 354, descriptorIndex := 339, attributes := #[] }, { accessFlags := 25, nameIndex := 358, descriptorIndex := 339, attributes := #[] }, { accessFlags := 25, nameIndex := 361, descriptorIndex := 339, attributes := #[] }, { accessFlags := 26, nameIndex := 364, descriptorIndex := 339, attributes := #[] }, { accessFlags := 26, nameIndex := 365, descriptorIndex := 339, attributes := #[] }, { accessFlags := 26, nameIndex := 172, descriptorIndex := 173, attributes := #[] }, { accessFlags := 26, nameIndex := 176, descriptorIndex := 173, attributes := #[] }, { accessFlags := 8, nameIndex := 344, descriptorIndex := 339, attributes := #[] }, { accessFlags := 8, nameIndex := 338, descriptorIndex := 339, attributes := #[] }, { accessFlags := 4120, nameIndex := 245, descriptorIndex := 246, attributes := #[] }])
  fields := #[{ name := "E", type := .double, accessFlags := 25, slot := 0, constantValue := 0 }, { name := "PI", type := .double, accessFlags := 25, slot := 1, constantValue := 0 }, { name := "TAU", type := .double, accessFlags := 25, slot := 2, constantValue := 0 }, { name := "DEGREES_TO_RADIANS", type := .double, accessFlags := 26, slot := 3, constantValue := 0 }, { name := "RADIANS_TO_DEGREES", type := .double, accessFlags := 26, slot := 4, constantValue := 0 }, { name := "negativeZeroFloatBits", type := .long, accessFlags := 26, slot := 5, constantValue := 0 }, { name := "negativeZeroDoubleBits", type := .long, accessFlags := 26, slot := 6, constantValue := 0 }, { name := "twoToTheDoubleScaleUp", type := .double, accessFlags := 8, slot := 7, constantValue := 0 }, { name := "twoToTheDoubleScaleDown", type := .double, accessFlags := 8, slot := 8, constantValue := 0 }, { name := "$assertionsDisabled", type := .boolean, accessFlags := 4120, slot := 9, constantValue := 0 }]
  methods := #[k2m0, k2m1, k2m2]
  instanceTypes := #[]
  staticTypes := #[.double, .double, .double, .double, .double, .long, .long, .double, .double, .boolean]
  resolved := Array.replicate 460 none
  statics := none }

def pool3 : Array CpInfo := pool [(1, .class_ 2), (0, u "java/lang/constant/Constable"), (0, .class_ 4), (0, u "java/lang/Object")] 6

/-- java/lang/constant/Constable -/
def k3 : Class := { plain "java/lang/constant/Constable" (some 0) with
  accessFlags := 1537
  interfaces := #[]
  cf := some (fileOf pool3 1 #[] #[] 1537 3 #[] #[])
  fields := #[]
  methods := #[]
  instanceTypes := #[]
  staticTypes := #[]
  resolved := Array.replicate 11 none
  statics := none }

def pool4 : Array CpInfo := pool [(1, .class_ 2), (0, u "java/lang/Comparable"), (0, .class_ 4), (0, u "java/lang/Object")] 7

/-- java/lang/Comparable -/
def k4 : Class := { plain "java/lang/Comparable" (some 0) with
  accessFlags := 1537
  interfaces := #[]
  cf := some (fileOf pool4 1 #[] #[] 1537 3 #[] #[])
  fields := #[]
  methods := #[]
  instanceTypes := #[]
  staticTypes := #[]
  resolved := Array.replicate 12 none
  statics := none }

def pool5 : Array CpInfo := pool [(1, .class_ 2), (0, u "java/io/Serializable"), (0, .class_ 4), (0, u "java/lang/Object")] 2

/-- java/io/Serializable -/
def k5 : Class := { plain "java/io/Serializable" (some 0) with
  accessFlags := 1537
  interfaces := #[]
  cf := some (fileOf pool5 1 #[] #[] 1537 3 #[] #[])
  fields := #[]
  methods := #[]
  instanceTypes := #[]
  staticTypes := #[]
  resolved := Array.replicate 7 none
  statics := none }

def pool6 : Array CpInfo := pool [(2, .class_ 4), (1, u "java/lang/Enum"), (0, u "name"), (0, u "Ljava/lang/String;"), (2, u "ordinal"), (0, u "I"), (1, .class_ 14), (1, u "java/lang/Object"), (4, u "hash"), (86, .class_ 108), (1, u "java/lang/Enum$EnumDesc"), (2, .class_ 112), (0, u "java/lang/constant/Constable"), (0, .class_ 114), (0, u "java/lang/Comparable"), (0, .class_ 116), (0, u "java/io/Serializable")] 87

/-- java/lang/Enum -/
def k6 : Class := { plain "java/lang/Enum" (some 0) with
  accessFlags := 1057
  interfaces := #[3, 4, 5]
  cf := some (fileOf pool6 2 #[.nestMembers #[106]] #[] 1057 12 #[111, 113, 115] #[{ accessFlags := 18, nameIndex := 5, descriptorIndex := 6, attributes := #[] }, { accessFlags := 18, nameIndex := 9, descriptorIndex := 10, attributes := #[] }, { accessFlags := 2, nameIndex := 19, descriptorIndex := 10, attributes := #[] }])
  fields := #[{ name := "name", type := (.object "java/lang/String"), accessFlags := 18, slot := 0, constantValue := 0 }, { name := "ordinal", type := .int, accessFlags := 18, slot := 1, constantValue := 0 }, { name := "hash", type := .int, accessFlags := 2, slot := 2, constantValue := 0 }]
  methods := #[]
  instanceTypes := #[(.object "java/lang/String"), .int, .int]
  staticTypes := #[]
  resolved := Array.replicate 204 none
  statics := none }

def pool7 : Array CpInfo := pool [(1, .class_ 2), (0, u "com/example/rollback_for_flows/rollbackforflows/connector/PoolingProfile$ExhaustedAction"), (2, u "WAIT"), (0, u "Lcom/example/rollback_for_flows/rollbackforflows/connector/PoolingProfile$ExhaustedAction;"), (2, u "FAIL"), (2, u "GROW"), (2, u "$VALUES"), (0, u "[Lcom/example/rollback_for_flows/rollbackforflows/connector/PoolingProfile$ExhaustedAction;"), (6, .class_ 25), (1, u "java/lang/Enum"), (26, .class_ 53), (0, u "com/example/rollback_for_flows/rollbackforflows/connector/PoolingProfile")] 2

/-- com/example/rollback_for_flows/rollbackforflows/connector/PoolingProfile$ExhaustedAction -/
def k7 : Class := { plain "com/example/rollback_for_flows/rollbackforflows/connector/PoolingProfile$ExhaustedAction" (some 6) with
  accessFlags := 16433
  interfaces := #[]
  cf := some (fileOf pool7 1 #[.nestHost 52] #[] 16433 23 #[] #[{ accessFlags := 16409, nameIndex := 5, descriptorIndex := 6, attributes := #[] }, { accessFlags := 16409, nameIndex := 9, descriptorIndex := 6, attributes := #[] }, { accessFlags := 16409, nameIndex := 12, descriptorIndex := 6, attributes := #[] }, { accessFlags := 4122, nameIndex := 15, descriptorIndex := 16, attributes := #[] }])
  fields := #[{ name := "WAIT", type := (.object "com/example/rollback_for_flows/rollbackforflows/connector/PoolingProfile$ExhaustedAction"), accessFlags := 16409, slot := 0, constantValue := 0 }, { name := "FAIL", type := (.object "com/example/rollback_for_flows/rollbackforflows/connector/PoolingProfile$ExhaustedAction"), accessFlags := 16409, slot := 1, constantValue := 0 }, { name := "GROW", type := (.object "com/example/rollback_for_flows/rollbackforflows/connector/PoolingProfile$ExhaustedAction"), accessFlags := 16409, slot := 2, constantValue := 0 }, { name := "$VALUES", type := (.array (.object "com/example/rollback_for_flows/rollbackforflows/connector/PoolingProfile$ExhaustedAction")), accessFlags := 4122, slot := 3, constantValue := 0 }]
  methods := #[]
  instanceTypes := #[(.object "java/lang/String"), .int, .int]
  staticTypes := #[(.object "com/example/rollback_for_flows/rollbackforflows/connector/PoolingProfile$ExhaustedAction"), (.object "com/example/rollback_for_flows/rollbackforflows/connector/PoolingProfile$ExhaustedAction"), (.object "com/example/rollback_for_flows/rollbackforflows/connector/PoolingProfile$ExhaustedAction"), (.array (.object "com/example/rollback_for_flows/rollbackforflows/connector/PoolingProfile$ExhaustedAction"))]
  resolved := Array.replicate 56 none
  statics := some 0 }

def pool8 : Array CpInfo := pool [(1, .class_ 2), (0, u "com/example/rollback_for_flows/rollbackforflows/connector/PoolingProfile$InitialisationPolicy"), (2, u "NONE"), (0, u "Lcom/example/rollback_for_flows/rollbackforflows/connector/PoolingProfile$InitialisationPolicy;"), (2, u "ONE"), (2, u "ALL"), (2, u "$VALUES"), (0, u "[Lcom/example/rollback_for_flows/rollbackforflows/connector/PoolingProfile$InitialisationPolicy;"), (6, .class_ 25), (1, u "java/lang/Enum"), (26, .class_ 53), (0, u "com/example/rollback_for_flows/rollbackforflows/connector/PoolingProfile")] 2

/-- com/example/rollback_for_flows/rollbackforflows/connector/PoolingProfile$InitialisationPolicy -/
def k8 : Class := { plain "com/example/rollback_for_flows/rollbackforflows/connector/PoolingProfile$InitialisationPolicy" (some 6) with
  accessFlags := 16433
  interfaces := #[]
  cf := some (fileOf pool8 1 #[.nestHost 52] #[] 16433 23 #[] #[{ accessFlags := 16409, nameIndex := 5, descriptorIndex := 6, attributes := #[] }, { accessFlags := 16409, nameIndex := 9, descriptorIndex := 6, attributes := #[] }, { accessFlags := 16409, nameIndex := 12, descriptorIndex := 6, attributes := #[] }, { accessFlags := 4122, nameIndex := 15, descriptorIndex := 16, attributes := #[] }])
  fields := #[{ name := "NONE", type := (.object "com/example/rollback_for_flows/rollbackforflows/connector/PoolingProfile$InitialisationPolicy"), accessFlags := 16409, slot := 0, constantValue := 0 }, { name := "ONE", type := (.object "com/example/rollback_for_flows/rollbackforflows/connector/PoolingProfile$InitialisationPolicy"), accessFlags := 16409, slot := 1, constantValue := 0 }, { name := "ALL", type := (.object "com/example/rollback_for_flows/rollbackforflows/connector/PoolingProfile$InitialisationPolicy"), accessFlags := 16409, slot := 2, constantValue := 0 }, { name := "$VALUES", type := (.array (.object "com/example/rollback_for_flows/rollbackforflows/connector/PoolingProfile$InitialisationPolicy")), accessFlags := 4122, slot := 3, constantValue := 0 }]
  methods := #[]
  instanceTypes := #[(.object "java/lang/String"), .int, .int]
  staticTypes := #[(.object "com/example/rollback_for_flows/rollbackforflows/connector/PoolingProfile$InitialisationPolicy"), (.object "com/example/rollback_for_flows/rollbackforflows/connector/PoolingProfile$InitialisationPolicy"), (.object "com/example/rollback_for_flows/rollbackforflows/connector/PoolingProfile$InitialisationPolicy"), (.array (.object "com/example/rollback_for_flows/rollbackforflows/connector/PoolingProfile$InitialisationPolicy"))]
  resolved := Array.replicate 56 none
  statics := some 1 }

def pool9 : Array CpInfo := pool [(1, .methodref 2 3), (0, .class_ 4), (0, .nameAndType 5 6), (0, u "java/lang/Object"), (0, u "<init>"), (0, u "()V"), (0, .class_ 8), (0, u "java/lang/Record")] 13

def k9c0 : Code := { maxStack := 1, maxLocals := 1, code := jdk_30_method_1_code, exceptionTable := #[], attributes := #[] }
def k9m0 : Method := { name := "<init>", desc := "()V", sig := { parameters := [], returnType := none }, accessFlags := 4, code := some k9c0 }
/-- java/lang/Record -/
def k9 : Class := { plain "java/lang/Record" (some 0) with
  accessFlags := 1057
  interfaces := #[]
  cf := some (fileOf pool9 7 #[] #[{ accessFlags := 4, nameIndex := 5, descriptorIndex := 6, attributes := #[] }] 1057 2 #[] #[])
  fields := #[]
  methods := #[k9m0]
  instanceTypes := #[]
  staticTypes := #[]
  resolved := Array.replicate 22 none
  statics := none }

def pool10 : Array CpInfo := pool [(1, .methodref 2 3), (0, .class_ 4), (0, .nameAndType 5 6), (0, u "java/lang/Record"), (0, u "<init>"), (0, u "()V"), (0, .string 8), (0, u "exhaustedAction"), (0, .methodref 10 11), (0, .class_ 12), (0, .nameAndType 13 14), (0, u "java/util/Objects"), (0, u "requireNonNull"), (0, u "(Ljava/lang/Object;Ljava/lang/String;)Ljava/lang/Object;"), (0, .string 16), (0, u "initialisationPolicy"), (0, .string 18), (0, u "max active"), (0, .methodref 20 21), (0, .class_ 22), (0, .nameAndType 23 24), (0, u "com/example/rollback_for_flows/rollbackforflows/connector/PoolingProfile"), (0, u "requireAtLeast"), (0, u "(JJLjava/lang/String;)V"), (0, .string 26), (0, u "max idle"), (0, .string 28), (0, u "max wait millis"), (0, .string 30), (0, u "min eviction millis"), (0, .string 32), (0, u "eviction check interval millis"), (0, .fieldref 20 34), (0, .nameAndType 35 36), (0, u "maxActive"), (0, u "I"), (0, .fieldref 20 38), (0, .nameAndType 39 36), (0, u "maxIdle"), (0, .fieldref 20 41), (0, .nameAndType 42 43), (0, u "maxWaitMillis"), (0, u "J"), (0, .fieldref 20 45), (0, .nameAndType 8 46), (0, u "Lcom/example/rollback_for_flows/rollbackforflows/connector/PoolingProfile$ExhaustedAction;"), (0, .fieldref 20 48), (0, .nameAndType 16 49), (0, u "Lcom/example/rollback_for_flows/rollbackforflows/connector/PoolingProfile$InitialisationPolicy;"), (0, .fieldref 20 51), (0, .nameAndType 52 53), (0, u "evicts"), (0, u "Z"), (0, .fieldref 20 55), (0, .nameAndType 56 43), (0, u "minEvictionMillis"), (0, .fieldref 20 58), (0, .nameAndType 59 43), (0, u "evictionCheckIntervalMillis"), (2, u "DEFAULTS"), (0, u "Lcom/example/rollback_for_flows/rollbackforflows/connector/PoolingProfile;"), (0, .methodref 20 65), (0, .nameAndType 5 66), (0, u "(IIJLcom/example/rollback_for_flows/rollbackforflows/connector/PoolingProfile$ExhaustedAction;Lcom/example/rollback_for_flows/rollbackforflows/connector/PoolingProfile$InitialisationPolicy;ZJJ)V"), (36, .class_ 105), (1, u "com/example/rollback_for_flows/rollbackforflows/connector/PoolingProfile$ExhaustedAction"), (2, .class_ 110), (1, u "com/example/rollback_for_flows/rollbackforflows/connector/PoolingProfile$InitialisationPolicy"), (15, u "withExhaustedAction"), (0, u "(Lcom/example/rollback_for_flows/rollbackforflows/connector/PoolingProfile$ExhaustedAction;)Lcom/example/rollback_for_flows/rollbackforflows/connector/PoolingProfile;"), (7, u "()I"), (1, u "()J"), (0, u "()Lcom/example/rollback_for_flows/rollbackforflows/connector/PoolingProfile$ExhaustedAction;"), (0, u "()Lcom/example/rollback_for_flows/rollbackforflows/connector/PoolingProfile$InitialisationPolicy;"), (0, u "()Z")] 31

def k10c0 : Code := { maxStack := 5, maxLocals := 12, code := prog_31_method_1_code, exceptionTable := #[], attributes := #[] }
def k10m0 : Method := { name := "<init>", desc := "(IIJLcom/example/rollback_for_flows/rollbackforflows/connector/PoolingProfile$ExhaustedAction;Lcom/example/rollback_for_flows/rollbackforflows/connector/PoolingProfile$InitialisationPolicy;ZJJ)V", sig := { parameters := [.int, .int, .long, (.object "com/example/rollback_for_flows/rollbackforflows/connector/PoolingProfile$ExhaustedAction"), (.object "com/example/rollback_for_flows/rollbackforflows/connector/PoolingProfile$InitialisationPolicy"), .boolean, .long, .long], returnType := none }, accessFlags := 1, code := some k10c0 }
def k10c1 : Code := { maxStack := 13, maxLocals := 2, code := prog_31_method_6_code, exceptionTable := #[], attributes := #[] }
def k10m1 : Method := { name := "withExhaustedAction", desc := "(Lcom/example/rollback_for_flows/rollbackforflows/connector/PoolingProfile$ExhaustedAction;)Lcom/example/rollback_for_flows/rollbackforflows/connector/PoolingProfile;", sig := { parameters := [(.object "com/example/rollback_for_flows/rollbackforflows/connector/PoolingProfile$ExhaustedAction")], returnType := some (.object "com/example/rollback_for_flows/rollbackforflows/connector/PoolingProfile") }, accessFlags := 1, code := some k10c1 }
def k10c2 : Code := { maxStack := 8, maxLocals := 5, code := prog_31_method_10_code, exceptionTable := #[], attributes := #[] }
def k10m2 : Method := { name := "requireAtLeast", desc := "(JJLjava/lang/String;)V", sig := { parameters := [.long, .long, (.object "java/lang/String")], returnType := none }, accessFlags := 10, code := some k10c2 }
def k10c3 : Code := { maxStack := 1, maxLocals := 1, code := prog_31_method_14_code, exceptionTable := #[], attributes := #[] }
def k10m3 : Method := { name := "maxActive", desc := "()I", sig := { parameters := [], returnType := some .int }, accessFlags := 1, code := some k10c3 }
def k10c4 : Code := { maxStack := 1, maxLocals := 1, code := prog_31_method_15_code, exceptionTable := #[], attributes := #[] }
def k10m4 : Method := { name := "maxIdle", desc := "()I", sig := { parameters := [], returnType := some .int }, accessFlags := 1, code := some k10c4 }
def k10c5 : Code := { maxStack := 2, maxLocals := 1, code := prog_31_method_16_code, exceptionTable := #[], attributes := #[] }
def k10m5 : Method := { name := "maxWaitMillis", desc := "()J", sig := { parameters := [], returnType := some .long }, accessFlags := 1, code := some k10c5 }
def k10c6 : Code := { maxStack := 1, maxLocals := 1, code := prog_31_method_17_code, exceptionTable := #[], attributes := #[] }
def k10m6 : Method := { name := "exhaustedAction", desc := "()Lcom/example/rollback_for_flows/rollbackforflows/connector/PoolingProfile$ExhaustedAction;", sig := { parameters := [], returnType := some (.object "com/example/rollback_for_flows/rollbackforflows/connector/PoolingProfile$ExhaustedAction") }, accessFlags := 1, code := some k10c6 }
def k10c7 : Code := { maxStack := 1, maxLocals := 1, code := prog_31_method_18_code, exceptionTable := #[], attributes := #[] }
def k10m7 : Method := { name := "initialisationPolicy", desc := "()Lcom/example/rollback_for_flows/rollbackforflows/connector/PoolingProfile$InitialisationPolicy;", sig := { parameters := [], returnType := some (.object "com/example/rollback_for_flows/rollbackforflows/connector/PoolingProfile$InitialisationPolicy") }, accessFlags := 1, code := some k10c7 }
def k10c8 : Code := { maxStack := 1, maxLocals := 1, code := prog_31_method_19_code, exceptionTable := #[], attributes := #[] }
def k10m8 : Method := { name := "evicts", desc := "()Z", sig := { parameters := [], returnType := some .boolean }, accessFlags := 1, code := some k10c8 }
def k10c9 : Code := { maxStack := 2, maxLocals := 1, code := prog_31_method_20_code, exceptionTable := #[], attributes := #[] }
def k10m9 : Method := { name := "minEvictionMillis", desc := "()J", sig := { parameters := [], returnType := some .long }, accessFlags := 1, code := some k10c9 }
def k10c10 : Code := { maxStack := 2, maxLocals := 1, code := prog_31_method_21_code, exceptionTable := #[], attributes := #[] }
def k10m10 : Method := { name := "evictionCheckIntervalMillis", desc := "()J", sig := { parameters := [], returnType := some .long }, accessFlags := 1, code := some k10c10 }
/-- com/example/rollback_for_flows/rollbackforflows/connector/PoolingProfile -/
def k10 : Class := { plain "com/example/rollback_for_flows/rollbackforflows/connector/PoolingProfile" (some 9) with
  accessFlags := 49
  interfaces := #[]
  cf := some (fileOf pool10 20 #[.nestMembers #[108, 103]] #[{ accessFlags := 1, nameIndex := 5, descriptorIndex := 66, attributes := #[] }, { accessFlags := 1, nameIndex := 126, descriptorIndex := 127, attributes := #[] }, { accessFlags := 10, nameIndex := 23, descriptorIndex := 24, attributes := #[] }, { accessFlags := 1, nameIndex := 35, descriptorIndex := 135, attributes := #[] }, { accessFlags := 1, nameIndex := 39, descriptorIndex := 135, attributes := #[] }, { accessFlags := 1, nameIndex := 42, descriptorIndex := 137, attributes := #[] }, { accessFlags := 1, nameIndex := 8, descriptorIndex := 138, attributes := #[] }, { accessFlags := 1, nameIndex := 16, descriptorIndex := 139, attributes := #[] }, { accessFlags := 1, nameIndex := 52, descriptorIndex := 140, attributes := #[] }, { accessFlags := 1, nameIndex := 56, descriptorIndex := 137, attributes := #[] }, { accessFlags := 1, nameIndex := 59, descriptorIndex := 137, attributes := #[] }] 49 2 #[] #[{ accessFlags := 18, nameIndex := 35, descriptorIndex := 36, attributes := #[] }, { accessFlags := 18, nameIndex := 39, descriptorIndex := 36, attributes := #[] }, { accessFlags := 18, nameIndex := 42, descriptorIndex := 43, attributes := #[] }, { accessFlags := 18, nameIndex := 8, descriptorIndex := 46, attributes := #[] }, { accessFlags := 18, nameIndex := 16, descriptorIndex := 49, attributes := #[] }, { accessFlags := 18, nameIndex := 52, descriptorIndex := 53, attributes := #[] }, { accessFlags := 18, nameIndex := 56, descriptorIndex := 43, attributes := #[] }, { accessFlags := 18, nameIndex := 59, descriptorIndex := 43, attributes := #[] }, { accessFlags := 26, nameIndex := 62, descriptorIndex := 63, attributes := #[] }])
  fields := #[{ name := "maxActive", type := .int, accessFlags := 18, slot := 0, constantValue := 0 }, { name := "maxIdle", type := .int, accessFlags := 18, slot := 1, constantValue := 0 }, { name := "maxWaitMillis", type := .long, accessFlags := 18, slot := 2, constantValue := 0 }, { name := "exhaustedAction", type := (.object "com/example/rollback_for_flows/rollbackforflows/connector/PoolingProfile$ExhaustedAction"), accessFlags := 18, slot := 3, constantValue := 0 }, { name := "initialisationPolicy", type := (.object "com/example/rollback_for_flows/rollbackforflows/connector/PoolingProfile$InitialisationPolicy"), accessFlags := 18, slot := 4, constantValue := 0 }, { name := "evicts", type := .boolean, accessFlags := 18, slot := 5, constantValue := 0 }, { name := "minEvictionMillis", type := .long, accessFlags := 18, slot := 6, constantValue := 0 }, { name := "evictionCheckIntervalMillis", type := .long, accessFlags := 18, slot := 7, constantValue := 0 }, { name := "DEFAULTS", type := (.object "com/example/rollback_for_flows/rollbackforflows/connector/PoolingProfile"), accessFlags := 26, slot := 0, constantValue := 0 }]
  methods := #[k10m0, k10m1, k10m2, k10m3, k10m4, k10m5, k10m6, k10m7, k10m8, k10m9, k10m10]
  instanceTypes := #[.int, .int, .long, (.object "com/example/rollback_for_flows/rollbackforflows/connector/PoolingProfile$ExhaustedAction"), (.object "com/example/rollback_for_flows/rollbackforflows/connector/PoolingProfile$InitialisationPolicy"), .boolean, .long, .long]
  staticTypes := #[(.object "com/example/rollback_for_flows/rollbackforflows/connector/PoolingProfile")]
  resolved := Array.replicate 172 none
  statics := none }

def pool11 : Array CpInfo := pool [(2, .class_ 4), (1, u "java/lang/CharSequence"), (42, .class_ 48), (0, u "java/lang/CharSequence$1CodePointIterator"), (10, .class_ 60), (0, u "java/lang/CharSequence$1CharIterator"), (5, .class_ 67), (0, u "java/lang/Object")] 63

/-- java/lang/CharSequence -/
def k11 : Class := { plain "java/lang/CharSequence" (some 0) with
  accessFlags := 1537
  interfaces := #[]
  cf := some (fileOf pool11 2 #[.nestMembers #[47, 59]] #[] 1537 66 #[] #[])
  fields := #[]
  methods := #[]
  instanceTypes := #[]
  staticTypes := #[]
  resolved := Array.replicate 131 none
  statics := none }

def pool12 : Array CpInfo := pool [(1, .class_ 2), (0, u "java/lang/constant/ConstantDesc"), (0, .class_ 4), (0, u "java/lang/Object")] 32

/-- java/lang/constant/ConstantDesc -/
def k12 : Class := { plain "java/lang/constant/ConstantDesc" (some 0) with
  accessFlags := 1537
  interfaces := #[]
  cf := some (fileOf pool12 1 #[] #[] 1537 3 #[] #[])
  fields := #[]
  methods := #[]
  instanceTypes := #[]
  staticTypes := #[]
  resolved := Array.replicate 37 none
  statics := none }

def pool13 : Array CpInfo := pool [(2, .class_ 4), (1, u "java/lang/Object"), (0, u "<init>"), (0, u "()V"), (3, .class_ 12), (1, u "java/lang/String"), (0, u "value"), (0, u "[B"), (2, u "coder"), (0, u "B"), (2, u "hash"), (0, u "I"), (2, u "hashIsZero"), (0, u "Z"), (13, u "COMPACT_STRINGS"), (534, .class_ 576), (0, u "java/lang/CharSequence"), (22, u "CASE_INSENSITIVE_ORDER"), (0, u "Ljava/util/Comparator;"), (500, u "serialPersistentFields"), (0, u "[Ljava/io/ObjectStreamField;"), (0, .class_ 1104), (0, u "java/lang/String$CaseInsensitiveComparator"), (1, .class_ 1107), (0, u "java/io/Serializable"), (0, .class_ 1109), (0, u "java/lang/Comparable"), (0, .class_ 1111), (0, u "java/lang/constant/Constable"), (0, .class_ 1113), (0, u "java/lang/constant/ConstantDesc"), (2, u "serialVersionUID"), (0, u "J"), (3, u "REPL"), (0, u "C"), (2, u "LATIN1"), (1, u "UTF16")] 323

def k13m0 : Method := { name := "<init>", desc := "()V", sig := { parameters := [], returnType := none }, accessFlags := 1, code := none }
/-- java/lang/String -/
def k13 : Class := { plain "java/lang/String" (some 0) with
  accessFlags := 49
  interfaces := #[5, 4, 11, 3, 12]
  cf := some (fileOf pool13 10 #[.nestMembers #[1103]] #[{ accessFlags := 1, nameIndex := 5, descriptorIndex := 6, attributes := #[] }] 49 2 #[1106, 1108, 575, 1110, 1112] #[{ accessFlags := 18, nameIndex := 13, descriptorIndex := 14, attributes := #[] }, { accessFlags := 18, nameIndex := 17, descriptorIndex := 18, attributes := #[] }, { accessFlags := 2, nameIndex := 21, descriptorIndex := 22, attributes := #[] }, { accessFlags := 2, nameIndex := 25, descriptorIndex := 26, attributes := #[] }, { accessFlags := 26, nameIndex := 1116, descriptorIndex := 1117, attributes := #[] }, { accessFlags := 24, nameIndex := 40, descriptorIndex := 26, attributes := #[] }, { accessFlags := 26, nameIndex := 1101, descriptorIndex := 1102, attributes := #[] }, { accessFlags := 26, nameIndex := 1121, descriptorIndex := 1122, attributes := #[] }, { accessFlags := 25, nameIndex := 599, descriptorIndex := 600, attributes := #[] }, { accessFlags := 24, nameIndex := 1125, descriptorIndex := 18, attributes := #[] }, { accessFlags := 24, nameIndex := 1127, descriptorIndex := 18, attributes := #[] }])
  fields := #[{ name := "value", type := (.array .byte), accessFlags := 18, slot := 0, constantValue := 0 }, { name := "coder", type := .byte, accessFlags := 18, slot := 1, constantValue := 0 }, { name := "hash", type := .int, accessFlags := 2, slot := 2, constantValue := 0 }, { name := "hashIsZero", type := .boolean, accessFlags := 2, slot := 3, constantValue := 0 }, { name := "serialVersionUID", type := .long, accessFlags := 26, slot := 0, constantValue := 0 }, { name := "COMPACT_STRINGS", type := .boolean, accessFlags := 24, slot := 1, constantValue := 0 }, { name := "serialPersistentFields", type := (.array (.object "java/io/ObjectStreamField")), accessFlags := 26, slot := 2, constantValue := 0 }, { name := "REPL", type := .char, accessFlags := 26, slot := 3, constantValue := 0 }, { name := "CASE_INSENSITIVE_ORDER", type := (.object "java/util/Comparator"), accessFlags := 25, slot := 4, constantValue := 0 }, { name := "LATIN1", type := .byte, accessFlags := 24, slot := 5, constantValue := 0 }, { name := "UTF16", type := .byte, accessFlags := 24, slot := 6, constantValue := 0 }]
  methods := #[k13m0]
  instanceTypes := #[(.array .byte), .byte, .int, .boolean]
  staticTypes := #[.long, .boolean, (.array (.object "java/io/ObjectStreamField")), .char, (.object "java/util/Comparator"), .byte, .byte]
  resolved := Array.replicate 1451 none
  statics := none }

def pool14 : Array CpInfo := pool [(2, .class_ 4), (1, u "java/lang/Object"), (0, u "<init>"), (0, u "()V"), (35, .class_ 44), (1, u "java/util/Objects"), (0, u "requireNonNull"), (48, u "(Ljava/lang/Object;Ljava/lang/String;)Ljava/lang/Object;")] 89

def k14m0 : Method := { name := "<init>", desc := "()V", sig := { parameters := [], returnType := none }, accessFlags := 2, code := none }
def k14c1 : Code := { maxStack := 3, maxLocals := 2, code := jdk_31_method_11_code, exceptionTable := #[], attributes := #[] }
def k14m1 : Method := { name := "requireNonNull", desc := "(Ljava/lang/Object;Ljava/lang/String;)Ljava/lang/Object;", sig := { parameters := [(.object "java/lang/Object"), (.object "java/lang/String")], returnType := some (.object "java/lang/Object") }, accessFlags := 9, code := some k14c1 }
/-- java/util/Objects -/
def k14 : Class := { plain "java/util/Objects" (some 0) with
  accessFlags := 49
  interfaces := #[]
  cf := some (fileOf pool14 42 #[] #[{ accessFlags := 2, nameIndex := 5, descriptorIndex := 6, attributes := #[] }, { accessFlags := 9, nameIndex := 45, descriptorIndex := 94, attributes := #[] }] 49 2 #[] #[])
  fields := #[]
  methods := #[k14m0, k14m1]
  instanceTypes := #[]
  staticTypes := #[]
  resolved := Array.replicate 184 none
  statics := none }

def pool15 : Array CpInfo := pool [(1, u "java/lang/Cloneable"), (0, .class_ 1), (0, u "java/lang/Object"), (0, .class_ 3)] 3

/-- java/lang/Cloneable -/
def k15 : Class := { plain "java/lang/Cloneable" (some 0) with
  accessFlags := 1537
  interfaces := #[]
  cf := some (fileOf pool15 2 #[] #[] 1537 4 #[] #[])
  fields := #[]
  methods := #[]
  instanceTypes := #[]
  staticTypes := #[]
  resolved := Array.replicate 8 none
  statics := none }

/-- the primitive byte -/
def k16 : Class := { plain "byte" none with kind := .primitive 'B', accessFlags := 0x411 }
/-- [B -/
def k17 : Class := { plain "[B" (some 0) with kind := .array 16 .byte, interfaces := #[15, 5], accessFlags := 1041 }

/-- the primitive int -/
def k18 : Class := { plain "int" none with kind := .primitive 'I', accessFlags := 0x411 }
/-- [I -/
def k19 : Class := { plain "[I" (some 0) with kind := .array 18 .int, interfaces := #[15, 5], accessFlags := 1041 }

def heap : Heap := #[{ cls := 7, slots := #[.ref 2, .ref 3, .ref 4, .null], vm := .statics 7 },
  { cls := 8, slots := #[.ref 5, .ref 6, .ref 7, .null], vm := .statics 8 },
  { cls := 7, slots := #[.null, .int 0, .int 0], vm := .none },
  { cls := 7, slots := #[.null, .int 1, .int 0], vm := .none },
  { cls := 7, slots := #[.null, .int 2, .int 0], vm := .none },
  { cls := 8, slots := #[.null, .int 0, .int 0], vm := .none },
  { cls := 8, slots := #[.null, .int 1, .int 0], vm := .none },
  { cls := 8, slots := #[.null, .int 2, .int 0], vm := .none }]
def classes : Array Class := #[k0, k1, k2, k3, k4, k5, k6, k7, k8, k9, k10, k11, k12, k13, k14, k15, k16, k17, k18, k19]
def interned : List (Array UInt16 × Addr) := []
def slotsUsed : Nat := 26
def theMethod : MethodId := ⟨1, 3⟩
def args0 : Array Value := #[.int 5, .int 3, .long 7, .int 9, .long 11, .long 13]
def aboutOver (below : List Frame) : State where
  vm := { classes := classes, interned := interned.toArray }
  heap := heap
  slotsUsed := slotsUsed
  threads := #[{ frames := .invoking theMethod args0 :: below }]
def below0 : List Frame := [.native { method := ⟨0, 0⟩, args := #[] }]
def about1 : State := aboutOver below0
def p0 : Program := .bare "" "" ""
def e0 : Env := launch0.env 0 0 0
theorem w_frames : about1.frames = Frame.invoking theMethod args0 :: below0 := rfl
set_option maxRecDepth 65536 in
theorem w_args : argsFit about1.vm theMethod args0 = true := by decide +kernel
set_option maxRecDepth 65536 in
theorem w_heap : heapFits about1 = true := by decide +kernel
set_option maxRecDepth 65536 in
theorem w_runnable : about1.curStatus? = some .runnable := by decide +kernel
set_option maxRecDepth 65536 in
theorem w_alone : about1.alone = true := by decide +kernel
set_option maxRecDepth 65536 in
theorem w_named : about1.methodNamed? x = some theMethod := by decide +kernel
set_option maxRecDepth 65536 in
theorem w_hears : about1.hears theMethod below0 = true := by decide +kernel
set_option maxRecDepth 65536 in
theorem w_ripe : about1.ripe theMethod args0 below0 = true := by decide +kernel
theorem w_running : about1.status = .running := rfl
set_option maxRecDepth 65536 in
theorem w_room : about1.hasRoom e0.platform room_1 = true :=
  launch0.hasRoom_least _ room_1 (by decide +kernel) (by decide +kernel) (by decide +kernel) (by decide +kernel) (by decide +kernel) (by decide +kernel)
theorem allAtoms_all (ts : List Jvm.Cond) (a : Array Jvm.Value) (st : Jvm.State) : (allAtoms ts).before a st = ts.all (fun c => c.before a st) := by
  induction ts with
  | nil => rfl
  | cons c t ih =>
    show (Jvm.Cond.and c (allAtoms t)).before a st = _
    rw [Jvm.Cond.before_and, ih, List.all_cons]
def words1 : List Jvm.Cond := Jvm.Cond.code x code maxLocals ret :: tables_1
/-- a 'code' word, met by the world's own term for the bytes: nothing is compared byte by byte -/
theorem code_word {y : MethodName} {bytes : ByteArray} {mx : Nat} {rt : Option FieldType} {a : Array Value} {s : State} {m : MethodId} {meth : Method} {c : Code} (h1 : s.methodNamed? y = some m) (h2 : s.vm.method? m = some meth) (h3 : meth.code = some c) (h4 : c.code = bytes)
    (h5 : (c.maxLocals == mx && c.exceptionTable.isEmpty && decide (c.maxStack ≤ mostOperands) && decide (meth.sig.returnType = rt) && !meth.locks && decide (parseMethodDescriptor y.desc = some meth.sig)) = true) : (Jvm.Cond.code y bytes mx rt).before a s = true := by
  simp only [Bool.and_eq_true, beq_iff_eq, Bool.not_eq_true', decide_eq_true_eq] at h5
  obtain ⟨⟨⟨⟨⟨g1, g2⟩, g3⟩, g4⟩, g5⟩, g6⟩ := h5
  simp [Cond.before, Cond.holds, Cond.value, h1, h2, h3, h4, g1, g2, g3, g4, g5, g6]
def isCode : Jvm.Cond → Bool
  | .code _ _ _ _ => true
  | _ => false
theorem all_split {L : List Jvm.Cond} {P : Jvm.Cond → Bool} (h1 : L.all (fun c => isCode c || P c) = true) (h2 : ∀ c ∈ L.filter isCode, P c = true) : L.all P = true := by
  refine List.all_eq_true.mpr fun c hc => ?_
  have h := List.all_eq_true.mp h1 c hc
  rcases Bool.eq_false_or_eq_true (isCode c) with hi | hi
  · exact h2 c (List.mem_filter.mpr ⟨hc, hi⟩)
  · simpa [hi] using h
set_option maxRecDepth 65536 in
theorem w_c0 : (Jvm.Cond.code x code maxLocals ret).before args0 about1 = true := code_word (m := ⟨1, 3⟩) (meth := k1m3) (c := k1c3) (by decide +kernel) rfl rfl rfl (by decide +kernel)
set_option maxRecDepth 65536 in
theorem w_c1 : (Jvm.Cond.code ({ cls := "java/lang/Math", name := "max", desc := "(II)I" } : Jvm.MethodName) jdk_29_method_65_code (2 : Nat) (Option.some Jvm.ClassFile.FieldType.int)).before args0 about1 = true := code_word (m := ⟨2, 1⟩) (meth := k2m1) (c := k2c1) (by decide +kernel) rfl rfl rfl (by decide +kernel)
set_option maxRecDepth 65536 in
theorem w_c2 : (Jvm.Cond.code ({ cls := "com/example/rollback_for_flows/rollbackforflows/connector/PoolingProfileWithExhaustedActionPinLaw", name := "action", desc := "(I)Lcom/example/rollback_for_flows/rollbackforflows/connector/PoolingProfile$ExhaustedAction;" } : Jvm.MethodName) method_2_code (1 : Nat) (Option.some (Jvm.ClassFile.FieldType.object "com/example/rollback_for_flows/rollbackforflows/connector/PoolingProfile$ExhaustedAction"))).before args0 about1 = true := code_word (m := ⟨1, 1⟩) (meth := k1m1) (c := k1c1) (by decide +kernel) rfl rfl rfl (by decide +kernel)
set_option maxRecDepth 65536 in
theorem w_c3 : (Jvm.Cond.code ({ cls := "com/example/rollback_for_flows/rollbackforflows/connector/PoolingProfileWithExhaustedActionPinLaw", name := "policy", desc := "(I)Lcom/example/rollback_for_flows/rollbackforflows/connector/PoolingProfile$InitialisationPolicy;" } : Jvm.MethodName) method_3_code (1 : Nat) (Option.some (Jvm.ClassFile.FieldType.object "com/example/rollback_for_flows/rollbackforflows/connector/PoolingProfile$InitialisationPolicy"))).before args0 about1 = true := code_word (m := ⟨1, 2⟩) (meth := k1m2) (c := k1c2) (by decide +kernel) rfl rfl rfl (by decide +kernel)
set_option maxRecDepth 65536 in
theorem w_c4 : (Jvm.Cond.code ({ cls := "java/lang/Math", name := "max", desc := "(JJ)J" } : Jvm.MethodName) jdk_29_method_66_code (4 : Nat) (Option.some Jvm.ClassFile.FieldType.long)).before args0 about1 = true := code_word (m := ⟨2, 2⟩) (meth := k2m2) (c := k2c2) (by decide +kernel) rfl rfl rfl (by decide +kernel)
set_option maxRecDepth 65536 in
theorem w_c5 : (Jvm.Cond.code ({ cls := "com/example/rollback_for_flows/rollbackforflows/connector/PoolingProfile", name := "<init>", desc := "(IIJLcom/example/rollback_for_flows/rollbackforflows/connector/PoolingProfile$ExhaustedAction;Lcom/example/rollback_for_flows/rollbackforflows/connector/PoolingProfile$InitialisationPolicy;ZJJ)V" } : Jvm.MethodName) prog_31_method_1_code (12 : Nat) (Option.none : Option Jvm.ClassFile.FieldType)).before args0 about1 = true := code_word (m := ⟨10, 0⟩) (meth := k10m0) (c := k10c0) (by decide +kernel) rfl rfl rfl (by decide +kernel)
set_option maxRecDepth 65536 in
theorem w_c6 : (Jvm.Cond.code ({ cls := "java/lang/Record", name := "<init>", desc := "()V" } : Jvm.MethodName) jdk_30_method_1_code (1 : Nat) (Option.none : Option Jvm.ClassFile.FieldType)).before args0 about1 = true := code_word (m := ⟨9, 0⟩) (meth := k9m0) (c := k9c0) (by decide +kernel) rfl rfl rfl (by decide +kernel)
set_option maxRecDepth 65536 in
theorem w_c7 : (Jvm.Cond.code ({ cls := "java/lang/Object", name := "<init>", desc := "()V" } : Jvm.MethodName) object_method_1_code (1 : Nat) (Option.none : Option Jvm.ClassFile.FieldType)).before args0 about1 = true := code_word (m := ⟨0, 0⟩) (meth := k0m0) (c := k0c0) (by decide +kernel) rfl rfl rfl (by decide +kernel)
set_option maxRecDepth 65536 in
theorem w_c8 : (Jvm.Cond.code ({ cls := "java/util/Objects", name := "requireNonNull", desc := "(Ljava/lang/Object;Ljava/lang/String;)Ljava/lang/Object;" } : Jvm.MethodName) jdk_31_method_11_code (2 : Nat) (Option.some (Jvm.ClassFile.FieldType.object "java/lang/Object"))).before args0 about1 = true := code_word (m := ⟨14, 1⟩) (meth := k14m1) (c := k14c1) (by decide +kernel) rfl rfl rfl (by decide +kernel)
set_option maxRecDepth 65536 in
theorem w_c9 : (Jvm.Cond.code ({ cls := "com/example/rollback_for_flows/rollbackforflows/connector/PoolingProfile", name := "requireAtLeast", desc := "(JJLjava/lang/String;)V" } : Jvm.MethodName) prog_31_method_10_code (5 : Nat) (Option.none : Option Jvm.ClassFile.FieldType)).before args0 about1 = true := code_word (m := ⟨10, 2⟩) (meth := k10m2) (c := k10c2) (by decide +kernel) rfl rfl rfl (by decide +kernel)
set_option maxRecDepth 65536 in
theorem w_c10 : (Jvm.Cond.code ({ cls := "com/example/rollback_for_flows/rollbackforflows/connector/PoolingProfile", name := "withExhaustedAction", desc := "(Lcom/example/rollback_for_flows/rollbackforflows/connector/PoolingProfile$ExhaustedAction;)Lcom/example/rollback_for_flows/rollbackforflows/connector/PoolingProfile;" } : Jvm.MethodName) prog_31_method_6_code (2 : Nat) (Option.some (Jvm.ClassFile.FieldType.object "com/example/rollback_for_flows/rollbackforflows/connector/PoolingProfile"))).before args0 about1 = true := code_word (m := ⟨10, 1⟩) (meth := k10m1) (c := k10c1) (by decide +kernel) rfl rfl rfl (by decide +kernel)
set_option maxRecDepth 65536 in
theorem w_c11 : (Jvm.Cond.code ({ cls := "com/example/rollback_for_flows/rollbackforflows/connector/PoolingProfile", name := "exhaustedAction", desc := "()Lcom/example/rollback_for_flows/rollbackforflows/connector/PoolingProfile$ExhaustedAction;" } : Jvm.MethodName) prog_31_method_17_code (1 : Nat) (Option.some (Jvm.ClassFile.FieldType.object "com/example/rollback_for_flows/rollbackforflows/connector/PoolingProfile$ExhaustedAction"))).before args0 about1 = true := code_word (m := ⟨10, 6⟩) (meth := k10m6) (c := k10c6) (by decide +kernel) rfl rfl rfl (by decide +kernel)
set_option maxRecDepth 65536 in
theorem w_c12 : (Jvm.Cond.code ({ cls := "com/example/rollback_for_flows/rollbackforflows/connector/PoolingProfile", name := "maxActive", desc := "()I" } : Jvm.MethodName) prog_31_method_14_code (1 : Nat) (Option.some Jvm.ClassFile.FieldType.int)).before args0 about1 = true := code_word (m := ⟨10, 3⟩) (meth := k10m3) (c := k10c3) (by decide +kernel) rfl rfl rfl (by decide +kernel)
set_option maxRecDepth 65536 in
theorem w_c13 : (Jvm.Cond.code ({ cls := "com/example/rollback_for_flows/rollbackforflows/connector/PoolingProfile", name := "maxIdle", desc := "()I" } : Jvm.MethodName) prog_31_method_15_code (1 : Nat) (Option.some Jvm.ClassFile.FieldType.int)).before args0 about1 = true := code_word (m := ⟨10, 4⟩) (meth := k10m4) (c := k10c4) (by decide +kernel) rfl rfl rfl (by decide +kernel)
set_option maxRecDepth 65536 in
theorem w_c14 : (Jvm.Cond.code ({ cls := "com/example/rollback_for_flows/rollbackforflows/connector/PoolingProfile", name := "maxWaitMillis", desc := "()J" } : Jvm.MethodName) prog_31_method_16_code (1 : Nat) (Option.some Jvm.ClassFile.FieldType.long)).before args0 about1 = true := code_word (m := ⟨10, 5⟩) (meth := k10m5) (c := k10c5) (by decide +kernel) rfl rfl rfl (by decide +kernel)
set_option maxRecDepth 65536 in
theorem w_c15 : (Jvm.Cond.code ({ cls := "com/example/rollback_for_flows/rollbackforflows/connector/PoolingProfile", name := "initialisationPolicy", desc := "()Lcom/example/rollback_for_flows/rollbackforflows/connector/PoolingProfile$InitialisationPolicy;" } : Jvm.MethodName) prog_31_method_18_code (1 : Nat) (Option.some (Jvm.ClassFile.FieldType.object "com/example/rollback_for_flows/rollbackforflows/connector/PoolingProfile$InitialisationPolicy"))).before args0 about1 = true := code_word (m := ⟨10, 7⟩) (meth := k10m7) (c := k10c7) (by decide +kernel) rfl rfl rfl (by decide +kernel)
set_option maxRecDepth 65536 in
theorem w_c16 : (Jvm.Cond.code ({ cls := "com/example/rollback_for_flows/rollbackforflows/connector/PoolingProfile", name := "evicts", desc := "()Z" } : Jvm.MethodName) prog_31_method_19_code (1 : Nat) (Option.some Jvm.ClassFile.FieldType.boolean)).before args0 about1 = true := code_word (m := ⟨10, 8⟩) (meth := k10m8) (c := k10c8) (by decide +kernel) rfl rfl rfl (by decide +kernel)
set_option maxRecDepth 65536 in
theorem w_c17 : (Jvm.Cond.code ({ cls := "com/example/rollback_for_flows/rollbackforflows/connector/PoolingProfile", name := "minEvictionMillis", desc := "()J" } : Jvm.MethodName) prog_31_method_20_code (1 : Nat) (Option.some Jvm.ClassFile.FieldType.long)).before args0 about1 = true := code_word (m := ⟨10, 9⟩) (meth := k10m9) (c := k10c9) (by decide +kernel) rfl rfl rfl (by decide +kernel)
set_option maxRecDepth 65536 in
theorem w_c18 : (Jvm.Cond.code ({ cls := "com/example/rollback_for_flows/rollbackforflows/connector/PoolingProfile", name := "evictionCheckIntervalMillis", desc := "()J" } : Jvm.MethodName) prog_31_method_21_code (1 : Nat) (Option.some Jvm.ClassFile.FieldType.long)).before args0 about1 = true := code_word (m := ⟨10, 10⟩) (meth := k10m10) (c := k10c10) (by decide +kernel) rfl rfl rfl (by decide +kernel)
def codes1 : List Jvm.Cond := [Jvm.Cond.code x code maxLocals ret, Jvm.Cond.code ({ cls := "java/lang/Math", name := "max", desc := "(II)I" } : Jvm.MethodName) jdk_29_method_65_code (2 : Nat) (Option.some Jvm.ClassFile.FieldType.int), Jvm.Cond.code ({ cls := "com/example/rollback_for_flows/rollbackforflows/connector/PoolingProfileWithExhaustedActionPinLaw", name := "action", desc := "(I)Lcom/example/rollback_for_flows/rollbackforflows/connector/PoolingProfile$ExhaustedAction;" } : Jvm.MethodName) method_2_code (1 : Nat) (Option.some (Jvm.ClassFile.FieldType.object "com/example/rollback_for_flows/rollbackforflows/connector/PoolingProfile$ExhaustedAction")), Jvm.Cond.code ({ cls := "com/example/rollback_for_flows/rollbackforflows/connector/PoolingProfileWithExhaustedActionPinLaw", name := "policy", desc := "(I)Lcom/example/rollback_for_flows/rollbackforflows/connector/PoolingProfile$InitialisationPolicy;" } : Jvm.MethodName) method_3_code (1 : Nat) (Option.some (Jvm.ClassFile.FieldType.object "com/example/rollback_for_flows/rollbackforflows/connector/PoolingProfile$InitialisationPolicy")), Jvm.Cond.code ({ cls := "java/lang/Math", name := "max", desc := "(JJ)J" } : Jvm.MethodName) jdk_29_method_66_code (4 : Nat) (Option.some Jvm.ClassFile.FieldType.long), Jvm.Cond.code ({ cls := "com/example/rollback_for_flows/rollbackforflows/connector/PoolingProfile", name := "<init>", desc := "(IIJLcom/example/rollback_for_flows/rollbackforflows/connector/PoolingProfile$ExhaustedAction;Lcom/example/rollback_for_flows/rollbackforflows/connector/PoolingProfile$InitialisationPolicy;ZJJ)V" } : Jvm.MethodName) prog_31_method_1_code (12 : Nat) (Option.none : Option Jvm.ClassFile.FieldType), Jvm.Cond.code ({ cls := "java/lang/Record", name := "<init>", desc := "()V" } : Jvm.MethodName) jdk_30_method_1_code (1 : Nat) (Option.none : Option Jvm.ClassFile.FieldType), Jvm.Cond.code ({ cls := "java/lang/Object", name := "<init>", desc := "()V" } : Jvm.MethodName) object_method_1_code (1 : Nat) (Option.none : Option Jvm.ClassFile.FieldType), Jvm.Cond.code ({ cls := "java/util/Objects", name := "requireNonNull", desc := "(Ljava/lang/Object;Ljava/lang/String;)Ljava/lang/Object;" } : Jvm.MethodName) jdk_31_method_11_code (2 : Nat) (Option.some (Jvm.ClassFile.FieldType.object "java/lang/Object")), Jvm.Cond.code ({ cls := "com/example/rollback_for_flows/rollbackforflows/connector/PoolingProfile", name := "requireAtLeast", desc := "(JJLjava/lang/String;)V" } : Jvm.MethodName) prog_31_method_10_code (5 : Nat) (Option.none : Option Jvm.ClassFile.FieldType), Jvm.Cond.code ({ cls := "com/example/rollback_for_flows/rollbackforflows/connector/PoolingProfile", name := "withExhaustedAction", desc := "(Lcom/example/rollback_for_flows/rollbackforflows/connector/PoolingProfile$ExhaustedAction;)Lcom/example/rollback_for_flows/rollbackforflows/connector/PoolingProfile;" } : Jvm.MethodName) prog_31_method_6_code (2 : Nat) (Option.some (Jvm.ClassFile.FieldType.object "com/example/rollback_for_flows/rollbackforflows/connector/PoolingProfile")), Jvm.Cond.code ({ cls := "com/example/rollback_for_flows/rollbackforflows/connector/PoolingProfile", name := "exhaustedAction", desc := "()Lcom/example/rollback_for_flows/rollbackforflows/connector/PoolingProfile$ExhaustedAction;" } : Jvm.MethodName) prog_31_method_17_code (1 : Nat) (Option.some (Jvm.ClassFile.FieldType.object "com/example/rollback_for_flows/rollbackforflows/connector/PoolingProfile$ExhaustedAction")), Jvm.Cond.code ({ cls := "com/example/rollback_for_flows/rollbackforflows/connector/PoolingProfile", name := "maxActive", desc := "()I" } : Jvm.MethodName) prog_31_method_14_code (1 : Nat) (Option.some Jvm.ClassFile.FieldType.int), Jvm.Cond.code ({ cls := "com/example/rollback_for_flows/rollbackforflows/connector/PoolingProfile", name := "maxIdle", desc := "()I" } : Jvm.MethodName) prog_31_method_15_code (1 : Nat) (Option.some Jvm.ClassFile.FieldType.int), Jvm.Cond.code ({ cls := "com/example/rollback_for_flows/rollbackforflows/connector/PoolingProfile", name := "maxWaitMillis", desc := "()J" } : Jvm.MethodName) prog_31_method_16_code (1 : Nat) (Option.some Jvm.ClassFile.FieldType.long), Jvm.Cond.code ({ cls := "com/example/rollback_for_flows/rollbackforflows/connector/PoolingProfile", name := "initialisationPolicy", desc := "()Lcom/example/rollback_for_flows/rollbackforflows/connector/PoolingProfile$InitialisationPolicy;" } : Jvm.MethodName) prog_31_method_18_code (1 : Nat) (Option.some (Jvm.ClassFile.FieldType.object "com/example/rollback_for_flows/rollbackforflows/connector/PoolingProfile$InitialisationPolicy")), Jvm.Cond.code ({ cls := "com/example/rollback_for_flows/rollbackforflows/connector/PoolingProfile", name := "evicts", desc := "()Z" } : Jvm.MethodName) prog_31_method_19_code (1 : Nat) (Option.some Jvm.ClassFile.FieldType.boolean), Jvm.Cond.code ({ cls := "com/example/rollback_for_flows/rollbackforflows/connector/PoolingProfile", name := "minEvictionMillis", desc := "()J" } : Jvm.MethodName) prog_31_method_20_code (1 : Nat) (Option.some Jvm.ClassFile.FieldType.long), Jvm.Cond.code ({ cls := "com/example/rollback_for_flows/rollbackforflows/connector/PoolingProfile", name := "evictionCheckIntervalMillis", desc := "()J" } : Jvm.MethodName) prog_31_method_21_code (1 : Nat) (Option.some Jvm.ClassFile.FieldType.long)]
set_option maxRecDepth 65536 in
theorem codes_eq : words1.filter isCode = codes1 := rfl
theorem w_codes : ∀ c ∈ words1.filter isCode, c.before args0 about1 = true := by
  rw [codes_eq]
  intro c hc
  simp only [codes1, List.mem_cons, List.not_mem_nil, or_false] at hc
  rcases hc with rfl | rfl | rfl | rfl | rfl | rfl | rfl | rfl | rfl | rfl | rfl | rfl | rfl | rfl | rfl | rfl | rfl | rfl | rfl
  · exact w_c0
  · exact w_c1
  · exact w_c2
  · exact w_c3
  · exact w_c4
  · exact w_c5
  · exact w_c6
  · exact w_c7
  · exact w_c8
  · exact w_c9
  · exact w_c10
  · exact w_c11
  · exact w_c12
  · exact w_c13
  · exact w_c14
  · exact w_c15
  · exact w_c16
  · exact w_c17
  · exact w_c18
set_option maxRecDepth 65536 in
theorem w_t1 : (words1.take 24).all (fun c => isCode c || c.before args0 about1) = true := by decide +kernel
set_option maxRecDepth 65536 in
theorem w_t2 : ((words1.drop 24).take 24).all (fun c => isCode c || c.before args0 about1) = true := by decide +kernel
set_option maxRecDepth 65536 in
theorem w_t3 : (((words1.drop 24).drop 24).take 24).all (fun c => isCode c || c.before args0 about1) = true := by decide +kernel
set_option maxRecDepth 65536 in
theorem w_t4 : ((((words1.drop 24).drop 24).drop 24).take 24).all (fun c => isCode c || c.before args0 about1) = true := by decide +kernel
set_option maxRecDepth 65536 in
theorem w_t5 : (((((words1.drop 24).drop 24).drop 24).drop 24).take 24).all (fun c => isCode c || c.before args0 about1) = true := by decide +kernel
set_option maxRecDepth 65536 in
theorem w_t6 : (((((words1.drop 24).drop 24).drop 24).drop 24).drop 24).all (fun c => isCode c || c.before args0 about1) = true := by decide +kernel
theorem w_tables : (allAtoms (Jvm.Cond.code x code maxLocals ret :: tables_1)).before args0 about1 = true := by
  rw [allAtoms_all]
  show words1.all (fun c => c.before args0 about1) = true
  refine all_split ?_ w_codes
  rw [← List.take_append_drop 24 words1, List.all_append, w_t1, ← List.take_append_drop 24 (words1.drop 24), List.all_append, w_t2, ← List.take_append_drop 24 ((words1.drop 24).drop 24), List.all_append, w_t3, ← List.take_append_drop 24 (((words1.drop 24).drop 24).drop 24), List.all_append, w_t4, ← List.take_append_drop 24 ((((words1.drop 24).drop 24).drop 24).drop 24), List.all_append, w_t5, w_t6]
  rfl
set_option maxRecDepth 65536 in
theorem w_case : (Jvm.Cond.and given_1 narrow_1).before args0 about1 = true := by decide +kernel
theorem w_applies : (headSpec (Jvm.Cond.code x code maxLocals ret :: tables_1) room_1).applies x e0.platform about1 = true :=
  (Spec.applies_iff w_frames).mpr ⟨w_running, w_runnable, w_alone, w_named, w_hears, w_ripe, w_room, w_tables⟩
theorem atStart : AtStart classFile x code maxLocals ret World_1 tables_1 room_1 Calls_1 rest_1 Pre_1 launch0 p0 e0 about1 theMethod args0 below0 :=
  ⟨lists_1, trivial, launch0.admits_env _ _ _, launch0.least_env, fairChoices_fair.cas, fairChoices_fair.clock, w_frames, w_args, w_heap, w_applies, trivial, trivial, w_case⟩
end start1
theorem witness_1 : WitnessClaimed_1 := ⟨start1.p0, start1.e0, start1.about1, start1.theMethod, start1.args0, start1.below0, start1.atStart⟩
end Jvm.Pilot.@@N@@
